import JvmDerived
import JvmDerived.Pilot.@@N@@Statement
import JvmDerived.Pilot.@@N@@Code
set_option linter.unusedVariables false
set_option linter.unusedSimpArgs false
namespace Jvm.RoadKit
open Sem ClassFile Op Lib Jvm.Stand Jvm.Free Jvm.LawKit
section New
variable {p : Program} {l : Launch} {e : Env} {R : Room} {s : State} {m : MethodId} {args : Array Value} {below : List Frame} {meth : Method} {c : Code} {T : State} {locs : List Loc} {cells slots : Nat}
theorem retI (X : Stand p l e R s m args below meth c T locs cells slots) (hx : p.tables.exec = Jvm.exec) {pc : Nat} {Ls : Array Slot} {z : Int32} {rest : List Value} (hret : meth.sig.returnType = some .int) (hd : decode c.code pc = .ok (.ireturn, 1)) {fs : List Frame}
    (hl : ∀ (f : JFrame) (acts : List Action), f.method = m → f.locked = none → f.entered = [] → (doReturn e (T.setTop f) acts (some (.int z))).1 = T.setFrames fs) : Steps p.tables e below (T.setTop (mkF m pc Ls (.int z :: rest))) (T.setFrames fs) := by
  have hm' : T.vm.method? m = some meth := X.method'
  have hn : narrow .int (.int z) = .int z := rfl
  show Steps p.tables e below (T.setTop { method := m, pc := pc, locals := Ls, stack := _ :: rest, locked := none }) _
  jvm_step X.here [X.here.top, hx, hd, hm', hret, hn]
  first | (intro acts; rw [hl _ acts rfl rfl rfl]) | rw [hl _ _ rfl rfl rfl]
  exact Steps.refl _
end New
end Jvm.RoadKit
namespace Jvm.Pilot.@@N@@
open Jvm Jvm.ClassFile Sem Op Lib Jvm.Free Jvm.Stand Jvm.LawKit Jvm.RoadKit Bundle Jvm.Pilot.@@N@@.Jvm.D
/-- a boolean of the law's, as the int that the machine holds -/
def bI (P : Prop) [Decidable P] : Int32 := if P then 1 else 0
theorem bI_t {P : Prop} [Decidable P] (h : P) : bI P = (1 : Int32) := if_pos h
theorem bI_f {P : Prop} [Decidable P] (h : ¬ P) : bI P = (0 : Int32) := if_neg h
theorem bI_n {P : Prop} [Decidable P] (h : P) : ¬ (bI P = (0 : Int32)) := by rw [bI_t h]; decide
theorem bI_iff {P Q : Prop} [Decidable P] [Decidable Q] (h : P ↔ Q) : bI P = bI Q := by
  by_cases p : P
  · rw [bI_t p, bI_t (h.mp p)]
  · rw [bI_f p, bI_f fun q => p (h.mpr q)]
theorem bI_nar {P : Prop} [Decidable P] : nar .boolean (bI P) = bI P := by
  by_cases p : P
  · rw [bI_t p]; rfl
  · rw [bI_f p]; rfl
theorem d1_0 : decode prog_19_method_1_code 0 = .ok (.aload_n 0, 1) := by decide +kernel
theorem d1_1 : decode prog_19_method_1_code 1 = .ok (.invokespecial 1, 3) := by decide +kernel
theorem d1_4 : decode prog_19_method_1_code 4 = .ok (.aload_n 0, 1) := by decide +kernel
theorem d1_5 : decode prog_19_method_1_code 5 = .ok (.iload_n 1, 1) := by decide +kernel
theorem d1_6 : decode prog_19_method_1_code 6 = .ok (.putfield 7, 3) := by decide +kernel
theorem d1_9 : decode prog_19_method_1_code 9 = .ok (.return_, 1) := by decide +kernel
theorem pn_1 : plainName "com/example/shieldwall/shieldwall/engine/MoraleState" = true := by first | (simp [plainName, overriddenIn]; done) | decide +kernel
theorem ef_1 (m : MethodId) (x0 : Addr) (x1 : Int32) : entryFrame m #[(.ref x0), (.int x1)] 2 = mkF m 0 #[.val (.ref x0), .val (.int x1)] [] := by first | (simp [entryFrame, mkF, argsToLocals, Value.category]; done) | rfl
def Q1 (Z : State) (a1_0 : Addr) (p1_1 : Int32) (w1_startStrength_a1_0 : Int32) (w1_lost_a1_0 : Int32) (w1_lostInARow_a1_0 : Int32) (w1_won_a1_0 : Int32) (w1_routs_a1_0 : Int32) (w1_routing_a1_0 : Int32) (h0 : Heap) (n0 : Nat) (v : Option Value) (h : Heap) (L : List Loc) : Prop := v = none ∧ Fr n0 L ∧ Keep h0 h [a1_0] ∧ Exa Z h a1_0 "com/example/shieldwall/shieldwall/engine/MoraleState" ∧ Fld Z h a1_0 "com/example/shieldwall/shieldwall/engine/MoraleState" "lost" "I" (.int w1_lost_a1_0) ∧ Fld Z h a1_0 "com/example/shieldwall/shieldwall/engine/MoraleState" "lostInARow" "I" (.int w1_lostInARow_a1_0) ∧ Fld Z h a1_0 "com/example/shieldwall/shieldwall/engine/MoraleState" "won" "I" (.int w1_won_a1_0) ∧ Fld Z h a1_0 "com/example/shieldwall/shieldwall/engine/MoraleState" "routs" "I" (.int w1_routs_a1_0) ∧ Fld Z h a1_0 "com/example/shieldwall/shieldwall/engine/MoraleState" "routing" "Z" (.int w1_routing_a1_0) ∧ Fld Z h a1_0 "com/example/shieldwall/shieldwall/engine/MoraleState" "startStrength" "I" (.int p1_1)
set_option maxRecDepth 65536 in
set_option maxHeartbeats 40000000 in
theorem rm1 (l : Launch) (Z : State) (a0 : Array Value) (hw : ∀ d ∈ tables_1, d.before a0 Z = true) (ws : List Jvm.Cond) (a1_0 : Addr) (p1_1 : Int32) (w1_startStrength_a1_0 : Int32) (w1_lost_a1_0 : Int32) (w1_lostInARow_a1_0 : Int32) (w1_won_a1_0 : Int32) (w1_routs_a1_0 : Int32) (w1_routing_a1_0 : Int32) (h0 : Heap) (n0 : Nat) (Z0 : n0 ≤ h0.size) (E_a1_0 : Exa Z h0 a1_0 "com/example/shieldwall/shieldwall/engine/MoraleState") (F_startStrength_a1_0 : Fld Z h0 a1_0 "com/example/shieldwall/shieldwall/engine/MoraleState" "startStrength" "I" (.int w1_startStrength_a1_0)) (F_lost_a1_0 : Fld Z h0 a1_0 "com/example/shieldwall/shieldwall/engine/MoraleState" "lost" "I" (.int w1_lost_a1_0)) (F_lostInARow_a1_0 : Fld Z h0 a1_0 "com/example/shieldwall/shieldwall/engine/MoraleState" "lostInARow" "I" (.int w1_lostInARow_a1_0)) (F_won_a1_0 : Fld Z h0 a1_0 "com/example/shieldwall/shieldwall/engine/MoraleState" "won" "I" (.int w1_won_a1_0)) (F_routs_a1_0 : Fld Z h0 a1_0 "com/example/shieldwall/shieldwall/engine/MoraleState" "routs" "I" (.int w1_routs_a1_0)) (F_routing_a1_0 : Fld Z h0 a1_0 "com/example/shieldwall/shieldwall/engine/MoraleState" "routing" "Z" (.int w1_routing_a1_0)) (g_a1_0 : n0 ≤ a1_0) :
    MetFree l (⟨"com/example/shieldwall/shieldwall/engine/MoraleState", "<init>", "(I)V"⟩ : MethodName) (head1 (Jvm.Cond.code (⟨"com/example/shieldwall/shieldwall/engine/MoraleState", "<init>", "(I)V"⟩ : MethodName) prog_19_method_1_code 2 none :: ws) ({ frames := 1, cells := 0, slots := 0, locals := 12 } : Room)) (fun a U => a = #[(.ref a1_0), (.int p1_1)] ∧ Z.Warmed39 U.vm ∧ U.heap = h0) (fun _ _ _ _ _ => True) (fun _ U o U' => ∃ v L, o = .returned v ∧ Q1 Z a1_0 p1_1 w1_startStrength_a1_0 w1_lost_a1_0 w1_lostInARow_a1_0 w1_won_a1_0 w1_routs_a1_0 w1_routing_a1_0 h0 n0 v U'.heap L ∧ FrameEnd U o U' L ({ frames := 1, cells := 0, slots := 0, locals := 12 } : Room).cells ({ frames := 1, cells := 0, slots := 0, locals := 12 } : Room).slots) := by
  refine MetFree.of_bodySF (plainFor_of_name pn_1) hisR ?_
  intro p e s m args below meth c s₁ Bd hml0 hP hK
  obtain ⟨rfl, hZ, hh⟩ := hP
  have hW : ∀ (i : Nat) (d : Jvm.Cond), tables_1[i]? = some d → d.before a0 Z = true := fun i d h => hw d (List.mem_of_getElem? h)
  have hx := Bd.exec
  have hby := Bd.bytes
  have hml : c.maxLocals = 2 := hml0
  have hown : s.vm.findClass "com/example/shieldwall/shieldwall/engine/MoraleState" = some m.cls := findClass_of_methodNamed Bd.named
  have hnm := (name_of_methodNamed Bd.named Bd.method).1
  have X0 : Stand p l e ({ frames := 1, cells := 0, slots := 0, locals := 12 } : Room) s m #[(.ref a1_0), (.int p1_1)] below meth c s₁ [] 0 0 := Stand.of_body Bd
  have e0 : s₁.heap = h0 := by rw [← hh, Bd.state]; rfl
  have N0 := Fr.nil n0
  have pre0 : ∀ t, Steps p.tables e below (s₁.setTop (mkF m 0 #[.val (.ref a1_0), .val (.int p1_1)] [])) t → Steps p.tables e below (s₁.setTop (entryFrame m #[(.ref a1_0), (.int p1_1)] 2)) t := fun t k => castTop (ef_1 m a1_0 p1_1) k
  obtain ⟨T1, X1, e1, st1⟩ := initO X0 hx hZ hown (hW 6 _ rfl) (hW 7 _ rfl) (hW 8 _ rfl) e0 (g := (mkF m 1 #[.val (.ref a1_0), .val (.int p1_1)] [(.ref a1_0)])) rfl (by rw [hml]; rfl) rfl (hb hby d1_1) (by decide) (W := 0) (by show 2 * 0 + _ ≤ _; exact Nat.le_of_eq rfl) (by decide)
  have pre2 : ∀ t, Steps p.tables e below (T1.setTop (mkF m 4 #[.val (.ref a1_0), .val (.int p1_1)] [])) t → Steps p.tables e below (s₁.setTop (entryFrame m #[(.ref a1_0), (.int p1_1)] 2)) t := fun t k => pre0 t (by
    show Steps p.tables e below (s₁.setTop (mkF m 0 #[.val (.ref a1_0), .val (.int p1_1)] [])) _
    refine XS.aloadN X0.here hx rfl (hb hby d1_0) rfl rfl ?_
    show Steps p.tables e below (s₁.setTop (mkF m 1 #[.val (.ref a1_0), .val (.int p1_1)] [(.ref a1_0)])) _
    refine st1 _ ?_
    exact k)
  obtain ⟨T3, h3, X3, e3, W3, st3⟩ := putF X1 hx hZ hown (host := "") (Or.inl (hW 9 _ rfl)) Via.refl e1 F_startStrength_a1_0 E_a1_0 (Or.inr ⟨(hW 10 _ rfl), rfl, hnm⟩) (hW 1 _ rfl) (ty := .int) (by decide) rfl rfl (g := (mkF m 6 #[.val (.ref a1_0), .val (.int p1_1)] [(.int p1_1), (.ref a1_0)])) rfl rfl (hb hby d1_6)
  have pre4 : ∀ t, Steps p.tables e below (T3.setTop (mkF m 9 #[.val (.ref a1_0), .val (.int p1_1)] [])) t → Steps p.tables e below (s₁.setTop (entryFrame m #[(.ref a1_0), (.int p1_1)] 2)) t := fun t k => pre2 t (by
    show Steps p.tables e below (T1.setTop (mkF m 4 #[.val (.ref a1_0), .val (.int p1_1)] [])) _
    refine XS.aloadN X1.here hx rfl (hb hby d1_4) rfl rfl ?_
    show Steps p.tables e below (T1.setTop (mkF m 5 #[.val (.ref a1_0), .val (.int p1_1)] [(.ref a1_0)])) _
    refine XS.iloadN X1.here hx rfl (hb hby d1_5) rfl ?_
    show Steps p.tables e below (T1.setTop (mkF m 6 #[.val (.ref a1_0), .val (.int p1_1)] [(.int p1_1), (.ref a1_0)])) _
    refine st3 _ ?_
    exact k)
  have f5 := E_a1_0.wr W3
  have f6 := F_lost_a1_0.other W3 (Or.inr (slot_ne (Or.inl (hW 17 _ rfl)) (Or.inr (hW 10 _ rfl)) (by decide) (t := .int) (t' := .int) (by decide) (by decide)))
  have f7 := F_lostInARow_a1_0.other W3 (Or.inr (slot_ne (Or.inl (hW 19 _ rfl)) (Or.inr (hW 10 _ rfl)) (by decide) (t := .int) (t' := .int) (by decide) (by decide)))
  have f8 := F_won_a1_0.other W3 (Or.inr (slot_ne (Or.inl (hW 26 _ rfl)) (Or.inr (hW 10 _ rfl)) (by decide) (t := .int) (t' := .int) (by decide) (by decide)))
  have f9 := F_routs_a1_0.other W3 (Or.inr (slot_ne (Or.inl (hW 43 _ rfl)) (Or.inr (hW 10 _ rfl)) (by decide) (t := .int) (t' := .int) (by decide) (by decide)))
  have f10 := F_routing_a1_0.other W3 (Or.inr (slot_ne (Or.inl (hW 50 _ rfl)) (Or.inr (hW 10 _ rfl)) (by decide) (t := .boolean) (t' := .int) (by decide) (by decide)))
  have z11 := Nat.le_trans Z0 (Keep.of_wr W3).1
  have k12 := (Keep.refl h0 [a1_0]).wr W3 (Or.inl (List.mem_of_getElem? (i := 0) rfl))
  have f13 := F_startStrength_a1_0.same W3
  have N14 := Fr.snoc X3 N0 g_a1_0
  obtain ⟨fs, hr, hrun, hended, hW, hsame⟩ := X3.leave (v := none) (fun _ => rfl)
  refine ⟨_, _, pre4 _ ?_, hrun, hended, _, _, rfl, ?_, ⟨_, rfl⟩, hW, hsame.mono (by decide) (by decide)⟩
  · show Steps p.tables e below (T3.setTop (mkF m 9 #[.val (.ref a1_0), .val (.int p1_1)] [])) _
    exact X3.returnOut hx Bd.returns (hb hby d1_9) hr
  · show Q1 Z a1_0 p1_1 w1_startStrength_a1_0 w1_lost_a1_0 w1_lostInARow_a1_0 w1_won_a1_0 w1_routs_a1_0 w1_routing_a1_0 h0 n0 _ T3.heap _
    rw [e3]
    exact ⟨rfl, N14, k12, f5, f6, f7, f8, f9, f10, f13⟩
theorem d3_0 : decode prog_19_method_12_code 0 = .ok (.aload_n 0, 1) := by decide +kernel
theorem d3_1 : decode prog_19_method_12_code 1 = .ok (.dup, 1) := by decide +kernel
theorem d3_2 : decode prog_19_method_12_code 2 = .ok (.getfield 16, 3) := by decide +kernel
theorem d3_5 : decode prog_19_method_12_code 5 = .ok (.iconst 1, 1) := by decide +kernel
theorem d3_6 : decode prog_19_method_12_code 6 = .ok (.iadd, 1) := by decide +kernel
theorem d3_7 : decode prog_19_method_12_code 7 = .ok (.putfield 16, 3) := by decide +kernel
theorem d3_10 : decode prog_19_method_12_code 10 = .ok (.aload_n 0, 1) := by decide +kernel
theorem d3_11 : decode prog_19_method_12_code 11 = .ok (.dup, 1) := by decide +kernel
theorem d3_12 : decode prog_19_method_12_code 12 = .ok (.getfield 26, 3) := by decide +kernel
theorem d3_15 : decode prog_19_method_12_code 15 = .ok (.iconst 1, 1) := by decide +kernel
theorem d3_16 : decode prog_19_method_12_code 16 = .ok (.iadd, 1) := by decide +kernel
theorem d3_17 : decode prog_19_method_12_code 17 = .ok (.putfield 26, 3) := by decide +kernel
theorem d3_20 : decode prog_19_method_12_code 20 = .ok (.return_, 1) := by decide +kernel
theorem pn_3 : plainName "com/example/shieldwall/shieldwall/engine/MoraleState" = true := by first | (simp [plainName, overriddenIn]; done) | decide +kernel
theorem ef_3 (m : MethodId) (x0 : Addr) : entryFrame m #[(.ref x0)] 1 = mkF m 0 #[.val (.ref x0)] [] := by first | (simp [entryFrame, mkF, argsToLocals, Value.category]; done) | rfl
def Q3 (Z : State) (a3_0 : Addr) (w3_lost_a3_0 : Int32) (w3_startStrength_a3_0 : Int32) (w3_lostInARow_a3_0 : Int32) (w3_won_a3_0 : Int32) (w3_routs_a3_0 : Int32) (w3_routing_a3_0 : Int32) (h0 : Heap) (n0 : Nat) (v : Option Value) (h : Heap) (L : List Loc) : Prop := v = none ∧ Fr n0 L ∧ Keep h0 h [a3_0] ∧ Exa Z h a3_0 "com/example/shieldwall/shieldwall/engine/MoraleState" ∧ Fld Z h a3_0 "com/example/shieldwall/shieldwall/engine/MoraleState" "startStrength" "I" (.int w3_startStrength_a3_0) ∧ Fld Z h a3_0 "com/example/shieldwall/shieldwall/engine/MoraleState" "won" "I" (.int w3_won_a3_0) ∧ Fld Z h a3_0 "com/example/shieldwall/shieldwall/engine/MoraleState" "routs" "I" (.int w3_routs_a3_0) ∧ Fld Z h a3_0 "com/example/shieldwall/shieldwall/engine/MoraleState" "routing" "Z" (.int w3_routing_a3_0) ∧ Fld Z h a3_0 "com/example/shieldwall/shieldwall/engine/MoraleState" "lost" "I" (.int (w3_lost_a3_0 + (1 : Int32))) ∧ Fld Z h a3_0 "com/example/shieldwall/shieldwall/engine/MoraleState" "lostInARow" "I" (.int (w3_lostInARow_a3_0 + (1 : Int32)))
set_option maxRecDepth 65536 in
set_option maxHeartbeats 40000000 in
theorem rm3 (l : Launch) (Z : State) (a0 : Array Value) (hw : ∀ d ∈ tables_1, d.before a0 Z = true) (ws : List Jvm.Cond) (a3_0 : Addr) (w3_lost_a3_0 : Int32) (w3_startStrength_a3_0 : Int32) (w3_lostInARow_a3_0 : Int32) (w3_won_a3_0 : Int32) (w3_routs_a3_0 : Int32) (w3_routing_a3_0 : Int32) (h0 : Heap) (n0 : Nat) (Z0 : n0 ≤ h0.size) (F_lost_a3_0 : Fld Z h0 a3_0 "com/example/shieldwall/shieldwall/engine/MoraleState" "lost" "I" (.int w3_lost_a3_0)) (E_a3_0 : Exa Z h0 a3_0 "com/example/shieldwall/shieldwall/engine/MoraleState") (F_startStrength_a3_0 : Fld Z h0 a3_0 "com/example/shieldwall/shieldwall/engine/MoraleState" "startStrength" "I" (.int w3_startStrength_a3_0)) (F_lostInARow_a3_0 : Fld Z h0 a3_0 "com/example/shieldwall/shieldwall/engine/MoraleState" "lostInARow" "I" (.int w3_lostInARow_a3_0)) (F_won_a3_0 : Fld Z h0 a3_0 "com/example/shieldwall/shieldwall/engine/MoraleState" "won" "I" (.int w3_won_a3_0)) (F_routs_a3_0 : Fld Z h0 a3_0 "com/example/shieldwall/shieldwall/engine/MoraleState" "routs" "I" (.int w3_routs_a3_0)) (F_routing_a3_0 : Fld Z h0 a3_0 "com/example/shieldwall/shieldwall/engine/MoraleState" "routing" "Z" (.int w3_routing_a3_0)) (g_a3_0 : n0 ≤ a3_0) :
    MetFree l (⟨"com/example/shieldwall/shieldwall/engine/MoraleState", "lost", "()V"⟩ : MethodName) (head1 (Jvm.Cond.code (⟨"com/example/shieldwall/shieldwall/engine/MoraleState", "lost", "()V"⟩ : MethodName) prog_19_method_12_code 1 none :: ws) ({ frames := 0, cells := 0, slots := 0, locals := 0 } : Room)) (fun a U => a = #[(.ref a3_0)] ∧ Z.Warmed39 U.vm ∧ U.heap = h0) (fun _ _ _ _ _ => True) (fun _ U o U' => ∃ v L, o = .returned v ∧ Q3 Z a3_0 w3_lost_a3_0 w3_startStrength_a3_0 w3_lostInARow_a3_0 w3_won_a3_0 w3_routs_a3_0 w3_routing_a3_0 h0 n0 v U'.heap L ∧ FrameEnd U o U' L ({ frames := 0, cells := 0, slots := 0, locals := 0 } : Room).cells ({ frames := 0, cells := 0, slots := 0, locals := 0 } : Room).slots) := by
  refine MetFree.of_bodySF (plainFor_of_name pn_3) hisR ?_
  intro p e s m args below meth c s₁ Bd hml0 hP hK
  obtain ⟨rfl, hZ, hh⟩ := hP
  have hW : ∀ (i : Nat) (d : Jvm.Cond), tables_1[i]? = some d → d.before a0 Z = true := fun i d h => hw d (List.mem_of_getElem? h)
  have hx := Bd.exec
  have hby := Bd.bytes
  have hml : c.maxLocals = 1 := hml0
  have hown : s.vm.findClass "com/example/shieldwall/shieldwall/engine/MoraleState" = some m.cls := findClass_of_methodNamed Bd.named
  have hnm := (name_of_methodNamed Bd.named Bd.method).1
  have X0 : Stand p l e ({ frames := 0, cells := 0, slots := 0, locals := 0 } : Room) s m #[(.ref a3_0)] below meth c s₁ [] 0 0 := Stand.of_body Bd
  have e0 : s₁.heap = h0 := by rw [← hh, Bd.state]; rfl
  have N0 := Fr.nil n0
  have pre0 : ∀ t, Steps p.tables e below (s₁.setTop (mkF m 0 #[.val (.ref a3_0)] [])) t → Steps p.tables e below (s₁.setTop (entryFrame m #[(.ref a3_0)] 1)) t := fun t k => castTop (ef_3 m a3_0) k
  obtain ⟨T1, X1, e1, st1⟩ := getF X0 hx hZ hown (host := "") (Or.inl (hW 16 _ rfl)) Via.refl e0 F_lost_a3_0 (g := (mkF m 2 #[.val (.ref a3_0)] [(.ref a3_0), (.ref a3_0)])) rfl rfl (hb hby d3_2)
  have pre2 : ∀ t, Steps p.tables e below (T1.setTop (mkF m 5 #[.val (.ref a3_0)] [(.int w3_lost_a3_0), (.ref a3_0)])) t → Steps p.tables e below (s₁.setTop (entryFrame m #[(.ref a3_0)] 1)) t := fun t k => pre0 t (by
    show Steps p.tables e below (s₁.setTop (mkF m 0 #[.val (.ref a3_0)] [])) _
    refine XS.aloadN X0.here hx rfl (hb hby d3_0) rfl rfl ?_
    show Steps p.tables e below (s₁.setTop (mkF m 1 #[.val (.ref a3_0)] [(.ref a3_0)])) _
    refine XS.dup X0.here hx rfl (hb hby d3_1) rfl rfl ?_
    show Steps p.tables e below (s₁.setTop (mkF m 2 #[.val (.ref a3_0)] [(.ref a3_0), (.ref a3_0)])) _
    refine st1 _ ?_
    exact k)
  obtain ⟨T3, h3, X3, e3, W3, st3⟩ := putF X1 hx hZ hown (host := "") (Or.inl (hW 16 _ rfl)) Via.refl e1 F_lost_a3_0 E_a3_0 (Or.inl (hW 17 _ rfl)) (hW 1 _ rfl) (ty := .int) (by decide) rfl rfl (g := (mkF m 7 #[.val (.ref a3_0)] [(.int (w3_lost_a3_0 + (1 : Int32))), (.ref a3_0)])) rfl rfl (hb hby d3_7)
  have pre4 : ∀ t, Steps p.tables e below (T3.setTop (mkF m 10 #[.val (.ref a3_0)] [])) t → Steps p.tables e below (s₁.setTop (entryFrame m #[(.ref a3_0)] 1)) t := fun t k => pre2 t (by
    show Steps p.tables e below (T1.setTop (mkF m 5 #[.val (.ref a3_0)] [(.int w3_lost_a3_0), (.ref a3_0)])) _
    refine XS.iconst X1.here hx rfl (hb hby d3_5) ?_
    show Steps p.tables e below (T1.setTop (mkF m 6 #[.val (.ref a3_0)] [(.int (1 : Int32)), (.int w3_lost_a3_0), (.ref a3_0)])) _
    refine XS.iadd X1.here hx rfl (hb hby d3_6) rfl ?_
    show Steps p.tables e below (T1.setTop (mkF m 7 #[.val (.ref a3_0)] [(.int (w3_lost_a3_0 + (1 : Int32))), (.ref a3_0)])) _
    refine st3 _ ?_
    exact k)
  have f5 := E_a3_0.wr W3
  have f6 := F_startStrength_a3_0.other W3 (Or.inr (slot_ne (Or.inr (hW 10 _ rfl)) (Or.inl (hW 17 _ rfl)) (by decide) (t := .int) (t' := .int) (by decide) (by decide)))
  have f7 := F_lostInARow_a3_0.other W3 (Or.inr (slot_ne (Or.inl (hW 19 _ rfl)) (Or.inl (hW 17 _ rfl)) (by decide) (t := .int) (t' := .int) (by decide) (by decide)))
  have f8 := F_won_a3_0.other W3 (Or.inr (slot_ne (Or.inl (hW 26 _ rfl)) (Or.inl (hW 17 _ rfl)) (by decide) (t := .int) (t' := .int) (by decide) (by decide)))
  have f9 := F_routs_a3_0.other W3 (Or.inr (slot_ne (Or.inl (hW 43 _ rfl)) (Or.inl (hW 17 _ rfl)) (by decide) (t := .int) (t' := .int) (by decide) (by decide)))
  have f10 := F_routing_a3_0.other W3 (Or.inr (slot_ne (Or.inl (hW 50 _ rfl)) (Or.inl (hW 17 _ rfl)) (by decide) (t := .boolean) (t' := .int) (by decide) (by decide)))
  have z11 := Nat.le_trans Z0 (Keep.of_wr W3).1
  have k12 := (Keep.refl h0 [a3_0]).wr W3 (Or.inl (List.mem_of_getElem? (i := 0) rfl))
  have f13 := F_lost_a3_0.same W3
  have N14 := Fr.snoc X3 N0 g_a3_0
  obtain ⟨T15, X15, e15, st15⟩ := getF X3 hx hZ hown (host := "") (Or.inl (hW 18 _ rfl)) Via.refl e3 f7 (g := (mkF m 12 #[.val (.ref a3_0)] [(.ref a3_0), (.ref a3_0)])) rfl rfl (hb hby d3_12)
  have pre16 : ∀ t, Steps p.tables e below (T15.setTop (mkF m 15 #[.val (.ref a3_0)] [(.int w3_lostInARow_a3_0), (.ref a3_0)])) t → Steps p.tables e below (s₁.setTop (entryFrame m #[(.ref a3_0)] 1)) t := fun t k => pre4 t (by
    show Steps p.tables e below (T3.setTop (mkF m 10 #[.val (.ref a3_0)] [])) _
    refine XS.aloadN X3.here hx rfl (hb hby d3_10) rfl rfl ?_
    show Steps p.tables e below (T3.setTop (mkF m 11 #[.val (.ref a3_0)] [(.ref a3_0)])) _
    refine XS.dup X3.here hx rfl (hb hby d3_11) rfl rfl ?_
    show Steps p.tables e below (T3.setTop (mkF m 12 #[.val (.ref a3_0)] [(.ref a3_0), (.ref a3_0)])) _
    refine st15 _ ?_
    exact k)
  obtain ⟨T17, h17, X17, e17, W17, st17⟩ := putF X15 hx hZ hown (host := "") (Or.inl (hW 18 _ rfl)) Via.refl e15 f7 f5 (Or.inl (hW 19 _ rfl)) (hW 1 _ rfl) (ty := .int) (by decide) rfl rfl (g := (mkF m 17 #[.val (.ref a3_0)] [(.int (w3_lostInARow_a3_0 + (1 : Int32))), (.ref a3_0)])) rfl rfl (hb hby d3_17)
  have pre18 : ∀ t, Steps p.tables e below (T17.setTop (mkF m 20 #[.val (.ref a3_0)] [])) t → Steps p.tables e below (s₁.setTop (entryFrame m #[(.ref a3_0)] 1)) t := fun t k => pre16 t (by
    show Steps p.tables e below (T15.setTop (mkF m 15 #[.val (.ref a3_0)] [(.int w3_lostInARow_a3_0), (.ref a3_0)])) _
    refine XS.iconst X15.here hx rfl (hb hby d3_15) ?_
    show Steps p.tables e below (T15.setTop (mkF m 16 #[.val (.ref a3_0)] [(.int (1 : Int32)), (.int w3_lostInARow_a3_0), (.ref a3_0)])) _
    refine XS.iadd X15.here hx rfl (hb hby d3_16) rfl ?_
    show Steps p.tables e below (T15.setTop (mkF m 17 #[.val (.ref a3_0)] [(.int (w3_lostInARow_a3_0 + (1 : Int32))), (.ref a3_0)])) _
    refine st17 _ ?_
    exact k)
  have f19 := f5.wr W17
  have f20 := f6.other W17 (Or.inr (slot_ne (Or.inr (hW 10 _ rfl)) (Or.inl (hW 19 _ rfl)) (by decide) (t := .int) (t' := .int) (by decide) (by decide)))
  have f21 := f8.other W17 (Or.inr (slot_ne (Or.inl (hW 26 _ rfl)) (Or.inl (hW 19 _ rfl)) (by decide) (t := .int) (t' := .int) (by decide) (by decide)))
  have f22 := f9.other W17 (Or.inr (slot_ne (Or.inl (hW 43 _ rfl)) (Or.inl (hW 19 _ rfl)) (by decide) (t := .int) (t' := .int) (by decide) (by decide)))
  have f23 := f10.other W17 (Or.inr (slot_ne (Or.inl (hW 50 _ rfl)) (Or.inl (hW 19 _ rfl)) (by decide) (t := .boolean) (t' := .int) (by decide) (by decide)))
  have f24 := f13.other W17 (Or.inr (slot_ne (Or.inl (hW 17 _ rfl)) (Or.inl (hW 19 _ rfl)) (by decide) (t := .int) (t' := .int) (by decide) (by decide)))
  have z25 := Nat.le_trans z11 (Keep.of_wr W17).1
  have k26 := k12.wr W17 (Or.inl (List.mem_of_getElem? (i := 0) rfl))
  have f27 := f7.same W17
  have N28 := Fr.snoc X17 N14 g_a3_0
  obtain ⟨fs, hr, hrun, hended, hW, hsame⟩ := X17.leave (v := none) (fun _ => rfl)
  refine ⟨_, _, pre18 _ ?_, hrun, hended, _, _, rfl, ?_, ⟨_, rfl⟩, hW, hsame.mono (by decide) (by decide)⟩
  · show Steps p.tables e below (T17.setTop (mkF m 20 #[.val (.ref a3_0)] [])) _
    exact X17.returnOut hx Bd.returns (hb hby d3_20) hr
  · show Q3 Z a3_0 w3_lost_a3_0 w3_startStrength_a3_0 w3_lostInARow_a3_0 w3_won_a3_0 w3_routs_a3_0 w3_routing_a3_0 h0 n0 _ T17.heap _
    rw [e17]
    exact ⟨rfl, N28, k26, f19, f20, f21, f22, f23, f24, f27⟩
theorem d4_0 : decode prog_19_method_10_code 0 = .ok (.aload_n 0, 1) := by decide +kernel
theorem d4_1 : decode prog_19_method_10_code 1 = .ok (.dup, 1) := by decide +kernel
theorem d4_2 : decode prog_19_method_10_code 2 = .ok (.getfield 13, 3) := by decide +kernel
theorem d4_5 : decode prog_19_method_10_code 5 = .ok (.iconst 1, 1) := by decide +kernel
theorem d4_6 : decode prog_19_method_10_code 6 = .ok (.iadd, 1) := by decide +kernel
theorem d4_7 : decode prog_19_method_10_code 7 = .ok (.putfield 13, 3) := by decide +kernel
theorem d4_10 : decode prog_19_method_10_code 10 = .ok (.aload_n 0, 1) := by decide +kernel
theorem d4_11 : decode prog_19_method_10_code 11 = .ok (.iconst 0, 1) := by decide +kernel
theorem d4_12 : decode prog_19_method_10_code 12 = .ok (.putfield 26, 3) := by decide +kernel
theorem d4_15 : decode prog_19_method_10_code 15 = .ok (.return_, 1) := by decide +kernel
theorem pn_4 : plainName "com/example/shieldwall/shieldwall/engine/MoraleState" = true := by first | (simp [plainName, overriddenIn]; done) | decide +kernel
theorem ef_4 (m : MethodId) (x0 : Addr) : entryFrame m #[(.ref x0)] 1 = mkF m 0 #[.val (.ref x0)] [] := by first | (simp [entryFrame, mkF, argsToLocals, Value.category]; done) | rfl
def Q4 (Z : State) (a4_0 : Addr) (w4_won_a4_0 : Int32) (w4_startStrength_a4_0 : Int32) (w4_lost_a4_0 : Int32) (w4_lostInARow_a4_0 : Int32) (w4_routs_a4_0 : Int32) (w4_routing_a4_0 : Int32) (h0 : Heap) (n0 : Nat) (v : Option Value) (h : Heap) (L : List Loc) : Prop := v = none ∧ Fr n0 L ∧ Keep h0 h [a4_0] ∧ Exa Z h a4_0 "com/example/shieldwall/shieldwall/engine/MoraleState" ∧ Fld Z h a4_0 "com/example/shieldwall/shieldwall/engine/MoraleState" "startStrength" "I" (.int w4_startStrength_a4_0) ∧ Fld Z h a4_0 "com/example/shieldwall/shieldwall/engine/MoraleState" "lost" "I" (.int w4_lost_a4_0) ∧ Fld Z h a4_0 "com/example/shieldwall/shieldwall/engine/MoraleState" "routs" "I" (.int w4_routs_a4_0) ∧ Fld Z h a4_0 "com/example/shieldwall/shieldwall/engine/MoraleState" "routing" "Z" (.int w4_routing_a4_0) ∧ Fld Z h a4_0 "com/example/shieldwall/shieldwall/engine/MoraleState" "won" "I" (.int (w4_won_a4_0 + (1 : Int32))) ∧ Fld Z h a4_0 "com/example/shieldwall/shieldwall/engine/MoraleState" "lostInARow" "I" (.int (0 : Int32))
set_option maxRecDepth 65536 in
set_option maxHeartbeats 40000000 in
theorem rm4 (l : Launch) (Z : State) (a0 : Array Value) (hw : ∀ d ∈ tables_1, d.before a0 Z = true) (ws : List Jvm.Cond) (a4_0 : Addr) (w4_won_a4_0 : Int32) (w4_startStrength_a4_0 : Int32) (w4_lost_a4_0 : Int32) (w4_lostInARow_a4_0 : Int32) (w4_routs_a4_0 : Int32) (w4_routing_a4_0 : Int32) (h0 : Heap) (n0 : Nat) (Z0 : n0 ≤ h0.size) (F_won_a4_0 : Fld Z h0 a4_0 "com/example/shieldwall/shieldwall/engine/MoraleState" "won" "I" (.int w4_won_a4_0)) (E_a4_0 : Exa Z h0 a4_0 "com/example/shieldwall/shieldwall/engine/MoraleState") (F_startStrength_a4_0 : Fld Z h0 a4_0 "com/example/shieldwall/shieldwall/engine/MoraleState" "startStrength" "I" (.int w4_startStrength_a4_0)) (F_lost_a4_0 : Fld Z h0 a4_0 "com/example/shieldwall/shieldwall/engine/MoraleState" "lost" "I" (.int w4_lost_a4_0)) (F_lostInARow_a4_0 : Fld Z h0 a4_0 "com/example/shieldwall/shieldwall/engine/MoraleState" "lostInARow" "I" (.int w4_lostInARow_a4_0)) (F_routs_a4_0 : Fld Z h0 a4_0 "com/example/shieldwall/shieldwall/engine/MoraleState" "routs" "I" (.int w4_routs_a4_0)) (F_routing_a4_0 : Fld Z h0 a4_0 "com/example/shieldwall/shieldwall/engine/MoraleState" "routing" "Z" (.int w4_routing_a4_0)) (g_a4_0 : n0 ≤ a4_0) :
    MetFree l (⟨"com/example/shieldwall/shieldwall/engine/MoraleState", "won", "()V"⟩ : MethodName) (head1 (Jvm.Cond.code (⟨"com/example/shieldwall/shieldwall/engine/MoraleState", "won", "()V"⟩ : MethodName) prog_19_method_10_code 1 none :: ws) ({ frames := 0, cells := 0, slots := 0, locals := 0 } : Room)) (fun a U => a = #[(.ref a4_0)] ∧ Z.Warmed39 U.vm ∧ U.heap = h0) (fun _ _ _ _ _ => True) (fun _ U o U' => ∃ v L, o = .returned v ∧ Q4 Z a4_0 w4_won_a4_0 w4_startStrength_a4_0 w4_lost_a4_0 w4_lostInARow_a4_0 w4_routs_a4_0 w4_routing_a4_0 h0 n0 v U'.heap L ∧ FrameEnd U o U' L ({ frames := 0, cells := 0, slots := 0, locals := 0 } : Room).cells ({ frames := 0, cells := 0, slots := 0, locals := 0 } : Room).slots) := by
  refine MetFree.of_bodySF (plainFor_of_name pn_4) hisR ?_
  intro p e s m args below meth c s₁ Bd hml0 hP hK
  obtain ⟨rfl, hZ, hh⟩ := hP
  have hW : ∀ (i : Nat) (d : Jvm.Cond), tables_1[i]? = some d → d.before a0 Z = true := fun i d h => hw d (List.mem_of_getElem? h)
  have hx := Bd.exec
  have hby := Bd.bytes
  have hml : c.maxLocals = 1 := hml0
  have hown : s.vm.findClass "com/example/shieldwall/shieldwall/engine/MoraleState" = some m.cls := findClass_of_methodNamed Bd.named
  have hnm := (name_of_methodNamed Bd.named Bd.method).1
  have X0 : Stand p l e ({ frames := 0, cells := 0, slots := 0, locals := 0 } : Room) s m #[(.ref a4_0)] below meth c s₁ [] 0 0 := Stand.of_body Bd
  have e0 : s₁.heap = h0 := by rw [← hh, Bd.state]; rfl
  have N0 := Fr.nil n0
  have pre0 : ∀ t, Steps p.tables e below (s₁.setTop (mkF m 0 #[.val (.ref a4_0)] [])) t → Steps p.tables e below (s₁.setTop (entryFrame m #[(.ref a4_0)] 1)) t := fun t k => castTop (ef_4 m a4_0) k
  obtain ⟨T1, X1, e1, st1⟩ := getF X0 hx hZ hown (host := "") (Or.inl (hW 25 _ rfl)) Via.refl e0 F_won_a4_0 (g := (mkF m 2 #[.val (.ref a4_0)] [(.ref a4_0), (.ref a4_0)])) rfl rfl (hb hby d4_2)
  have pre2 : ∀ t, Steps p.tables e below (T1.setTop (mkF m 5 #[.val (.ref a4_0)] [(.int w4_won_a4_0), (.ref a4_0)])) t → Steps p.tables e below (s₁.setTop (entryFrame m #[(.ref a4_0)] 1)) t := fun t k => pre0 t (by
    show Steps p.tables e below (s₁.setTop (mkF m 0 #[.val (.ref a4_0)] [])) _
    refine XS.aloadN X0.here hx rfl (hb hby d4_0) rfl rfl ?_
    show Steps p.tables e below (s₁.setTop (mkF m 1 #[.val (.ref a4_0)] [(.ref a4_0)])) _
    refine XS.dup X0.here hx rfl (hb hby d4_1) rfl rfl ?_
    show Steps p.tables e below (s₁.setTop (mkF m 2 #[.val (.ref a4_0)] [(.ref a4_0), (.ref a4_0)])) _
    refine st1 _ ?_
    exact k)
  obtain ⟨T3, h3, X3, e3, W3, st3⟩ := putF X1 hx hZ hown (host := "") (Or.inl (hW 25 _ rfl)) Via.refl e1 F_won_a4_0 E_a4_0 (Or.inl (hW 26 _ rfl)) (hW 1 _ rfl) (ty := .int) (by decide) rfl rfl (g := (mkF m 7 #[.val (.ref a4_0)] [(.int (w4_won_a4_0 + (1 : Int32))), (.ref a4_0)])) rfl rfl (hb hby d4_7)
  have pre4 : ∀ t, Steps p.tables e below (T3.setTop (mkF m 10 #[.val (.ref a4_0)] [])) t → Steps p.tables e below (s₁.setTop (entryFrame m #[(.ref a4_0)] 1)) t := fun t k => pre2 t (by
    show Steps p.tables e below (T1.setTop (mkF m 5 #[.val (.ref a4_0)] [(.int w4_won_a4_0), (.ref a4_0)])) _
    refine XS.iconst X1.here hx rfl (hb hby d4_5) ?_
    show Steps p.tables e below (T1.setTop (mkF m 6 #[.val (.ref a4_0)] [(.int (1 : Int32)), (.int w4_won_a4_0), (.ref a4_0)])) _
    refine XS.iadd X1.here hx rfl (hb hby d4_6) rfl ?_
    show Steps p.tables e below (T1.setTop (mkF m 7 #[.val (.ref a4_0)] [(.int (w4_won_a4_0 + (1 : Int32))), (.ref a4_0)])) _
    refine st3 _ ?_
    exact k)
  have f5 := E_a4_0.wr W3
  have f6 := F_startStrength_a4_0.other W3 (Or.inr (slot_ne (Or.inr (hW 10 _ rfl)) (Or.inl (hW 26 _ rfl)) (by decide) (t := .int) (t' := .int) (by decide) (by decide)))
  have f7 := F_lost_a4_0.other W3 (Or.inr (slot_ne (Or.inl (hW 17 _ rfl)) (Or.inl (hW 26 _ rfl)) (by decide) (t := .int) (t' := .int) (by decide) (by decide)))
  have f8 := F_lostInARow_a4_0.other W3 (Or.inr (slot_ne (Or.inl (hW 19 _ rfl)) (Or.inl (hW 26 _ rfl)) (by decide) (t := .int) (t' := .int) (by decide) (by decide)))
  have f9 := F_routs_a4_0.other W3 (Or.inr (slot_ne (Or.inl (hW 43 _ rfl)) (Or.inl (hW 26 _ rfl)) (by decide) (t := .int) (t' := .int) (by decide) (by decide)))
  have f10 := F_routing_a4_0.other W3 (Or.inr (slot_ne (Or.inl (hW 50 _ rfl)) (Or.inl (hW 26 _ rfl)) (by decide) (t := .boolean) (t' := .int) (by decide) (by decide)))
  have z11 := Nat.le_trans Z0 (Keep.of_wr W3).1
  have k12 := (Keep.refl h0 [a4_0]).wr W3 (Or.inl (List.mem_of_getElem? (i := 0) rfl))
  have f13 := F_won_a4_0.same W3
  have N14 := Fr.snoc X3 N0 g_a4_0
  obtain ⟨T15, h15, X15, e15, W15, st15⟩ := putF X3 hx hZ hown (host := "") (Or.inl (hW 18 _ rfl)) Via.refl e3 f8 f5 (Or.inl (hW 19 _ rfl)) (hW 1 _ rfl) (ty := .int) (by decide) rfl rfl (g := (mkF m 12 #[.val (.ref a4_0)] [(.int (0 : Int32)), (.ref a4_0)])) rfl rfl (hb hby d4_12)
  have pre16 : ∀ t, Steps p.tables e below (T15.setTop (mkF m 15 #[.val (.ref a4_0)] [])) t → Steps p.tables e below (s₁.setTop (entryFrame m #[(.ref a4_0)] 1)) t := fun t k => pre4 t (by
    show Steps p.tables e below (T3.setTop (mkF m 10 #[.val (.ref a4_0)] [])) _
    refine XS.aloadN X3.here hx rfl (hb hby d4_10) rfl rfl ?_
    show Steps p.tables e below (T3.setTop (mkF m 11 #[.val (.ref a4_0)] [(.ref a4_0)])) _
    refine XS.iconst X3.here hx rfl (hb hby d4_11) ?_
    show Steps p.tables e below (T3.setTop (mkF m 12 #[.val (.ref a4_0)] [(.int (0 : Int32)), (.ref a4_0)])) _
    refine st15 _ ?_
    exact k)
  have f17 := f5.wr W15
  have f18 := f6.other W15 (Or.inr (slot_ne (Or.inr (hW 10 _ rfl)) (Or.inl (hW 19 _ rfl)) (by decide) (t := .int) (t' := .int) (by decide) (by decide)))
  have f19 := f7.other W15 (Or.inr (slot_ne (Or.inl (hW 17 _ rfl)) (Or.inl (hW 19 _ rfl)) (by decide) (t := .int) (t' := .int) (by decide) (by decide)))
  have f20 := f9.other W15 (Or.inr (slot_ne (Or.inl (hW 43 _ rfl)) (Or.inl (hW 19 _ rfl)) (by decide) (t := .int) (t' := .int) (by decide) (by decide)))
  have f21 := f10.other W15 (Or.inr (slot_ne (Or.inl (hW 50 _ rfl)) (Or.inl (hW 19 _ rfl)) (by decide) (t := .boolean) (t' := .int) (by decide) (by decide)))
  have f22 := f13.other W15 (Or.inr (slot_ne (Or.inl (hW 26 _ rfl)) (Or.inl (hW 19 _ rfl)) (by decide) (t := .int) (t' := .int) (by decide) (by decide)))
  have z23 := Nat.le_trans z11 (Keep.of_wr W15).1
  have k24 := k12.wr W15 (Or.inl (List.mem_of_getElem? (i := 0) rfl))
  have f25 := f8.same W15
  have N26 := Fr.snoc X15 N14 g_a4_0
  obtain ⟨fs, hr, hrun, hended, hW, hsame⟩ := X15.leave (v := none) (fun _ => rfl)
  refine ⟨_, _, pre16 _ ?_, hrun, hended, _, _, rfl, ?_, ⟨_, rfl⟩, hW, hsame.mono (by decide) (by decide)⟩
  · show Steps p.tables e below (T15.setTop (mkF m 15 #[.val (.ref a4_0)] [])) _
    exact X15.returnOut hx Bd.returns (hb hby d4_15) hr
  · show Q4 Z a4_0 w4_won_a4_0 w4_startStrength_a4_0 w4_lost_a4_0 w4_lostInARow_a4_0 w4_routs_a4_0 w4_routing_a4_0 h0 n0 _ T15.heap _
    rw [e15]
    exact ⟨rfl, N26, k24, f17, f18, f19, f20, f21, f22, f25⟩
theorem d5_0 : decode prog_19_method_3_code 0 = .ok (.aload_n 0, 1) := by decide +kernel
theorem d5_1 : decode prog_19_method_3_code 1 = .ok (.getfield 13, 3) := by decide +kernel
theorem d5_4 : decode prog_19_method_3_code 4 = .ok (.aload_n 0, 1) := by decide +kernel
theorem d5_5 : decode prog_19_method_3_code 5 = .ok (.getfield 16, 3) := by decide +kernel
theorem d5_8 : decode prog_19_method_3_code 8 = .ok (.isub, 1) := by decide +kernel
theorem d5_9 : decode prog_19_method_3_code 9 = .ok (.ireturn, 1) := by decide +kernel
theorem pn_5 : plainName "com/example/shieldwall/shieldwall/engine/MoraleState" = true := by first | (simp [plainName, overriddenIn]; done) | decide +kernel
theorem ef_5 (m : MethodId) (x0 : Addr) : entryFrame m #[(.ref x0)] 1 = mkF m 0 #[.val (.ref x0)] [] := by first | (simp [entryFrame, mkF, argsToLocals, Value.category]; done) | rfl
def Q5 (Z : State) (a5_0 : Addr) (w5_won_a5_0 : Int32) (w5_lost_a5_0 : Int32) (h0 : Heap) (n0 : Nat) (v : Option Value) (h : Heap) (L : List Loc) : Prop := v = some (.int (w5_won_a5_0 - w5_lost_a5_0)) ∧ Fr n0 L ∧ h = h0
set_option maxRecDepth 65536 in
set_option maxHeartbeats 40000000 in
theorem rm5 (l : Launch) (Z : State) (a0 : Array Value) (hw : ∀ d ∈ tables_1, d.before a0 Z = true) (ws : List Jvm.Cond) (a5_0 : Addr) (w5_won_a5_0 : Int32) (w5_lost_a5_0 : Int32) (h0 : Heap) (n0 : Nat) (Z0 : n0 ≤ h0.size) (F_won_a5_0 : Fld Z h0 a5_0 "com/example/shieldwall/shieldwall/engine/MoraleState" "won" "I" (.int w5_won_a5_0)) (F_lost_a5_0 : Fld Z h0 a5_0 "com/example/shieldwall/shieldwall/engine/MoraleState" "lost" "I" (.int w5_lost_a5_0)) :
    MetFree l (⟨"com/example/shieldwall/shieldwall/engine/MoraleState", "battles", "()I"⟩ : MethodName) (head1 (Jvm.Cond.code (⟨"com/example/shieldwall/shieldwall/engine/MoraleState", "battles", "()I"⟩ : MethodName) prog_19_method_3_code 1 (some .int) :: ws) ({ frames := 0, cells := 0, slots := 0, locals := 0 } : Room)) (fun a U => a = #[(.ref a5_0)] ∧ Z.Warmed39 U.vm ∧ U.heap = h0) (fun _ _ _ _ _ => True) (fun _ U o U' => ∃ v L, o = .returned v ∧ Q5 Z a5_0 w5_won_a5_0 w5_lost_a5_0 h0 n0 v U'.heap L ∧ FrameEnd U o U' L ({ frames := 0, cells := 0, slots := 0, locals := 0 } : Room).cells ({ frames := 0, cells := 0, slots := 0, locals := 0 } : Room).slots) := by
  refine MetFree.of_bodySF (plainFor_of_name pn_5) hisR ?_
  intro p e s m args below meth c s₁ Bd hml0 hP hK
  obtain ⟨rfl, hZ, hh⟩ := hP
  have hW : ∀ (i : Nat) (d : Jvm.Cond), tables_1[i]? = some d → d.before a0 Z = true := fun i d h => hw d (List.mem_of_getElem? h)
  have hx := Bd.exec
  have hby := Bd.bytes
  have hml : c.maxLocals = 1 := hml0
  have hown : s.vm.findClass "com/example/shieldwall/shieldwall/engine/MoraleState" = some m.cls := findClass_of_methodNamed Bd.named
  have hnm := (name_of_methodNamed Bd.named Bd.method).1
  have X0 : Stand p l e ({ frames := 0, cells := 0, slots := 0, locals := 0 } : Room) s m #[(.ref a5_0)] below meth c s₁ [] 0 0 := Stand.of_body Bd
  have e0 : s₁.heap = h0 := by rw [← hh, Bd.state]; rfl
  have N0 := Fr.nil n0
  have pre0 : ∀ t, Steps p.tables e below (s₁.setTop (mkF m 0 #[.val (.ref a5_0)] [])) t → Steps p.tables e below (s₁.setTop (entryFrame m #[(.ref a5_0)] 1)) t := fun t k => castTop (ef_5 m a5_0) k
  obtain ⟨T1, X1, e1, st1⟩ := getF X0 hx hZ hown (host := "") (Or.inl (hW 25 _ rfl)) Via.refl e0 F_won_a5_0 (g := (mkF m 1 #[.val (.ref a5_0)] [(.ref a5_0)])) rfl rfl (hb hby d5_1)
  have pre2 : ∀ t, Steps p.tables e below (T1.setTop (mkF m 4 #[.val (.ref a5_0)] [(.int w5_won_a5_0)])) t → Steps p.tables e below (s₁.setTop (entryFrame m #[(.ref a5_0)] 1)) t := fun t k => pre0 t (by
    show Steps p.tables e below (s₁.setTop (mkF m 0 #[.val (.ref a5_0)] [])) _
    refine XS.aloadN X0.here hx rfl (hb hby d5_0) rfl rfl ?_
    show Steps p.tables e below (s₁.setTop (mkF m 1 #[.val (.ref a5_0)] [(.ref a5_0)])) _
    refine st1 _ ?_
    exact k)
  obtain ⟨T3, X3, e3, st3⟩ := getF X1 hx hZ hown (host := "") (Or.inl (hW 16 _ rfl)) Via.refl e1 F_lost_a5_0 (g := (mkF m 5 #[.val (.ref a5_0)] [(.ref a5_0), (.int w5_won_a5_0)])) rfl rfl (hb hby d5_5)
  have pre4 : ∀ t, Steps p.tables e below (T3.setTop (mkF m 8 #[.val (.ref a5_0)] [(.int w5_lost_a5_0), (.int w5_won_a5_0)])) t → Steps p.tables e below (s₁.setTop (entryFrame m #[(.ref a5_0)] 1)) t := fun t k => pre2 t (by
    show Steps p.tables e below (T1.setTop (mkF m 4 #[.val (.ref a5_0)] [(.int w5_won_a5_0)])) _
    refine XS.aloadN X1.here hx rfl (hb hby d5_4) rfl rfl ?_
    show Steps p.tables e below (T1.setTop (mkF m 5 #[.val (.ref a5_0)] [(.ref a5_0), (.int w5_won_a5_0)])) _
    refine st3 _ ?_
    exact k)
  obtain ⟨fs, hr, hrun, hended, hW, hsame⟩ := X3.leave (v := some (.int (w5_won_a5_0 - w5_lost_a5_0))) (fun h => by rw [Bd.returns] at h; cases h)
  refine ⟨_, _, pre4 _ ?_, hrun, hended, _, _, rfl, ?_, ⟨_, rfl⟩, hW, hsame.mono (by decide) (by decide)⟩
  · show Steps p.tables e below (T3.setTop (mkF m 8 #[.val (.ref a5_0)] [(.int w5_lost_a5_0), (.int w5_won_a5_0)])) _
    refine XS.isub X3.here hx rfl (hb hby d5_8) rfl ?_
    show Steps p.tables e below (T3.setTop (mkF m 9 #[.val (.ref a5_0)] [(.int (w5_won_a5_0 - w5_lost_a5_0))])) _
    exact retI X3 hx Bd.returns (hb hby d5_9) hr
  · show Q5 Z a5_0 w5_won_a5_0 w5_lost_a5_0 h0 n0 _ T3.heap _
    rw [e3]
    exact ⟨rfl, N0, rfl⟩
theorem d6_0 : decode prog_19_method_6_code 0 = .ok (.aload_n 0, 1) := by decide +kernel
theorem d6_1 : decode prog_19_method_6_code 1 = .ok (.getfield 26, 3) := by decide +kernel
theorem d6_4 : decode prog_19_method_6_code 4 = .ok (.ireturn, 1) := by decide +kernel
theorem pn_6 : plainName "com/example/shieldwall/shieldwall/engine/MoraleState" = true := by first | (simp [plainName, overriddenIn]; done) | decide +kernel
theorem ef_6 (m : MethodId) (x0 : Addr) : entryFrame m #[(.ref x0)] 1 = mkF m 0 #[.val (.ref x0)] [] := by first | (simp [entryFrame, mkF, argsToLocals, Value.category]; done) | rfl
def Q6 (Z : State) (a6_0 : Addr) (w6_lostInARow_a6_0 : Int32) (h0 : Heap) (n0 : Nat) (v : Option Value) (h : Heap) (L : List Loc) : Prop := v = some (.int w6_lostInARow_a6_0) ∧ Fr n0 L ∧ h = h0
set_option maxRecDepth 65536 in
set_option maxHeartbeats 40000000 in
theorem rm6 (l : Launch) (Z : State) (a0 : Array Value) (hw : ∀ d ∈ tables_1, d.before a0 Z = true) (ws : List Jvm.Cond) (a6_0 : Addr) (w6_lostInARow_a6_0 : Int32) (h0 : Heap) (n0 : Nat) (Z0 : n0 ≤ h0.size) (F_lostInARow_a6_0 : Fld Z h0 a6_0 "com/example/shieldwall/shieldwall/engine/MoraleState" "lostInARow" "I" (.int w6_lostInARow_a6_0)) :
    MetFree l (⟨"com/example/shieldwall/shieldwall/engine/MoraleState", "lostInARow", "()I"⟩ : MethodName) (head1 (Jvm.Cond.code (⟨"com/example/shieldwall/shieldwall/engine/MoraleState", "lostInARow", "()I"⟩ : MethodName) prog_19_method_6_code 1 (some .int) :: ws) ({ frames := 0, cells := 0, slots := 0, locals := 0 } : Room)) (fun a U => a = #[(.ref a6_0)] ∧ Z.Warmed39 U.vm ∧ U.heap = h0) (fun _ _ _ _ _ => True) (fun _ U o U' => ∃ v L, o = .returned v ∧ Q6 Z a6_0 w6_lostInARow_a6_0 h0 n0 v U'.heap L ∧ FrameEnd U o U' L ({ frames := 0, cells := 0, slots := 0, locals := 0 } : Room).cells ({ frames := 0, cells := 0, slots := 0, locals := 0 } : Room).slots) := by
  refine MetFree.of_bodySF (plainFor_of_name pn_6) hisR ?_
  intro p e s m args below meth c s₁ Bd hml0 hP hK
  obtain ⟨rfl, hZ, hh⟩ := hP
  have hW : ∀ (i : Nat) (d : Jvm.Cond), tables_1[i]? = some d → d.before a0 Z = true := fun i d h => hw d (List.mem_of_getElem? h)
  have hx := Bd.exec
  have hby := Bd.bytes
  have hml : c.maxLocals = 1 := hml0
  have hown : s.vm.findClass "com/example/shieldwall/shieldwall/engine/MoraleState" = some m.cls := findClass_of_methodNamed Bd.named
  have hnm := (name_of_methodNamed Bd.named Bd.method).1
  have X0 : Stand p l e ({ frames := 0, cells := 0, slots := 0, locals := 0 } : Room) s m #[(.ref a6_0)] below meth c s₁ [] 0 0 := Stand.of_body Bd
  have e0 : s₁.heap = h0 := by rw [← hh, Bd.state]; rfl
  have N0 := Fr.nil n0
  have pre0 : ∀ t, Steps p.tables e below (s₁.setTop (mkF m 0 #[.val (.ref a6_0)] [])) t → Steps p.tables e below (s₁.setTop (entryFrame m #[(.ref a6_0)] 1)) t := fun t k => castTop (ef_6 m a6_0) k
  obtain ⟨T1, X1, e1, st1⟩ := getF X0 hx hZ hown (host := "") (Or.inl (hW 18 _ rfl)) Via.refl e0 F_lostInARow_a6_0 (g := (mkF m 1 #[.val (.ref a6_0)] [(.ref a6_0)])) rfl rfl (hb hby d6_1)
  have pre2 : ∀ t, Steps p.tables e below (T1.setTop (mkF m 4 #[.val (.ref a6_0)] [(.int w6_lostInARow_a6_0)])) t → Steps p.tables e below (s₁.setTop (entryFrame m #[(.ref a6_0)] 1)) t := fun t k => pre0 t (by
    show Steps p.tables e below (s₁.setTop (mkF m 0 #[.val (.ref a6_0)] [])) _
    refine XS.aloadN X0.here hx rfl (hb hby d6_0) rfl rfl ?_
    show Steps p.tables e below (s₁.setTop (mkF m 1 #[.val (.ref a6_0)] [(.ref a6_0)])) _
    refine st1 _ ?_
    exact k)
  obtain ⟨fs, hr, hrun, hended, hW, hsame⟩ := X1.leave (v := some (.int w6_lostInARow_a6_0)) (fun h => by rw [Bd.returns] at h; cases h)
  refine ⟨_, _, pre2 _ ?_, hrun, hended, _, _, rfl, ?_, ⟨_, rfl⟩, hW, hsame.mono (by decide) (by decide)⟩
  · show Steps p.tables e below (T1.setTop (mkF m 4 #[.val (.ref a6_0)] [(.int w6_lostInARow_a6_0)])) _
    exact retI X1 hx Bd.returns (hb hby d6_4) hr
  · show Q6 Z a6_0 w6_lostInARow_a6_0 h0 n0 _ T1.heap _
    rw [e1]
    exact ⟨rfl, N0, rfl⟩
theorem d7_0 : decode prog_19_method_4_code 0 = .ok (.aload_n 0, 1) := by decide +kernel
theorem d7_1 : decode prog_19_method_4_code 1 = .ok (.getfield 19, 3) := by decide +kernel
theorem d7_4 : decode prog_19_method_4_code 4 = .ok (.ireturn, 1) := by decide +kernel
theorem pn_7 : plainName "com/example/shieldwall/shieldwall/engine/MoraleState" = true := by first | (simp [plainName, overriddenIn]; done) | decide +kernel
theorem ef_7 (m : MethodId) (x0 : Addr) : entryFrame m #[(.ref x0)] 1 = mkF m 0 #[.val (.ref x0)] [] := by first | (simp [entryFrame, mkF, argsToLocals, Value.category]; done) | rfl
def Q7 (Z : State) (a7_0 : Addr) (w7_routs_a7_0 : Int32) (h0 : Heap) (n0 : Nat) (v : Option Value) (h : Heap) (L : List Loc) : Prop := v = some (.int w7_routs_a7_0) ∧ Fr n0 L ∧ h = h0
set_option maxRecDepth 65536 in
set_option maxHeartbeats 40000000 in
theorem rm7 (l : Launch) (Z : State) (a0 : Array Value) (hw : ∀ d ∈ tables_1, d.before a0 Z = true) (ws : List Jvm.Cond) (a7_0 : Addr) (w7_routs_a7_0 : Int32) (h0 : Heap) (n0 : Nat) (Z0 : n0 ≤ h0.size) (F_routs_a7_0 : Fld Z h0 a7_0 "com/example/shieldwall/shieldwall/engine/MoraleState" "routs" "I" (.int w7_routs_a7_0)) :
    MetFree l (⟨"com/example/shieldwall/shieldwall/engine/MoraleState", "routs", "()I"⟩ : MethodName) (head1 (Jvm.Cond.code (⟨"com/example/shieldwall/shieldwall/engine/MoraleState", "routs", "()I"⟩ : MethodName) prog_19_method_4_code 1 (some .int) :: ws) ({ frames := 0, cells := 0, slots := 0, locals := 0 } : Room)) (fun a U => a = #[(.ref a7_0)] ∧ Z.Warmed39 U.vm ∧ U.heap = h0) (fun _ _ _ _ _ => True) (fun _ U o U' => ∃ v L, o = .returned v ∧ Q7 Z a7_0 w7_routs_a7_0 h0 n0 v U'.heap L ∧ FrameEnd U o U' L ({ frames := 0, cells := 0, slots := 0, locals := 0 } : Room).cells ({ frames := 0, cells := 0, slots := 0, locals := 0 } : Room).slots) := by
  refine MetFree.of_bodySF (plainFor_of_name pn_7) hisR ?_
  intro p e s m args below meth c s₁ Bd hml0 hP hK
  obtain ⟨rfl, hZ, hh⟩ := hP
  have hW : ∀ (i : Nat) (d : Jvm.Cond), tables_1[i]? = some d → d.before a0 Z = true := fun i d h => hw d (List.mem_of_getElem? h)
  have hx := Bd.exec
  have hby := Bd.bytes
  have hml : c.maxLocals = 1 := hml0
  have hown : s.vm.findClass "com/example/shieldwall/shieldwall/engine/MoraleState" = some m.cls := findClass_of_methodNamed Bd.named
  have hnm := (name_of_methodNamed Bd.named Bd.method).1
  have X0 : Stand p l e ({ frames := 0, cells := 0, slots := 0, locals := 0 } : Room) s m #[(.ref a7_0)] below meth c s₁ [] 0 0 := Stand.of_body Bd
  have e0 : s₁.heap = h0 := by rw [← hh, Bd.state]; rfl
  have N0 := Fr.nil n0
  have pre0 : ∀ t, Steps p.tables e below (s₁.setTop (mkF m 0 #[.val (.ref a7_0)] [])) t → Steps p.tables e below (s₁.setTop (entryFrame m #[(.ref a7_0)] 1)) t := fun t k => castTop (ef_7 m a7_0) k
  obtain ⟨T1, X1, e1, st1⟩ := getF X0 hx hZ hown (host := "") (Or.inl (hW 42 _ rfl)) Via.refl e0 F_routs_a7_0 (g := (mkF m 1 #[.val (.ref a7_0)] [(.ref a7_0)])) rfl rfl (hb hby d7_1)
  have pre2 : ∀ t, Steps p.tables e below (T1.setTop (mkF m 4 #[.val (.ref a7_0)] [(.int w7_routs_a7_0)])) t → Steps p.tables e below (s₁.setTop (entryFrame m #[(.ref a7_0)] 1)) t := fun t k => pre0 t (by
    show Steps p.tables e below (s₁.setTop (mkF m 0 #[.val (.ref a7_0)] [])) _
    refine XS.aloadN X0.here hx rfl (hb hby d7_0) rfl rfl ?_
    show Steps p.tables e below (s₁.setTop (mkF m 1 #[.val (.ref a7_0)] [(.ref a7_0)])) _
    refine st1 _ ?_
    exact k)
  obtain ⟨fs, hr, hrun, hended, hW, hsame⟩ := X1.leave (v := some (.int w7_routs_a7_0)) (fun h => by rw [Bd.returns] at h; cases h)
  refine ⟨_, _, pre2 _ ?_, hrun, hended, _, _, rfl, ?_, ⟨_, rfl⟩, hW, hsame.mono (by decide) (by decide)⟩
  · show Steps p.tables e below (T1.setTop (mkF m 4 #[.val (.ref a7_0)] [(.int w7_routs_a7_0)])) _
    exact retI X1 hx Bd.returns (hb hby d7_4) hr
  · show Q7 Z a7_0 w7_routs_a7_0 h0 n0 _ T1.heap _
    rw [e1]
    exact ⟨rfl, N0, rfl⟩
theorem d8_0 : decode prog_19_method_5_code 0 = .ok (.aload_n 0, 1) := by decide +kernel
theorem d8_1 : decode prog_19_method_5_code 1 = .ok (.getfield 22, 3) := by decide +kernel
theorem d8_4 : decode prog_19_method_5_code 4 = .ok (.ireturn, 1) := by decide +kernel
theorem pn_8 : plainName "com/example/shieldwall/shieldwall/engine/MoraleState" = true := by first | (simp [plainName, overriddenIn]; done) | decide +kernel
theorem ef_8 (m : MethodId) (x0 : Addr) : entryFrame m #[(.ref x0)] 1 = mkF m 0 #[.val (.ref x0)] [] := by first | (simp [entryFrame, mkF, argsToLocals, Value.category]; done) | rfl
def Q8 (Z : State) (a8_0 : Addr) (w8_routing_a8_0 : Int32) (h0 : Heap) (n0 : Nat) (v : Option Value) (h : Heap) (L : List Loc) : Prop := v = some (.int (nar .boolean w8_routing_a8_0)) ∧ Fr n0 L ∧ h = h0
set_option maxRecDepth 65536 in
set_option maxHeartbeats 40000000 in
theorem rm8 (l : Launch) (Z : State) (a0 : Array Value) (hw : ∀ d ∈ tables_1, d.before a0 Z = true) (ws : List Jvm.Cond) (a8_0 : Addr) (w8_routing_a8_0 : Int32) (h0 : Heap) (n0 : Nat) (Z0 : n0 ≤ h0.size) (F_routing_a8_0 : Fld Z h0 a8_0 "com/example/shieldwall/shieldwall/engine/MoraleState" "routing" "Z" (.int w8_routing_a8_0)) :
    MetFree l (⟨"com/example/shieldwall/shieldwall/engine/MoraleState", "routing", "()Z"⟩ : MethodName) (head1 (Jvm.Cond.code (⟨"com/example/shieldwall/shieldwall/engine/MoraleState", "routing", "()Z"⟩ : MethodName) prog_19_method_5_code 1 (some .boolean) :: ws) ({ frames := 0, cells := 0, slots := 0, locals := 0 } : Room)) (fun a U => a = #[(.ref a8_0)] ∧ Z.Warmed39 U.vm ∧ U.heap = h0) (fun _ _ _ _ _ => True) (fun _ U o U' => ∃ v L, o = .returned v ∧ Q8 Z a8_0 w8_routing_a8_0 h0 n0 v U'.heap L ∧ FrameEnd U o U' L ({ frames := 0, cells := 0, slots := 0, locals := 0 } : Room).cells ({ frames := 0, cells := 0, slots := 0, locals := 0 } : Room).slots) := by
  refine MetFree.of_bodySF (plainFor_of_name pn_8) hisR ?_
  intro p e s m args below meth c s₁ Bd hml0 hP hK
  obtain ⟨rfl, hZ, hh⟩ := hP
  have hW : ∀ (i : Nat) (d : Jvm.Cond), tables_1[i]? = some d → d.before a0 Z = true := fun i d h => hw d (List.mem_of_getElem? h)
  have hx := Bd.exec
  have hby := Bd.bytes
  have hml : c.maxLocals = 1 := hml0
  have hown : s.vm.findClass "com/example/shieldwall/shieldwall/engine/MoraleState" = some m.cls := findClass_of_methodNamed Bd.named
  have hnm := (name_of_methodNamed Bd.named Bd.method).1
  have X0 : Stand p l e ({ frames := 0, cells := 0, slots := 0, locals := 0 } : Room) s m #[(.ref a8_0)] below meth c s₁ [] 0 0 := Stand.of_body Bd
  have e0 : s₁.heap = h0 := by rw [← hh, Bd.state]; rfl
  have N0 := Fr.nil n0
  have pre0 : ∀ t, Steps p.tables e below (s₁.setTop (mkF m 0 #[.val (.ref a8_0)] [])) t → Steps p.tables e below (s₁.setTop (entryFrame m #[(.ref a8_0)] 1)) t := fun t k => castTop (ef_8 m a8_0) k
  obtain ⟨T1, X1, e1, st1⟩ := getF X0 hx hZ hown (host := "") (Or.inl (hW 49 _ rfl)) Via.refl e0 F_routing_a8_0 (g := (mkF m 1 #[.val (.ref a8_0)] [(.ref a8_0)])) rfl rfl (hb hby d8_1)
  have pre2 : ∀ t, Steps p.tables e below (T1.setTop (mkF m 4 #[.val (.ref a8_0)] [(.int w8_routing_a8_0)])) t → Steps p.tables e below (s₁.setTop (entryFrame m #[(.ref a8_0)] 1)) t := fun t k => pre0 t (by
    show Steps p.tables e below (s₁.setTop (mkF m 0 #[.val (.ref a8_0)] [])) _
    refine XS.aloadN X0.here hx rfl (hb hby d8_0) rfl rfl ?_
    show Steps p.tables e below (s₁.setTop (mkF m 1 #[.val (.ref a8_0)] [(.ref a8_0)])) _
    refine st1 _ ?_
    exact k)
  obtain ⟨fs, hr, hrun, hended, hW, hsame⟩ := X1.leave (v := some (.int (nar .boolean w8_routing_a8_0))) (fun h => by rw [Bd.returns] at h; cases h)
  refine ⟨_, _, pre2 _ ?_, hrun, hended, _, _, rfl, ?_, ⟨_, rfl⟩, hW, hsame.mono (by decide) (by decide)⟩
  · show Steps p.tables e below (T1.setTop (mkF m 4 #[.val (.ref a8_0)] [(.int w8_routing_a8_0)])) _
    exact retN X1 hx (t := .boolean) Bd.returns (by simp) (hb hby d8_4) hr
  · show Q8 Z a8_0 w8_routing_a8_0 h0 n0 _ T1.heap _
    rw [e1]
    exact ⟨rfl, N0, rfl⟩
theorem d9_0 : decode prog_19_method_2_code 0 = .ok (.aload_n 0, 1) := by decide +kernel
theorem d9_1 : decode prog_19_method_2_code 1 = .ok (.getfield 7, 3) := by decide +kernel
theorem d9_4 : decode prog_19_method_2_code 4 = .ok (.ireturn, 1) := by decide +kernel
theorem pn_9 : plainName "com/example/shieldwall/shieldwall/engine/MoraleState" = true := by first | (simp [plainName, overriddenIn]; done) | decide +kernel
theorem ef_9 (m : MethodId) (x0 : Addr) : entryFrame m #[(.ref x0)] 1 = mkF m 0 #[.val (.ref x0)] [] := by first | (simp [entryFrame, mkF, argsToLocals, Value.category]; done) | rfl
def Q9 (Z : State) (a9_0 : Addr) (w9_startStrength_a9_0 : Int32) (h0 : Heap) (n0 : Nat) (v : Option Value) (h : Heap) (L : List Loc) : Prop := v = some (.int w9_startStrength_a9_0) ∧ Fr n0 L ∧ h = h0
set_option maxRecDepth 65536 in
set_option maxHeartbeats 40000000 in
theorem rm9 (l : Launch) (Z : State) (a0 : Array Value) (hw : ∀ d ∈ tables_1, d.before a0 Z = true) (ws : List Jvm.Cond) (a9_0 : Addr) (w9_startStrength_a9_0 : Int32) (h0 : Heap) (n0 : Nat) (Z0 : n0 ≤ h0.size) (F_startStrength_a9_0 : Fld Z h0 a9_0 "com/example/shieldwall/shieldwall/engine/MoraleState" "startStrength" "I" (.int w9_startStrength_a9_0)) :
    MetFree l (⟨"com/example/shieldwall/shieldwall/engine/MoraleState", "startStrength", "()I"⟩ : MethodName) (head1 (Jvm.Cond.code (⟨"com/example/shieldwall/shieldwall/engine/MoraleState", "startStrength", "()I"⟩ : MethodName) prog_19_method_2_code 1 (some .int) :: ws) ({ frames := 0, cells := 0, slots := 0, locals := 0 } : Room)) (fun a U => a = #[(.ref a9_0)] ∧ Z.Warmed39 U.vm ∧ U.heap = h0) (fun _ _ _ _ _ => True) (fun _ U o U' => ∃ v L, o = .returned v ∧ Q9 Z a9_0 w9_startStrength_a9_0 h0 n0 v U'.heap L ∧ FrameEnd U o U' L ({ frames := 0, cells := 0, slots := 0, locals := 0 } : Room).cells ({ frames := 0, cells := 0, slots := 0, locals := 0 } : Room).slots) := by
  refine MetFree.of_bodySF (plainFor_of_name pn_9) hisR ?_
  intro p e s m args below meth c s₁ Bd hml0 hP hK
  obtain ⟨rfl, hZ, hh⟩ := hP
  have hW : ∀ (i : Nat) (d : Jvm.Cond), tables_1[i]? = some d → d.before a0 Z = true := fun i d h => hw d (List.mem_of_getElem? h)
  have hx := Bd.exec
  have hby := Bd.bytes
  have hml : c.maxLocals = 1 := hml0
  have hown : s.vm.findClass "com/example/shieldwall/shieldwall/engine/MoraleState" = some m.cls := findClass_of_methodNamed Bd.named
  have hnm := (name_of_methodNamed Bd.named Bd.method).1
  have X0 : Stand p l e ({ frames := 0, cells := 0, slots := 0, locals := 0 } : Room) s m #[(.ref a9_0)] below meth c s₁ [] 0 0 := Stand.of_body Bd
  have e0 : s₁.heap = h0 := by rw [← hh, Bd.state]; rfl
  have N0 := Fr.nil n0
  have pre0 : ∀ t, Steps p.tables e below (s₁.setTop (mkF m 0 #[.val (.ref a9_0)] [])) t → Steps p.tables e below (s₁.setTop (entryFrame m #[(.ref a9_0)] 1)) t := fun t k => castTop (ef_9 m a9_0) k
  obtain ⟨T1, X1, e1, st1⟩ := getF X0 hx hZ hown (host := "") (Or.inl (hW 9 _ rfl)) Via.refl e0 F_startStrength_a9_0 (g := (mkF m 1 #[.val (.ref a9_0)] [(.ref a9_0)])) rfl rfl (hb hby d9_1)
  have pre2 : ∀ t, Steps p.tables e below (T1.setTop (mkF m 4 #[.val (.ref a9_0)] [(.int w9_startStrength_a9_0)])) t → Steps p.tables e below (s₁.setTop (entryFrame m #[(.ref a9_0)] 1)) t := fun t k => pre0 t (by
    show Steps p.tables e below (s₁.setTop (mkF m 0 #[.val (.ref a9_0)] [])) _
    refine XS.aloadN X0.here hx rfl (hb hby d9_0) rfl rfl ?_
    show Steps p.tables e below (s₁.setTop (mkF m 1 #[.val (.ref a9_0)] [(.ref a9_0)])) _
    refine st1 _ ?_
    exact k)
  obtain ⟨fs, hr, hrun, hended, hW, hsame⟩ := X1.leave (v := some (.int w9_startStrength_a9_0)) (fun h => by rw [Bd.returns] at h; cases h)
  refine ⟨_, _, pre2 _ ?_, hrun, hended, _, _, rfl, ?_, ⟨_, rfl⟩, hW, hsame.mono (by decide) (by decide)⟩
  · show Steps p.tables e below (T1.setTop (mkF m 4 #[.val (.ref a9_0)] [(.int w9_startStrength_a9_0)])) _
    exact retI X1 hx Bd.returns (hb hby d9_4) hr
  · show Q9 Z a9_0 w9_startStrength_a9_0 h0 n0 _ T1.heap _
    rw [e1]
    exact ⟨rfl, N0, rfl⟩
theorem d10_0 : decode prog_19_method_14_code 0 = .ok (.aload_n 0, 1) := by decide +kernel
theorem d10_1 : decode prog_19_method_14_code 1 = .ok (.dup, 1) := by decide +kernel
theorem d10_2 : decode prog_19_method_14_code 2 = .ok (.getfield 19, 3) := by decide +kernel
theorem d10_5 : decode prog_19_method_14_code 5 = .ok (.iconst 1, 1) := by decide +kernel
theorem d10_6 : decode prog_19_method_14_code 6 = .ok (.isub, 1) := by decide +kernel
theorem d10_7 : decode prog_19_method_14_code 7 = .ok (.putfield 19, 3) := by decide +kernel
theorem d10_10 : decode prog_19_method_14_code 10 = .ok (.aload_n 0, 1) := by decide +kernel
theorem d10_11 : decode prog_19_method_14_code 11 = .ok (.iconst 1, 1) := by decide +kernel
theorem d10_12 : decode prog_19_method_14_code 12 = .ok (.putfield 22, 3) := by decide +kernel
theorem d10_15 : decode prog_19_method_14_code 15 = .ok (.return_, 1) := by decide +kernel
theorem pn_10 : plainName "com/example/shieldwall/shieldwall/engine/MoraleState" = true := by first | (simp [plainName, overriddenIn]; done) | decide +kernel
theorem ef_10 (m : MethodId) (x0 : Addr) : entryFrame m #[(.ref x0)] 1 = mkF m 0 #[.val (.ref x0)] [] := by first | (simp [entryFrame, mkF, argsToLocals, Value.category]; done) | rfl
def Q10 (Z : State) (a10_0 : Addr) (w10_routs_a10_0 : Int32) (w10_startStrength_a10_0 : Int32) (w10_lost_a10_0 : Int32) (w10_lostInARow_a10_0 : Int32) (w10_won_a10_0 : Int32) (w10_routing_a10_0 : Int32) (h0 : Heap) (n0 : Nat) (v : Option Value) (h : Heap) (L : List Loc) : Prop := v = none ∧ Fr n0 L ∧ Keep h0 h [a10_0] ∧ Exa Z h a10_0 "com/example/shieldwall/shieldwall/engine/MoraleState" ∧ Fld Z h a10_0 "com/example/shieldwall/shieldwall/engine/MoraleState" "startStrength" "I" (.int w10_startStrength_a10_0) ∧ Fld Z h a10_0 "com/example/shieldwall/shieldwall/engine/MoraleState" "lost" "I" (.int w10_lost_a10_0) ∧ Fld Z h a10_0 "com/example/shieldwall/shieldwall/engine/MoraleState" "lostInARow" "I" (.int w10_lostInARow_a10_0) ∧ Fld Z h a10_0 "com/example/shieldwall/shieldwall/engine/MoraleState" "won" "I" (.int w10_won_a10_0) ∧ Fld Z h a10_0 "com/example/shieldwall/shieldwall/engine/MoraleState" "routs" "I" (.int (w10_routs_a10_0 - (1 : Int32))) ∧ Fld Z h a10_0 "com/example/shieldwall/shieldwall/engine/MoraleState" "routing" "Z" (.int (1 : Int32))
set_option maxRecDepth 65536 in
set_option maxHeartbeats 40000000 in
theorem rm10 (l : Launch) (Z : State) (a0 : Array Value) (hw : ∀ d ∈ tables_1, d.before a0 Z = true) (ws : List Jvm.Cond) (a10_0 : Addr) (w10_routs_a10_0 : Int32) (w10_startStrength_a10_0 : Int32) (w10_lost_a10_0 : Int32) (w10_lostInARow_a10_0 : Int32) (w10_won_a10_0 : Int32) (w10_routing_a10_0 : Int32) (h0 : Heap) (n0 : Nat) (Z0 : n0 ≤ h0.size) (F_routs_a10_0 : Fld Z h0 a10_0 "com/example/shieldwall/shieldwall/engine/MoraleState" "routs" "I" (.int w10_routs_a10_0)) (E_a10_0 : Exa Z h0 a10_0 "com/example/shieldwall/shieldwall/engine/MoraleState") (F_startStrength_a10_0 : Fld Z h0 a10_0 "com/example/shieldwall/shieldwall/engine/MoraleState" "startStrength" "I" (.int w10_startStrength_a10_0)) (F_lost_a10_0 : Fld Z h0 a10_0 "com/example/shieldwall/shieldwall/engine/MoraleState" "lost" "I" (.int w10_lost_a10_0)) (F_lostInARow_a10_0 : Fld Z h0 a10_0 "com/example/shieldwall/shieldwall/engine/MoraleState" "lostInARow" "I" (.int w10_lostInARow_a10_0)) (F_won_a10_0 : Fld Z h0 a10_0 "com/example/shieldwall/shieldwall/engine/MoraleState" "won" "I" (.int w10_won_a10_0)) (F_routing_a10_0 : Fld Z h0 a10_0 "com/example/shieldwall/shieldwall/engine/MoraleState" "routing" "Z" (.int w10_routing_a10_0)) (g_a10_0 : n0 ≤ a10_0) :
    MetFree l (⟨"com/example/shieldwall/shieldwall/engine/MoraleState", "routed", "()V"⟩ : MethodName) (head1 (Jvm.Cond.code (⟨"com/example/shieldwall/shieldwall/engine/MoraleState", "routed", "()V"⟩ : MethodName) prog_19_method_14_code 1 none :: ws) ({ frames := 0, cells := 0, slots := 0, locals := 0 } : Room)) (fun a U => a = #[(.ref a10_0)] ∧ Z.Warmed39 U.vm ∧ U.heap = h0) (fun _ _ _ _ _ => True) (fun _ U o U' => ∃ v L, o = .returned v ∧ Q10 Z a10_0 w10_routs_a10_0 w10_startStrength_a10_0 w10_lost_a10_0 w10_lostInARow_a10_0 w10_won_a10_0 w10_routing_a10_0 h0 n0 v U'.heap L ∧ FrameEnd U o U' L ({ frames := 0, cells := 0, slots := 0, locals := 0 } : Room).cells ({ frames := 0, cells := 0, slots := 0, locals := 0 } : Room).slots) := by
  refine MetFree.of_bodySF (plainFor_of_name pn_10) hisR ?_
  intro p e s m args below meth c s₁ Bd hml0 hP hK
  obtain ⟨rfl, hZ, hh⟩ := hP
  have hW : ∀ (i : Nat) (d : Jvm.Cond), tables_1[i]? = some d → d.before a0 Z = true := fun i d h => hw d (List.mem_of_getElem? h)
  have hx := Bd.exec
  have hby := Bd.bytes
  have hml : c.maxLocals = 1 := hml0
  have hown : s.vm.findClass "com/example/shieldwall/shieldwall/engine/MoraleState" = some m.cls := findClass_of_methodNamed Bd.named
  have hnm := (name_of_methodNamed Bd.named Bd.method).1
  have X0 : Stand p l e ({ frames := 0, cells := 0, slots := 0, locals := 0 } : Room) s m #[(.ref a10_0)] below meth c s₁ [] 0 0 := Stand.of_body Bd
  have e0 : s₁.heap = h0 := by rw [← hh, Bd.state]; rfl
  have N0 := Fr.nil n0
  have pre0 : ∀ t, Steps p.tables e below (s₁.setTop (mkF m 0 #[.val (.ref a10_0)] [])) t → Steps p.tables e below (s₁.setTop (entryFrame m #[(.ref a10_0)] 1)) t := fun t k => castTop (ef_10 m a10_0) k
  obtain ⟨T1, X1, e1, st1⟩ := getF X0 hx hZ hown (host := "") (Or.inl (hW 42 _ rfl)) Via.refl e0 F_routs_a10_0 (g := (mkF m 2 #[.val (.ref a10_0)] [(.ref a10_0), (.ref a10_0)])) rfl rfl (hb hby d10_2)
  have pre2 : ∀ t, Steps p.tables e below (T1.setTop (mkF m 5 #[.val (.ref a10_0)] [(.int w10_routs_a10_0), (.ref a10_0)])) t → Steps p.tables e below (s₁.setTop (entryFrame m #[(.ref a10_0)] 1)) t := fun t k => pre0 t (by
    show Steps p.tables e below (s₁.setTop (mkF m 0 #[.val (.ref a10_0)] [])) _
    refine XS.aloadN X0.here hx rfl (hb hby d10_0) rfl rfl ?_
    show Steps p.tables e below (s₁.setTop (mkF m 1 #[.val (.ref a10_0)] [(.ref a10_0)])) _
    refine XS.dup X0.here hx rfl (hb hby d10_1) rfl rfl ?_
    show Steps p.tables e below (s₁.setTop (mkF m 2 #[.val (.ref a10_0)] [(.ref a10_0), (.ref a10_0)])) _
    refine st1 _ ?_
    exact k)
  obtain ⟨T3, h3, X3, e3, W3, st3⟩ := putF X1 hx hZ hown (host := "") (Or.inl (hW 42 _ rfl)) Via.refl e1 F_routs_a10_0 E_a10_0 (Or.inl (hW 43 _ rfl)) (hW 1 _ rfl) (ty := .int) (by decide) rfl rfl (g := (mkF m 7 #[.val (.ref a10_0)] [(.int (w10_routs_a10_0 - (1 : Int32))), (.ref a10_0)])) rfl rfl (hb hby d10_7)
  have pre4 : ∀ t, Steps p.tables e below (T3.setTop (mkF m 10 #[.val (.ref a10_0)] [])) t → Steps p.tables e below (s₁.setTop (entryFrame m #[(.ref a10_0)] 1)) t := fun t k => pre2 t (by
    show Steps p.tables e below (T1.setTop (mkF m 5 #[.val (.ref a10_0)] [(.int w10_routs_a10_0), (.ref a10_0)])) _
    refine XS.iconst X1.here hx rfl (hb hby d10_5) ?_
    show Steps p.tables e below (T1.setTop (mkF m 6 #[.val (.ref a10_0)] [(.int (1 : Int32)), (.int w10_routs_a10_0), (.ref a10_0)])) _
    refine XS.isub X1.here hx rfl (hb hby d10_6) rfl ?_
    show Steps p.tables e below (T1.setTop (mkF m 7 #[.val (.ref a10_0)] [(.int (w10_routs_a10_0 - (1 : Int32))), (.ref a10_0)])) _
    refine st3 _ ?_
    exact k)
  have f5 := E_a10_0.wr W3
  have f6 := F_startStrength_a10_0.other W3 (Or.inr (slot_ne (Or.inr (hW 10 _ rfl)) (Or.inl (hW 43 _ rfl)) (by decide) (t := .int) (t' := .int) (by decide) (by decide)))
  have f7 := F_lost_a10_0.other W3 (Or.inr (slot_ne (Or.inl (hW 17 _ rfl)) (Or.inl (hW 43 _ rfl)) (by decide) (t := .int) (t' := .int) (by decide) (by decide)))
  have f8 := F_lostInARow_a10_0.other W3 (Or.inr (slot_ne (Or.inl (hW 19 _ rfl)) (Or.inl (hW 43 _ rfl)) (by decide) (t := .int) (t' := .int) (by decide) (by decide)))
  have f9 := F_won_a10_0.other W3 (Or.inr (slot_ne (Or.inl (hW 26 _ rfl)) (Or.inl (hW 43 _ rfl)) (by decide) (t := .int) (t' := .int) (by decide) (by decide)))
  have f10 := F_routing_a10_0.other W3 (Or.inr (slot_ne (Or.inl (hW 50 _ rfl)) (Or.inl (hW 43 _ rfl)) (by decide) (t := .boolean) (t' := .int) (by decide) (by decide)))
  have z11 := Nat.le_trans Z0 (Keep.of_wr W3).1
  have k12 := (Keep.refl h0 [a10_0]).wr W3 (Or.inl (List.mem_of_getElem? (i := 0) rfl))
  have f13 := F_routs_a10_0.same W3
  have N14 := Fr.snoc X3 N0 g_a10_0
  obtain ⟨T15, h15, X15, e15, W15, st15⟩ := putFN X3 hx hZ hown (hW 49 _ rfl) Via.refl e3 f10 f5 (Or.inl (hW 50 _ rfl)) (hW 1 _ rfl) (ty := .boolean) (v' := (.int (1 : Int32))) (by decide) rfl rfl (g := (mkF m 12 #[.val (.ref a10_0)] [(.int (1 : Int32)), (.ref a10_0)])) rfl rfl (hb hby d10_12)
  have pre16 : ∀ t, Steps p.tables e below (T15.setTop (mkF m 15 #[.val (.ref a10_0)] [])) t → Steps p.tables e below (s₁.setTop (entryFrame m #[(.ref a10_0)] 1)) t := fun t k => pre4 t (by
    show Steps p.tables e below (T3.setTop (mkF m 10 #[.val (.ref a10_0)] [])) _
    refine XS.aloadN X3.here hx rfl (hb hby d10_10) rfl rfl ?_
    show Steps p.tables e below (T3.setTop (mkF m 11 #[.val (.ref a10_0)] [(.ref a10_0)])) _
    refine XS.iconst X3.here hx rfl (hb hby d10_11) ?_
    show Steps p.tables e below (T3.setTop (mkF m 12 #[.val (.ref a10_0)] [(.int (1 : Int32)), (.ref a10_0)])) _
    refine st15 _ ?_
    exact k)
  have f17 := f5.wr W15
  have f18 := f6.other W15 (Or.inr (slot_ne (Or.inr (hW 10 _ rfl)) (Or.inl (hW 50 _ rfl)) (by decide) (t := .int) (t' := .boolean) (by decide) (by decide)))
  have f19 := f7.other W15 (Or.inr (slot_ne (Or.inl (hW 17 _ rfl)) (Or.inl (hW 50 _ rfl)) (by decide) (t := .int) (t' := .boolean) (by decide) (by decide)))
  have f20 := f8.other W15 (Or.inr (slot_ne (Or.inl (hW 19 _ rfl)) (Or.inl (hW 50 _ rfl)) (by decide) (t := .int) (t' := .boolean) (by decide) (by decide)))
  have f21 := f9.other W15 (Or.inr (slot_ne (Or.inl (hW 26 _ rfl)) (Or.inl (hW 50 _ rfl)) (by decide) (t := .int) (t' := .boolean) (by decide) (by decide)))
  have f22 := f13.other W15 (Or.inr (slot_ne (Or.inl (hW 43 _ rfl)) (Or.inl (hW 50 _ rfl)) (by decide) (t := .int) (t' := .boolean) (by decide) (by decide)))
  have z23 := Nat.le_trans z11 (Keep.of_wr W15).1
  have k24 := k12.wr W15 (Or.inl (List.mem_of_getElem? (i := 0) rfl))
  have f25 := f10.same W15
  have N26 := Fr.snoc X15 N14 g_a10_0
  obtain ⟨fs, hr, hrun, hended, hW, hsame⟩ := X15.leave (v := none) (fun _ => rfl)
  refine ⟨_, _, pre16 _ ?_, hrun, hended, _, _, rfl, ?_, ⟨_, rfl⟩, hW, hsame.mono (by decide) (by decide)⟩
  · show Steps p.tables e below (T15.setTop (mkF m 15 #[.val (.ref a10_0)] [])) _
    exact X15.returnOut hx Bd.returns (hb hby d10_15) hr
  · show Q10 Z a10_0 w10_routs_a10_0 w10_startStrength_a10_0 w10_lost_a10_0 w10_lostInARow_a10_0 w10_won_a10_0 w10_routing_a10_0 h0 n0 _ T15.heap _
    rw [e15]
    exact ⟨rfl, N26, k24, f17, f18, f19, f20, f21, f22, f25⟩
theorem pd_0 : parseMethodDescriptor "(I)V" = some ⟨[.int], none⟩ := by decide +kernel
theorem pd_1 : parseMethodDescriptor "()V" = some ⟨[], none⟩ := by decide +kernel
theorem pd_2 : parseMethodDescriptor "()I" = some ⟨[], some .int⟩ := by decide +kernel
theorem pd_3 : parseMethodDescriptor "()Z" = some ⟨[], some .boolean⟩ := by decide +kernel
theorem pn_0 : plainName "com/example/shieldwall/shieldwall/engine/MoraleStateLostPinLaw" = true := by first | (simp [plainName, overriddenIn]; done) | decide +kernel
theorem ef_0 (m : MethodId) (x0 : Int32) (x1 : Int32) : entryFrame m #[(.int x0), (.int x1)] maxLocals = mkF m 0 #[.val (.int x0), .val (.int x1), .unset, .unset, .unset, .unset, .unset, .unset, .unset, .unset, .unset] [] := by first | (simp [entryFrame, mkF, argsToLocals, Value.category, maxLocals]; done) | rfl
def Q0 (Z : State) (p0_0 : Int32) (p0_1 : Int32) (h0 : Heap) (n0 : Nat) (v : Option Value) (h : Heap) (L : List Loc) : Prop := v = some (.int (1 : Int32)) ∧ Fr n0 L
set_option maxRecDepth 65536 in
set_option maxHeartbeats 40000000 in
theorem rm0 (l : Launch) (Z : State) (a0 : Array Value) (hw : ∀ d ∈ tables_1, d.before a0 Z = true) (ws : List Jvm.Cond) (p0_0 : Int32) (p0_1 : Int32) (h0 : Heap) (n0 : Nat) (Z0 : n0 ≤ h0.size) :
    MetFree l x (head1 (Jvm.Cond.code x code maxLocals ret :: ws) room_1) (fun a U => a = #[(.int p0_0), (.int p0_1)] ∧ Z.Warmed39 U.vm ∧ U.heap = h0) (fun _ _ _ _ _ => True) (fun _ U o U' => ∃ v L, o = .returned v ∧ Q0 Z p0_0 p0_1 h0 n0 v U'.heap L ∧ FrameEnd U o U' L room_1.cells room_1.slots) := by
  refine MetFree.of_bodySF (plainFor_of_name pn_0) hisR ?_
  intro p e s m args below meth c s₁ Bd hml0 hP hK
  obtain ⟨rfl, hZ, hh⟩ := hP
  have hW : ∀ (i : Nat) (d : Jvm.Cond), tables_1[i]? = some d → d.before a0 Z = true := fun i d h => hw d (List.mem_of_getElem? h)
  have hx := Bd.exec
  have hby := Bd.bytes
  have hml : c.maxLocals = 11 := hml0
  have hown : s.vm.findClass "com/example/shieldwall/shieldwall/engine/MoraleStateLostPinLaw" = some m.cls := findClass_of_methodNamed Bd.named
  have hnm := (name_of_methodNamed Bd.named Bd.method).1
  have X0 : Stand p l e room_1 s m #[(.int p0_0), (.int p0_1)] below meth c s₁ [] 0 0 := Stand.of_body Bd
  have e0 : s₁.heap = h0 := by rw [← hh, Bd.state]; rfl
  have N0 := Fr.nil n0
  have pre0 : ∀ t, Steps p.tables e below (s₁.setTop (mkF m 0 #[.val (.int p0_0), .val (.int p0_1), .unset, .unset, .unset, .unset, .unset, .unset, .unset, .unset, .unset] [])) t → Steps p.tables e below (s₁.setTop (entryFrame m #[(.int p0_0), (.int p0_1)] maxLocals)) t := fun t k => castTop (ef_0 m p0_0 p0_1) k
  have pre2 : ∀ t, Steps p.tables e below (s₁.setTop (mkF m 3 #[.val (.int p0_0), .val (.int p0_1), .unset, .unset, .unset, .unset, .unset, .unset, .unset, .unset, .unset] [(.int (p0_1 &&& (1 : Int32)))])) t → Steps p.tables e below (s₁.setTop (entryFrame m #[(.int p0_0), (.int p0_1)] maxLocals)) t := fun t k => pre0 t (by
    show Steps p.tables e below (s₁.setTop (mkF m 0 #[.val (.int p0_0), .val (.int p0_1), .unset, .unset, .unset, .unset, .unset, .unset, .unset, .unset, .unset] [])) _
    refine XS.iloadN X0.here hx rfl (hb hby at_0) rfl ?_
    show Steps p.tables e below (s₁.setTop (mkF m 1 #[.val (.int p0_0), .val (.int p0_1), .unset, .unset, .unset, .unset, .unset, .unset, .unset, .unset, .unset] [(.int p0_1)])) _
    refine XS.iconst X0.here hx rfl (hb hby at_1) ?_
    show Steps p.tables e below (s₁.setTop (mkF m 2 #[.val (.int p0_0), .val (.int p0_1), .unset, .unset, .unset, .unset, .unset, .unset, .unset, .unset, .unset] [(.int (1 : Int32)), (.int p0_1)])) _
    refine XS.iand X0.here hx rfl (hb hby at_2) rfl ?_
    exact k)
  have pre3 : ∀ t, Steps p.tables e below (s₁.setTop (mkF m 11 #[.val (.int p0_0), .val (.int p0_1), .unset, .unset, .unset, .unset, .unset, .unset, .unset, .unset, .unset] [(.int (bI (¬ ((p0_1 &&& (1 : Int32)) = (0 : Int32)))))])) t → Steps p.tables e below (s₁.setTop (entryFrame m #[(.int p0_0), (.int p0_1)] maxLocals)) t := fun t k => pre2 t (by
    by_cases hc1 : (p0_1 &&& (1 : Int32)) = (0 : Int32)
    · show Steps p.tables e below (s₁.setTop (mkF m 3 #[.val (.int p0_0), .val (.int p0_1), .unset, .unset, .unset, .unset, .unset, .unset, .unset, .unset, .unset] [(.int (p0_1 &&& (1 : Int32)))])) _
      refine XS.ifYes X0.here hx rfl (pc0 := 3) (pc' := 10) rfl (hb hby at_3) rfl ((if0 _ _).trans (teq hc1).1) (by decide) (by decide) ?_
      show Steps p.tables e below (s₁.setTop (mkF m 10 #[.val (.int p0_0), .val (.int p0_1), .unset, .unset, .unset, .unset, .unset, .unset, .unset, .unset, .unset] [])) _
      refine XS.iconst X0.here hx rfl (hb hby at_10) ?_
      have q4 : (bI (¬ ((p0_1 &&& (1 : Int32)) = (0 : Int32)))) = (0 : Int32) := (bI_f (fun q => q hc1))
      exact castTop (g := (mkF m 11 #[.val (.int p0_0), .val (.int p0_1), .unset, .unset, .unset, .unset, .unset, .unset, .unset, .unset, .unset] [(.int (0 : Int32))])) (g' := (mkF m 11 #[.val (.int p0_0), .val (.int p0_1), .unset, .unset, .unset, .unset, .unset, .unset, .unset, .unset, .unset] [(.int (bI (¬ ((p0_1 &&& (1 : Int32)) = (0 : Int32)))))])) (by simp only [q4]) k
    · show Steps p.tables e below (s₁.setTop (mkF m 3 #[.val (.int p0_0), .val (.int p0_1), .unset, .unset, .unset, .unset, .unset, .unset, .unset, .unset, .unset] [(.int (p0_1 &&& (1 : Int32)))])) _
      refine XS.ifNo X0.here hx rfl (hb hby at_3) rfl ((if0 _ _).trans (feq hc1).1) ?_
      show Steps p.tables e below (s₁.setTop (mkF m 6 #[.val (.int p0_0), .val (.int p0_1), .unset, .unset, .unset, .unset, .unset, .unset, .unset, .unset, .unset] [])) _
      refine XS.iconst X0.here hx rfl (hb hby at_6) ?_
      show Steps p.tables e below (s₁.setTop (mkF m 7 #[.val (.int p0_0), .val (.int p0_1), .unset, .unset, .unset, .unset, .unset, .unset, .unset, .unset, .unset] [(.int (1 : Int32))])) _
      refine XS.goto X0.here hx rfl (pc0 := 7) (pc' := 11) rfl (hb hby at_7) (by decide) (by decide) ?_
      have q5 : (bI (¬ ((p0_1 &&& (1 : Int32)) = (0 : Int32)))) = (1 : Int32) := (bI_t hc1)
      exact castTop (g := (mkF m 11 #[.val (.int p0_0), .val (.int p0_1), .unset, .unset, .unset, .unset, .unset, .unset, .unset, .unset, .unset] [(.int (1 : Int32))])) (g' := (mkF m 11 #[.val (.int p0_0), .val (.int p0_1), .unset, .unset, .unset, .unset, .unset, .unset, .unset, .unset, .unset] [(.int (bI (¬ ((p0_1 &&& (1 : Int32)) = (0 : Int32)))))])) (by simp only [q5]) k)
  have pre7 : ∀ t, Steps p.tables e below (s₁.setTop (mkF m 15 #[.val (.int p0_0), .val (.int p0_1), .val (.int (bI (¬ ((p0_1 &&& (1 : Int32)) = (0 : Int32))))), .unset, .unset, .unset, .unset, .unset, .unset, .unset, .unset] [(.int (p0_1 &&& (2 : Int32)))])) t → Steps p.tables e below (s₁.setTop (entryFrame m #[(.int p0_0), (.int p0_1)] maxLocals)) t := fun t k => pre3 t (by
    show Steps p.tables e below (s₁.setTop (mkF m 11 #[.val (.int p0_0), .val (.int p0_1), .unset, .unset, .unset, .unset, .unset, .unset, .unset, .unset, .unset] [(.int (bI (¬ ((p0_1 &&& (1 : Int32)) = (0 : Int32)))))])) _
    refine XS.istoreN X0.here hx rfl (hb hby at_11) rfl (l' := #[.val (.int p0_0), .val (.int p0_1), .val (.int (bI (¬ ((p0_1 &&& (1 : Int32)) = (0 : Int32))))), .unset, .unset, .unset, .unset, .unset, .unset, .unset, .unset]) rfl ?_
    show Steps p.tables e below (s₁.setTop (mkF m 12 #[.val (.int p0_0), .val (.int p0_1), .val (.int (bI (¬ ((p0_1 &&& (1 : Int32)) = (0 : Int32))))), .unset, .unset, .unset, .unset, .unset, .unset, .unset, .unset] [])) _
    refine XS.iloadN X0.here hx rfl (hb hby at_12) rfl ?_
    show Steps p.tables e below (s₁.setTop (mkF m 13 #[.val (.int p0_0), .val (.int p0_1), .val (.int (bI (¬ ((p0_1 &&& (1 : Int32)) = (0 : Int32))))), .unset, .unset, .unset, .unset, .unset, .unset, .unset, .unset] [(.int p0_1)])) _
    refine XS.iconst X0.here hx rfl (hb hby at_13) ?_
    show Steps p.tables e below (s₁.setTop (mkF m 14 #[.val (.int p0_0), .val (.int p0_1), .val (.int (bI (¬ ((p0_1 &&& (1 : Int32)) = (0 : Int32))))), .unset, .unset, .unset, .unset, .unset, .unset, .unset, .unset] [(.int (2 : Int32)), (.int p0_1)])) _
    refine XS.iand X0.here hx rfl (hb hby at_14) rfl ?_
    exact k)
  have pre8 : ∀ t, Steps p.tables e below (s₁.setTop (mkF m 23 #[.val (.int p0_0), .val (.int p0_1), .val (.int (bI (¬ ((p0_1 &&& (1 : Int32)) = (0 : Int32))))), .unset, .unset, .unset, .unset, .unset, .unset, .unset, .unset] [(.int (bI (¬ ((p0_1 &&& (2 : Int32)) = (0 : Int32)))))])) t → Steps p.tables e below (s₁.setTop (entryFrame m #[(.int p0_0), (.int p0_1)] maxLocals)) t := fun t k => pre7 t (by
    by_cases hc6 : (p0_1 &&& (2 : Int32)) = (0 : Int32)
    · show Steps p.tables e below (s₁.setTop (mkF m 15 #[.val (.int p0_0), .val (.int p0_1), .val (.int (bI (¬ ((p0_1 &&& (1 : Int32)) = (0 : Int32))))), .unset, .unset, .unset, .unset, .unset, .unset, .unset, .unset] [(.int (p0_1 &&& (2 : Int32)))])) _
      refine XS.ifYes X0.here hx rfl (pc0 := 15) (pc' := 22) rfl (hb hby at_15) rfl ((if0 _ _).trans (teq hc6).1) (by decide) (by decide) ?_
      show Steps p.tables e below (s₁.setTop (mkF m 22 #[.val (.int p0_0), .val (.int p0_1), .val (.int (bI (¬ ((p0_1 &&& (1 : Int32)) = (0 : Int32))))), .unset, .unset, .unset, .unset, .unset, .unset, .unset, .unset] [])) _
      refine XS.iconst X0.here hx rfl (hb hby at_22) ?_
      have q9 : (bI (¬ ((p0_1 &&& (2 : Int32)) = (0 : Int32)))) = (0 : Int32) := (bI_f (fun q => q hc6))
      exact castTop (g := (mkF m 23 #[.val (.int p0_0), .val (.int p0_1), .val (.int (bI (¬ ((p0_1 &&& (1 : Int32)) = (0 : Int32))))), .unset, .unset, .unset, .unset, .unset, .unset, .unset, .unset] [(.int (0 : Int32))])) (g' := (mkF m 23 #[.val (.int p0_0), .val (.int p0_1), .val (.int (bI (¬ ((p0_1 &&& (1 : Int32)) = (0 : Int32))))), .unset, .unset, .unset, .unset, .unset, .unset, .unset, .unset] [(.int (bI (¬ ((p0_1 &&& (2 : Int32)) = (0 : Int32)))))])) (by simp only [q9]) k
    · show Steps p.tables e below (s₁.setTop (mkF m 15 #[.val (.int p0_0), .val (.int p0_1), .val (.int (bI (¬ ((p0_1 &&& (1 : Int32)) = (0 : Int32))))), .unset, .unset, .unset, .unset, .unset, .unset, .unset, .unset] [(.int (p0_1 &&& (2 : Int32)))])) _
      refine XS.ifNo X0.here hx rfl (hb hby at_15) rfl ((if0 _ _).trans (feq hc6).1) ?_
      show Steps p.tables e below (s₁.setTop (mkF m 18 #[.val (.int p0_0), .val (.int p0_1), .val (.int (bI (¬ ((p0_1 &&& (1 : Int32)) = (0 : Int32))))), .unset, .unset, .unset, .unset, .unset, .unset, .unset, .unset] [])) _
      refine XS.iconst X0.here hx rfl (hb hby at_18) ?_
      show Steps p.tables e below (s₁.setTop (mkF m 19 #[.val (.int p0_0), .val (.int p0_1), .val (.int (bI (¬ ((p0_1 &&& (1 : Int32)) = (0 : Int32))))), .unset, .unset, .unset, .unset, .unset, .unset, .unset, .unset] [(.int (1 : Int32))])) _
      refine XS.goto X0.here hx rfl (pc0 := 19) (pc' := 23) rfl (hb hby at_19) (by decide) (by decide) ?_
      have q10 : (bI (¬ ((p0_1 &&& (2 : Int32)) = (0 : Int32)))) = (1 : Int32) := (bI_t hc6)
      exact castTop (g := (mkF m 23 #[.val (.int p0_0), .val (.int p0_1), .val (.int (bI (¬ ((p0_1 &&& (1 : Int32)) = (0 : Int32))))), .unset, .unset, .unset, .unset, .unset, .unset, .unset, .unset] [(.int (1 : Int32))])) (g' := (mkF m 23 #[.val (.int p0_0), .val (.int p0_1), .val (.int (bI (¬ ((p0_1 &&& (1 : Int32)) = (0 : Int32))))), .unset, .unset, .unset, .unset, .unset, .unset, .unset, .unset] [(.int (bI (¬ ((p0_1 &&& (2 : Int32)) = (0 : Int32)))))])) (by simp only [q10]) k)
  have pre12 : ∀ t, Steps p.tables e below (s₁.setTop (mkF m 27 #[.val (.int p0_0), .val (.int p0_1), .val (.int (bI (¬ ((p0_1 &&& (1 : Int32)) = (0 : Int32))))), .val (.int (bI (¬ ((p0_1 &&& (2 : Int32)) = (0 : Int32))))), .unset, .unset, .unset, .unset, .unset, .unset, .unset] [(.int (p0_1 &&& (4 : Int32)))])) t → Steps p.tables e below (s₁.setTop (entryFrame m #[(.int p0_0), (.int p0_1)] maxLocals)) t := fun t k => pre8 t (by
    show Steps p.tables e below (s₁.setTop (mkF m 23 #[.val (.int p0_0), .val (.int p0_1), .val (.int (bI (¬ ((p0_1 &&& (1 : Int32)) = (0 : Int32))))), .unset, .unset, .unset, .unset, .unset, .unset, .unset, .unset] [(.int (bI (¬ ((p0_1 &&& (2 : Int32)) = (0 : Int32)))))])) _
    refine XS.istoreN X0.here hx rfl (hb hby at_23) rfl (l' := #[.val (.int p0_0), .val (.int p0_1), .val (.int (bI (¬ ((p0_1 &&& (1 : Int32)) = (0 : Int32))))), .val (.int (bI (¬ ((p0_1 &&& (2 : Int32)) = (0 : Int32))))), .unset, .unset, .unset, .unset, .unset, .unset, .unset]) rfl ?_
    show Steps p.tables e below (s₁.setTop (mkF m 24 #[.val (.int p0_0), .val (.int p0_1), .val (.int (bI (¬ ((p0_1 &&& (1 : Int32)) = (0 : Int32))))), .val (.int (bI (¬ ((p0_1 &&& (2 : Int32)) = (0 : Int32))))), .unset, .unset, .unset, .unset, .unset, .unset, .unset] [])) _
    refine XS.iloadN X0.here hx rfl (hb hby at_24) rfl ?_
    show Steps p.tables e below (s₁.setTop (mkF m 25 #[.val (.int p0_0), .val (.int p0_1), .val (.int (bI (¬ ((p0_1 &&& (1 : Int32)) = (0 : Int32))))), .val (.int (bI (¬ ((p0_1 &&& (2 : Int32)) = (0 : Int32))))), .unset, .unset, .unset, .unset, .unset, .unset, .unset] [(.int p0_1)])) _
    refine XS.iconst X0.here hx rfl (hb hby at_25) ?_
    show Steps p.tables e below (s₁.setTop (mkF m 26 #[.val (.int p0_0), .val (.int p0_1), .val (.int (bI (¬ ((p0_1 &&& (1 : Int32)) = (0 : Int32))))), .val (.int (bI (¬ ((p0_1 &&& (2 : Int32)) = (0 : Int32))))), .unset, .unset, .unset, .unset, .unset, .unset, .unset] [(.int (4 : Int32)), (.int p0_1)])) _
    refine XS.iand X0.here hx rfl (hb hby at_26) rfl ?_
    exact k)
  have pre13 : ∀ t, Steps p.tables e below (s₁.setTop (mkF m 35 #[.val (.int p0_0), .val (.int p0_1), .val (.int (bI (¬ ((p0_1 &&& (1 : Int32)) = (0 : Int32))))), .val (.int (bI (¬ ((p0_1 &&& (2 : Int32)) = (0 : Int32))))), .unset, .unset, .unset, .unset, .unset, .unset, .unset] [(.int (bI (¬ ((p0_1 &&& (4 : Int32)) = (0 : Int32)))))])) t → Steps p.tables e below (s₁.setTop (entryFrame m #[(.int p0_0), (.int p0_1)] maxLocals)) t := fun t k => pre12 t (by
    by_cases hc11 : (p0_1 &&& (4 : Int32)) = (0 : Int32)
    · show Steps p.tables e below (s₁.setTop (mkF m 27 #[.val (.int p0_0), .val (.int p0_1), .val (.int (bI (¬ ((p0_1 &&& (1 : Int32)) = (0 : Int32))))), .val (.int (bI (¬ ((p0_1 &&& (2 : Int32)) = (0 : Int32))))), .unset, .unset, .unset, .unset, .unset, .unset, .unset] [(.int (p0_1 &&& (4 : Int32)))])) _
      refine XS.ifYes X0.here hx rfl (pc0 := 27) (pc' := 34) rfl (hb hby at_27) rfl ((if0 _ _).trans (teq hc11).1) (by decide) (by decide) ?_
      show Steps p.tables e below (s₁.setTop (mkF m 34 #[.val (.int p0_0), .val (.int p0_1), .val (.int (bI (¬ ((p0_1 &&& (1 : Int32)) = (0 : Int32))))), .val (.int (bI (¬ ((p0_1 &&& (2 : Int32)) = (0 : Int32))))), .unset, .unset, .unset, .unset, .unset, .unset, .unset] [])) _
      refine XS.iconst X0.here hx rfl (hb hby at_34) ?_
      have q14 : (bI (¬ ((p0_1 &&& (4 : Int32)) = (0 : Int32)))) = (0 : Int32) := (bI_f (fun q => q hc11))
      exact castTop (g := (mkF m 35 #[.val (.int p0_0), .val (.int p0_1), .val (.int (bI (¬ ((p0_1 &&& (1 : Int32)) = (0 : Int32))))), .val (.int (bI (¬ ((p0_1 &&& (2 : Int32)) = (0 : Int32))))), .unset, .unset, .unset, .unset, .unset, .unset, .unset] [(.int (0 : Int32))])) (g' := (mkF m 35 #[.val (.int p0_0), .val (.int p0_1), .val (.int (bI (¬ ((p0_1 &&& (1 : Int32)) = (0 : Int32))))), .val (.int (bI (¬ ((p0_1 &&& (2 : Int32)) = (0 : Int32))))), .unset, .unset, .unset, .unset, .unset, .unset, .unset] [(.int (bI (¬ ((p0_1 &&& (4 : Int32)) = (0 : Int32)))))])) (by simp only [q14]) k
    · show Steps p.tables e below (s₁.setTop (mkF m 27 #[.val (.int p0_0), .val (.int p0_1), .val (.int (bI (¬ ((p0_1 &&& (1 : Int32)) = (0 : Int32))))), .val (.int (bI (¬ ((p0_1 &&& (2 : Int32)) = (0 : Int32))))), .unset, .unset, .unset, .unset, .unset, .unset, .unset] [(.int (p0_1 &&& (4 : Int32)))])) _
      refine XS.ifNo X0.here hx rfl (hb hby at_27) rfl ((if0 _ _).trans (feq hc11).1) ?_
      show Steps p.tables e below (s₁.setTop (mkF m 30 #[.val (.int p0_0), .val (.int p0_1), .val (.int (bI (¬ ((p0_1 &&& (1 : Int32)) = (0 : Int32))))), .val (.int (bI (¬ ((p0_1 &&& (2 : Int32)) = (0 : Int32))))), .unset, .unset, .unset, .unset, .unset, .unset, .unset] [])) _
      refine XS.iconst X0.here hx rfl (hb hby at_30) ?_
      show Steps p.tables e below (s₁.setTop (mkF m 31 #[.val (.int p0_0), .val (.int p0_1), .val (.int (bI (¬ ((p0_1 &&& (1 : Int32)) = (0 : Int32))))), .val (.int (bI (¬ ((p0_1 &&& (2 : Int32)) = (0 : Int32))))), .unset, .unset, .unset, .unset, .unset, .unset, .unset] [(.int (1 : Int32))])) _
      refine XS.goto X0.here hx rfl (pc0 := 31) (pc' := 35) rfl (hb hby at_31) (by decide) (by decide) ?_
      have q15 : (bI (¬ ((p0_1 &&& (4 : Int32)) = (0 : Int32)))) = (1 : Int32) := (bI_t hc11)
      exact castTop (g := (mkF m 35 #[.val (.int p0_0), .val (.int p0_1), .val (.int (bI (¬ ((p0_1 &&& (1 : Int32)) = (0 : Int32))))), .val (.int (bI (¬ ((p0_1 &&& (2 : Int32)) = (0 : Int32))))), .unset, .unset, .unset, .unset, .unset, .unset, .unset] [(.int (1 : Int32))])) (g' := (mkF m 35 #[.val (.int p0_0), .val (.int p0_1), .val (.int (bI (¬ ((p0_1 &&& (1 : Int32)) = (0 : Int32))))), .val (.int (bI (¬ ((p0_1 &&& (2 : Int32)) = (0 : Int32))))), .unset, .unset, .unset, .unset, .unset, .unset, .unset] [(.int (bI (¬ ((p0_1 &&& (4 : Int32)) = (0 : Int32)))))])) (by simp only [q15]) k)
  obtain ⟨T16, h16, X16, e16, E16, A16, D16, -, st16⟩ := newO X0 hx hZ hown (hW 0 _ rfl) (hW 1 _ rfl) (hW 2 _ rfl) e0 (g := (mkF m 37 #[.val (.int p0_0), .val (.int p0_1), .val (.int (bI (¬ ((p0_1 &&& (1 : Int32)) = (0 : Int32))))), .val (.int (bI (¬ ((p0_1 &&& (2 : Int32)) = (0 : Int32))))), .val (.int (bI (¬ ((p0_1 &&& (4 : Int32)) = (0 : Int32))))), .unset, .unset, .unset, .unset, .unset, .unset] [])) rfl (hb hby at_37) (by decide) (by decide)
  obtain ⟨b16, g16⟩ : ∃ z, z = h0.size := ⟨_, rfl⟩
  rw [← g16] at A16 D16 st16
  have gz16 : n0 ≤ b16 := Nat.le_trans Z0 (Nat.le_of_eq g16.symm)
  have pre17 : ∀ t, Steps p.tables e below (T16.setTop (mkF m 40 #[.val (.int p0_0), .val (.int p0_1), .val (.int (bI (¬ ((p0_1 &&& (1 : Int32)) = (0 : Int32))))), .val (.int (bI (¬ ((p0_1 &&& (2 : Int32)) = (0 : Int32))))), .val (.int (bI (¬ ((p0_1 &&& (4 : Int32)) = (0 : Int32))))), .unset, .unset, .unset, .unset, .unset, .unset] [(.ref b16)])) t → Steps p.tables e below (s₁.setTop (entryFrame m #[(.int p0_0), (.int p0_1)] maxLocals)) t := fun t k => pre13 t (by
    show Steps p.tables e below (s₁.setTop (mkF m 35 #[.val (.int p0_0), .val (.int p0_1), .val (.int (bI (¬ ((p0_1 &&& (1 : Int32)) = (0 : Int32))))), .val (.int (bI (¬ ((p0_1 &&& (2 : Int32)) = (0 : Int32))))), .unset, .unset, .unset, .unset, .unset, .unset, .unset] [(.int (bI (¬ ((p0_1 &&& (4 : Int32)) = (0 : Int32)))))])) _
    refine XS.istore X0.here hx rfl (hb hby at_35) rfl (l' := #[.val (.int p0_0), .val (.int p0_1), .val (.int (bI (¬ ((p0_1 &&& (1 : Int32)) = (0 : Int32))))), .val (.int (bI (¬ ((p0_1 &&& (2 : Int32)) = (0 : Int32))))), .val (.int (bI (¬ ((p0_1 &&& (4 : Int32)) = (0 : Int32))))), .unset, .unset, .unset, .unset, .unset, .unset]) rfl ?_
    show Steps p.tables e below (s₁.setTop (mkF m 37 #[.val (.int p0_0), .val (.int p0_1), .val (.int (bI (¬ ((p0_1 &&& (1 : Int32)) = (0 : Int32))))), .val (.int (bI (¬ ((p0_1 &&& (2 : Int32)) = (0 : Int32))))), .val (.int (bI (¬ ((p0_1 &&& (4 : Int32)) = (0 : Int32))))), .unset, .unset, .unset, .unset, .unset, .unset] [])) _
    refine st16 _ ?_
    exact k)
  have z18 := Nat.le_trans Z0 E16.1
  have f19 : Fld Z h16 b16 "com/example/shieldwall/shieldwall/engine/MoraleState" "startStrength" "I" (.int (0 : Int32)) := D16 (Or.inr (hW 10 _ rfl)) (ty := .int) (by decide)
  have f20 : Fld Z h16 b16 "com/example/shieldwall/shieldwall/engine/MoraleState" "lost" "I" (.int (0 : Int32)) := D16 (Or.inl (hW 17 _ rfl)) (ty := .int) (by decide)
  have f21 : Fld Z h16 b16 "com/example/shieldwall/shieldwall/engine/MoraleState" "lostInARow" "I" (.int (0 : Int32)) := D16 (Or.inl (hW 19 _ rfl)) (ty := .int) (by decide)
  have f22 : Fld Z h16 b16 "com/example/shieldwall/shieldwall/engine/MoraleState" "won" "I" (.int (0 : Int32)) := D16 (Or.inl (hW 26 _ rfl)) (ty := .int) (by decide)
  have f23 : Fld Z h16 b16 "com/example/shieldwall/shieldwall/engine/MoraleState" "routs" "I" (.int (0 : Int32)) := D16 (Or.inl (hW 43 _ rfl)) (ty := .int) (by decide)
  have f24 : Fld Z h16 b16 "com/example/shieldwall/shieldwall/engine/MoraleState" "routing" "Z" (.int (0 : Int32)) := D16 (Or.inl (hW 50 _ rfl)) (ty := .boolean) (by decide)
  obtain ⟨_, _, ⟨T25, L25, k25, n25⟩, -, X25, ⟨Lc25, hQ25, l25, y25, z25⟩, st25⟩ := X16.specialBack hx (y := (⟨"com/example/shieldwall/shieldwall/engine/MoraleState", "<init>", "(I)V"⟩ : MethodName)) rfl hown (mvT hZ (hW 3 _ rfl)) (mvT hZ (hW 4 _ rfl)) (mvT hZ (hW 5 _ rfl)) (by decide) (backOf (W := 1) (rm1 l Z a0 hw [] b16 p0_0 (0 : Int32) (0 : Int32) (0 : Int32) (0 : Int32) (0 : Int32) (0 : Int32) h16 n0 z18 A16 f19 f20 f21 f22 f23 f24 gz16) hZ (hW 5 _ rfl) (hW 2 _ rfl) (by decide) (by decide)) (g := (mkF m 42 #[.val (.int p0_0), .val (.int p0_1), .val (.int (bI (¬ ((p0_1 &&& (1 : Int32)) = (0 : Int32))))), .val (.int (bI (¬ ((p0_1 &&& (2 : Int32)) = (0 : Int32))))), .val (.int (bI (¬ ((p0_1 &&& (4 : Int32)) = (0 : Int32))))), .unset, .unset, .unset, .unset, .unset, .unset] [(.int p0_0), (.ref b16), (.ref b16)])) rfl (by rw [hml]; rfl) (Steps.refl _) (a := b16) (argsL := [(.int p0_0)]) (rest := [(.ref b16)]) (lenOf pd_0 rfl) rfl (by show 2 * 0 + _ ≤ _; exact Nat.le_of_eq rfl) (hb hby at_42) (fun _ _ => ⟨rfl, e16, (by decide : 1 + 0 ≤ _), (by decide : 7 + 0 ≤ _)⟩)
  dsimp only [Pt.U, Pt.locs, Pt.cells, Pt.slots] at X25 l25 y25 z25 st25 hQ25
  subst l25 y25 z25
  obtain ⟨rfl, N25q, K25, r25_0, r25_1, r25_2, r25_3, r25_4, r25_5, r25_6⟩ := hQ25
  have N26 := Fr.app N0 N25q
  have pre27 : ∀ t, Steps p.tables e below (T25.setTop (mkF m 45 #[.val (.int p0_0), .val (.int p0_1), .val (.int (bI (¬ ((p0_1 &&& (1 : Int32)) = (0 : Int32))))), .val (.int (bI (¬ ((p0_1 &&& (2 : Int32)) = (0 : Int32))))), .val (.int (bI (¬ ((p0_1 &&& (4 : Int32)) = (0 : Int32))))), .unset, .unset, .unset, .unset, .unset, .unset] [(.ref b16)])) t → Steps p.tables e below (s₁.setTop (entryFrame m #[(.int p0_0), (.int p0_1)] maxLocals)) t := fun t k => pre17 t (by
    show Steps p.tables e below (T16.setTop (mkF m 40 #[.val (.int p0_0), .val (.int p0_1), .val (.int (bI (¬ ((p0_1 &&& (1 : Int32)) = (0 : Int32))))), .val (.int (bI (¬ ((p0_1 &&& (2 : Int32)) = (0 : Int32))))), .val (.int (bI (¬ ((p0_1 &&& (4 : Int32)) = (0 : Int32))))), .unset, .unset, .unset, .unset, .unset, .unset] [(.ref b16)])) _
    refine XS.dup X16.here hx rfl (hb hby at_40) rfl rfl ?_
    show Steps p.tables e below (T16.setTop (mkF m 41 #[.val (.int p0_0), .val (.int p0_1), .val (.int (bI (¬ ((p0_1 &&& (1 : Int32)) = (0 : Int32))))), .val (.int (bI (¬ ((p0_1 &&& (2 : Int32)) = (0 : Int32))))), .val (.int (bI (¬ ((p0_1 &&& (4 : Int32)) = (0 : Int32))))), .unset, .unset, .unset, .unset, .unset, .unset] [(.ref b16), (.ref b16)])) _
    refine XS.iloadN X16.here hx rfl (hb hby at_41) rfl ?_
    show Steps p.tables e below (T16.setTop (mkF m 42 #[.val (.int p0_0), .val (.int p0_1), .val (.int (bI (¬ ((p0_1 &&& (1 : Int32)) = (0 : Int32))))), .val (.int (bI (¬ ((p0_1 &&& (2 : Int32)) = (0 : Int32))))), .val (.int (bI (¬ ((p0_1 &&& (4 : Int32)) = (0 : Int32))))), .unset, .unset, .unset, .unset, .unset, .unset] [(.int p0_0), (.ref b16), (.ref b16)])) _
    refine st25.trans ?_
    exact k)
  have f28 := A16.keep K25
  have z29 := Nat.le_trans z18 K25.1
  by_cases hc31 : ¬ ((p0_1 &&& (1 : Int32)) = (0 : Int32))
  · obtain ⟨cq32, kq32, q32a, q32b, q32c⟩ := isOf hZ rfl r25_0
    obtain ⟨_, _, ⟨T32, L32, k32, n32⟩, -, X32, ⟨Lc32, hQ32, l32, y32, z32⟩, st32⟩ := X25.virtualBack hx (y := (⟨"com/example/shieldwall/shieldwall/engine/MoraleState", "lost", "()V"⟩ : MethodName)) (z := (⟨"com/example/shieldwall/shieldwall/engine/MoraleState", "lost", "()V"⟩ : MethodName)) hown (mvT hZ (hW 11 _ rfl)) (mvT hZ (hW 12 _ rfl)) (notFace_of_selects (args := #[]) (mvT hZ (hW 14 _ rfl))) (mvT hZ (hW 14 _ rfl)) (mvT hZ (hW 13 _ rfl)) (by decide) (backOf (W := 0) (rm3 l Z a0 hw [] b16 (0 : Int32) p0_0 (0 : Int32) (0 : Int32) (0 : Int32) (0 : Int32) T25.heap n0 z29 r25_1 r25_0 r25_6 r25_2 r25_3 r25_4 r25_5 gz16) hZ (hW 15 _ rfl) (hW 2 _ rfl) (by decide) (by decide)) q32a q32c (g := (mkF m 53 #[.val (.int p0_0), .val (.int p0_1), .val (.int (bI (¬ ((p0_1 &&& (1 : Int32)) = (0 : Int32))))), .val (.int (bI (¬ ((p0_1 &&& (2 : Int32)) = (0 : Int32))))), .val (.int (bI (¬ ((p0_1 &&& (4 : Int32)) = (0 : Int32))))), .val (.ref b16), .unset, .unset, .unset, .unset, .unset] [(.ref b16)])) rfl (by rw [hml]; rfl) (Steps.refl _) (argsL := []) (rest := []) (lenOf pd_1 rfl) rfl (by show 2 * 0 + _ ≤ _; exact Nat.le_of_eq rfl) (hb hby at_53) (fun _ _ => ⟨rfl, rfl, (by decide : 1 + 0 ≤ _), (by decide : 7 + 0 ≤ _)⟩)
    dsimp only [Pt.U, Pt.locs, Pt.cells, Pt.slots] at X32 l32 y32 z32 st32 hQ32
    subst l32 y32 z32
    obtain ⟨rfl, N32q, K32, r32_0, r32_1, r32_2, r32_3, r32_4, r32_5, r32_6⟩ := hQ32
    have N33 := Fr.app N26 N32q
    have pre34 : ∀ t, Steps p.tables e below (T32.setTop (mkF m 56 #[.val (.int p0_0), .val (.int p0_1), .val (.int (bI (¬ ((p0_1 &&& (1 : Int32)) = (0 : Int32))))), .val (.int (bI (¬ ((p0_1 &&& (2 : Int32)) = (0 : Int32))))), .val (.int (bI (¬ ((p0_1 &&& (4 : Int32)) = (0 : Int32))))), .val (.ref b16), .unset, .unset, .unset, .unset, .unset] [])) t → Steps p.tables e below (s₁.setTop (entryFrame m #[(.int p0_0), (.int p0_1)] maxLocals)) t := fun t k => pre27 t (by
      show Steps p.tables e below (T25.setTop (mkF m 45 #[.val (.int p0_0), .val (.int p0_1), .val (.int (bI (¬ ((p0_1 &&& (1 : Int32)) = (0 : Int32))))), .val (.int (bI (¬ ((p0_1 &&& (2 : Int32)) = (0 : Int32))))), .val (.int (bI (¬ ((p0_1 &&& (4 : Int32)) = (0 : Int32))))), .unset, .unset, .unset, .unset, .unset, .unset] [(.ref b16)])) _
      refine XS.astore X25.here hx rfl (hb hby at_45) rfl rfl (l' := #[.val (.int p0_0), .val (.int p0_1), .val (.int (bI (¬ ((p0_1 &&& (1 : Int32)) = (0 : Int32))))), .val (.int (bI (¬ ((p0_1 &&& (2 : Int32)) = (0 : Int32))))), .val (.int (bI (¬ ((p0_1 &&& (4 : Int32)) = (0 : Int32))))), .val (.ref b16), .unset, .unset, .unset, .unset, .unset]) rfl ?_
      show Steps p.tables e below (T25.setTop (mkF m 47 #[.val (.int p0_0), .val (.int p0_1), .val (.int (bI (¬ ((p0_1 &&& (1 : Int32)) = (0 : Int32))))), .val (.int (bI (¬ ((p0_1 &&& (2 : Int32)) = (0 : Int32))))), .val (.int (bI (¬ ((p0_1 &&& (4 : Int32)) = (0 : Int32))))), .val (.ref b16), .unset, .unset, .unset, .unset, .unset] [])) _
      refine XS.iloadN X25.here hx rfl (hb hby at_47) rfl ?_
      show Steps p.tables e below (T25.setTop (mkF m 48 #[.val (.int p0_0), .val (.int p0_1), .val (.int (bI (¬ ((p0_1 &&& (1 : Int32)) = (0 : Int32))))), .val (.int (bI (¬ ((p0_1 &&& (2 : Int32)) = (0 : Int32))))), .val (.int (bI (¬ ((p0_1 &&& (4 : Int32)) = (0 : Int32))))), .val (.ref b16), .unset, .unset, .unset, .unset, .unset] [(.int (bI (¬ ((p0_1 &&& (1 : Int32)) = (0 : Int32)))))])) _
      refine XS.ifNo X25.here hx rfl (hb hby at_48) rfl ((if0 _ _).trans (feq (bI_n hc31)).1) ?_
      show Steps p.tables e below (T25.setTop (mkF m 51 #[.val (.int p0_0), .val (.int p0_1), .val (.int (bI (¬ ((p0_1 &&& (1 : Int32)) = (0 : Int32))))), .val (.int (bI (¬ ((p0_1 &&& (2 : Int32)) = (0 : Int32))))), .val (.int (bI (¬ ((p0_1 &&& (4 : Int32)) = (0 : Int32))))), .val (.ref b16), .unset, .unset, .unset, .unset, .unset] [])) _
      refine XS.aload X25.here hx rfl (hb hby at_51) rfl rfl ?_
      show Steps p.tables e below (T25.setTop (mkF m 53 #[.val (.int p0_0), .val (.int p0_1), .val (.int (bI (¬ ((p0_1 &&& (1 : Int32)) = (0 : Int32))))), .val (.int (bI (¬ ((p0_1 &&& (2 : Int32)) = (0 : Int32))))), .val (.int (bI (¬ ((p0_1 &&& (4 : Int32)) = (0 : Int32))))), .val (.ref b16), .unset, .unset, .unset, .unset, .unset] [(.ref b16)])) _
      refine st32.trans ?_
      exact k)
    have f35 := r25_0.keep K32
    have z36 := Nat.le_trans z29 K32.1
    by_cases hc38 : ¬ ((p0_1 &&& (2 : Int32)) = (0 : Int32))
    · obtain ⟨cq39, kq39, q39a, q39b, q39c⟩ := isOf hZ rfl r32_0
      obtain ⟨_, _, ⟨T39, L39, k39, n39⟩, -, X39, ⟨Lc39, hQ39, l39, y39, z39⟩, st39⟩ := X32.virtualBack hx (y := (⟨"com/example/shieldwall/shieldwall/engine/MoraleState", "won", "()V"⟩ : MethodName)) (z := (⟨"com/example/shieldwall/shieldwall/engine/MoraleState", "won", "()V"⟩ : MethodName)) hown (mvT hZ (hW 20 _ rfl)) (mvT hZ (hW 21 _ rfl)) (notFace_of_selects (args := #[]) (mvT hZ (hW 23 _ rfl))) (mvT hZ (hW 23 _ rfl)) (mvT hZ (hW 22 _ rfl)) (by decide) (backOf (W := 0) (rm4 l Z a0 hw [] b16 (0 : Int32) p0_0 ((0 : Int32) + (1 : Int32)) ((0 : Int32) + (1 : Int32)) (0 : Int32) (0 : Int32) T32.heap n0 z36 r32_2 r32_0 r32_1 r32_5 r32_6 r32_3 r32_4 gz16) hZ (hW 24 _ rfl) (hW 2 _ rfl) (by decide) (by decide)) q39a q39c (g := (mkF m 62 #[.val (.int p0_0), .val (.int p0_1), .val (.int (bI (¬ ((p0_1 &&& (1 : Int32)) = (0 : Int32))))), .val (.int (bI (¬ ((p0_1 &&& (2 : Int32)) = (0 : Int32))))), .val (.int (bI (¬ ((p0_1 &&& (4 : Int32)) = (0 : Int32))))), .val (.ref b16), .unset, .unset, .unset, .unset, .unset] [(.ref b16)])) rfl (by rw [hml]; rfl) (Steps.refl _) (argsL := []) (rest := []) (lenOf pd_1 rfl) rfl (by show 2 * 0 + _ ≤ _; exact Nat.le_of_eq rfl) (hb hby at_62) (fun _ _ => ⟨rfl, rfl, (by decide : 1 + 0 ≤ _), (by decide : 7 + 0 ≤ _)⟩)
      dsimp only [Pt.U, Pt.locs, Pt.cells, Pt.slots] at X39 l39 y39 z39 st39 hQ39
      subst l39 y39 z39
      obtain ⟨rfl, N39q, K39, r39_0, r39_1, r39_2, r39_3, r39_4, r39_5, r39_6⟩ := hQ39
      have N40 := Fr.app N33 N39q
      have pre41 : ∀ t, Steps p.tables e below (T39.setTop (mkF m 65 #[.val (.int p0_0), .val (.int p0_1), .val (.int (bI (¬ ((p0_1 &&& (1 : Int32)) = (0 : Int32))))), .val (.int (bI (¬ ((p0_1 &&& (2 : Int32)) = (0 : Int32))))), .val (.int (bI (¬ ((p0_1 &&& (4 : Int32)) = (0 : Int32))))), .val (.ref b16), .unset, .unset, .unset, .unset, .unset] [])) t → Steps p.tables e below (s₁.setTop (entryFrame m #[(.int p0_0), (.int p0_1)] maxLocals)) t := fun t k => pre34 t (by
        show Steps p.tables e below (T32.setTop (mkF m 56 #[.val (.int p0_0), .val (.int p0_1), .val (.int (bI (¬ ((p0_1 &&& (1 : Int32)) = (0 : Int32))))), .val (.int (bI (¬ ((p0_1 &&& (2 : Int32)) = (0 : Int32))))), .val (.int (bI (¬ ((p0_1 &&& (4 : Int32)) = (0 : Int32))))), .val (.ref b16), .unset, .unset, .unset, .unset, .unset] [])) _
        refine XS.iloadN X32.here hx rfl (hb hby at_56) rfl ?_
        show Steps p.tables e below (T32.setTop (mkF m 57 #[.val (.int p0_0), .val (.int p0_1), .val (.int (bI (¬ ((p0_1 &&& (1 : Int32)) = (0 : Int32))))), .val (.int (bI (¬ ((p0_1 &&& (2 : Int32)) = (0 : Int32))))), .val (.int (bI (¬ ((p0_1 &&& (4 : Int32)) = (0 : Int32))))), .val (.ref b16), .unset, .unset, .unset, .unset, .unset] [(.int (bI (¬ ((p0_1 &&& (2 : Int32)) = (0 : Int32)))))])) _
        refine XS.ifNo X32.here hx rfl (hb hby at_57) rfl ((if0 _ _).trans (feq (bI_n hc38)).1) ?_
        show Steps p.tables e below (T32.setTop (mkF m 60 #[.val (.int p0_0), .val (.int p0_1), .val (.int (bI (¬ ((p0_1 &&& (1 : Int32)) = (0 : Int32))))), .val (.int (bI (¬ ((p0_1 &&& (2 : Int32)) = (0 : Int32))))), .val (.int (bI (¬ ((p0_1 &&& (4 : Int32)) = (0 : Int32))))), .val (.ref b16), .unset, .unset, .unset, .unset, .unset] [])) _
        refine XS.aload X32.here hx rfl (hb hby at_60) rfl rfl ?_
        show Steps p.tables e below (T32.setTop (mkF m 62 #[.val (.int p0_0), .val (.int p0_1), .val (.int (bI (¬ ((p0_1 &&& (1 : Int32)) = (0 : Int32))))), .val (.int (bI (¬ ((p0_1 &&& (2 : Int32)) = (0 : Int32))))), .val (.int (bI (¬ ((p0_1 &&& (4 : Int32)) = (0 : Int32))))), .val (.ref b16), .unset, .unset, .unset, .unset, .unset] [(.ref b16)])) _
        refine st39.trans ?_
        exact k)
      have f42 := r32_0.keep K39
      have z43 := Nat.le_trans z36 K39.1
      by_cases hc45 : ¬ ((p0_1 &&& (4 : Int32)) = (0 : Int32))
      · obtain ⟨cq46, kq46, q46a, q46b, q46c⟩ := isOf hZ rfl r39_0
        obtain ⟨_, _, ⟨T46, L46, k46, n46⟩, -, X46, ⟨Lc46, hQ46, l46, y46, z46⟩, st46⟩ := X39.virtualBack hx (y := (⟨"com/example/shieldwall/shieldwall/engine/MoraleState", "routed", "()V"⟩ : MethodName)) (z := (⟨"com/example/shieldwall/shieldwall/engine/MoraleState", "routed", "()V"⟩ : MethodName)) hown (mvT hZ (hW 56 _ rfl)) (mvT hZ (hW 57 _ rfl)) (notFace_of_selects (args := #[]) (mvT hZ (hW 59 _ rfl))) (mvT hZ (hW 59 _ rfl)) (mvT hZ (hW 58 _ rfl)) (by decide) (backOf (W := 0) (rm10 l Z a0 hw [] b16 (0 : Int32) p0_0 ((0 : Int32) + (1 : Int32)) (0 : Int32) ((0 : Int32) + (1 : Int32)) (0 : Int32) T39.heap n0 z43 r39_3 r39_0 r39_1 r39_2 r39_6 r39_5 r39_4 gz16) hZ (hW 60 _ rfl) (hW 2 _ rfl) (by decide) (by decide)) q46a q46c (g := (mkF m 72 #[.val (.int p0_0), .val (.int p0_1), .val (.int (bI (¬ ((p0_1 &&& (1 : Int32)) = (0 : Int32))))), .val (.int (bI (¬ ((p0_1 &&& (2 : Int32)) = (0 : Int32))))), .val (.int (bI (¬ ((p0_1 &&& (4 : Int32)) = (0 : Int32))))), .val (.ref b16), .unset, .unset, .unset, .unset, .unset] [(.ref b16)])) rfl (by rw [hml]; rfl) (Steps.refl _) (argsL := []) (rest := []) (lenOf pd_1 rfl) rfl (by show 2 * 0 + _ ≤ _; exact Nat.le_of_eq rfl) (hb hby at_72) (fun _ _ => ⟨rfl, rfl, (by decide : 1 + 0 ≤ _), (by decide : 7 + 0 ≤ _)⟩)
        dsimp only [Pt.U, Pt.locs, Pt.cells, Pt.slots] at X46 l46 y46 z46 st46 hQ46
        subst l46 y46 z46
        obtain ⟨rfl, N46q, K46, r46_0, r46_1, r46_2, r46_3, r46_4, r46_5, r46_6⟩ := hQ46
        have N47 := Fr.app N40 N46q
        have pre48 : ∀ t, Steps p.tables e below (T46.setTop (mkF m 75 #[.val (.int p0_0), .val (.int p0_1), .val (.int (bI (¬ ((p0_1 &&& (1 : Int32)) = (0 : Int32))))), .val (.int (bI (¬ ((p0_1 &&& (2 : Int32)) = (0 : Int32))))), .val (.int (bI (¬ ((p0_1 &&& (4 : Int32)) = (0 : Int32))))), .val (.ref b16), .unset, .unset, .unset, .unset, .unset] [])) t → Steps p.tables e below (s₁.setTop (entryFrame m #[(.int p0_0), (.int p0_1)] maxLocals)) t := fun t k => pre41 t (by
          show Steps p.tables e below (T39.setTop (mkF m 65 #[.val (.int p0_0), .val (.int p0_1), .val (.int (bI (¬ ((p0_1 &&& (1 : Int32)) = (0 : Int32))))), .val (.int (bI (¬ ((p0_1 &&& (2 : Int32)) = (0 : Int32))))), .val (.int (bI (¬ ((p0_1 &&& (4 : Int32)) = (0 : Int32))))), .val (.ref b16), .unset, .unset, .unset, .unset, .unset] [])) _
          refine XS.iload X39.here hx rfl (hb hby at_65) rfl ?_
          show Steps p.tables e below (T39.setTop (mkF m 67 #[.val (.int p0_0), .val (.int p0_1), .val (.int (bI (¬ ((p0_1 &&& (1 : Int32)) = (0 : Int32))))), .val (.int (bI (¬ ((p0_1 &&& (2 : Int32)) = (0 : Int32))))), .val (.int (bI (¬ ((p0_1 &&& (4 : Int32)) = (0 : Int32))))), .val (.ref b16), .unset, .unset, .unset, .unset, .unset] [(.int (bI (¬ ((p0_1 &&& (4 : Int32)) = (0 : Int32)))))])) _
          refine XS.ifNo X39.here hx rfl (hb hby at_67) rfl ((if0 _ _).trans (feq (bI_n hc45)).1) ?_
          show Steps p.tables e below (T39.setTop (mkF m 70 #[.val (.int p0_0), .val (.int p0_1), .val (.int (bI (¬ ((p0_1 &&& (1 : Int32)) = (0 : Int32))))), .val (.int (bI (¬ ((p0_1 &&& (2 : Int32)) = (0 : Int32))))), .val (.int (bI (¬ ((p0_1 &&& (4 : Int32)) = (0 : Int32))))), .val (.ref b16), .unset, .unset, .unset, .unset, .unset] [])) _
          refine XS.aload X39.here hx rfl (hb hby at_70) rfl rfl ?_
          show Steps p.tables e below (T39.setTop (mkF m 72 #[.val (.int p0_0), .val (.int p0_1), .val (.int (bI (¬ ((p0_1 &&& (1 : Int32)) = (0 : Int32))))), .val (.int (bI (¬ ((p0_1 &&& (2 : Int32)) = (0 : Int32))))), .val (.int (bI (¬ ((p0_1 &&& (4 : Int32)) = (0 : Int32))))), .val (.ref b16), .unset, .unset, .unset, .unset, .unset] [(.ref b16)])) _
          refine st46.trans ?_
          exact k)
        have f49 := r39_0.keep K46
        have z50 := Nat.le_trans z43 K46.1
        obtain ⟨cq51, kq51, q51a, q51b, q51c⟩ := isOf hZ rfl r46_0
        obtain ⟨_, _, ⟨T51, L51, k51, n51⟩, -, X51, ⟨Lc51, hQ51, l51, y51, z51⟩, st51⟩ := X46.virtualBack hx (y := (⟨"com/example/shieldwall/shieldwall/engine/MoraleState", "lost", "()V"⟩ : MethodName)) (z := (⟨"com/example/shieldwall/shieldwall/engine/MoraleState", "lost", "()V"⟩ : MethodName)) hown (mvT hZ (hW 11 _ rfl)) (mvT hZ (hW 12 _ rfl)) (notFace_of_selects (args := #[]) (mvT hZ (hW 14 _ rfl))) (mvT hZ (hW 14 _ rfl)) (mvT hZ (hW 13 _ rfl)) (by decide) (backOf (W := 0) (rm3 l Z a0 hw [] b16 ((0 : Int32) + (1 : Int32)) p0_0 (0 : Int32) ((0 : Int32) + (1 : Int32)) ((0 : Int32) - (1 : Int32)) (1 : Int32) T46.heap n0 z50 r46_2 r46_0 r46_1 r46_3 r46_4 r46_5 r46_6 gz16) hZ (hW 15 _ rfl) (hW 2 _ rfl) (by decide) (by decide)) q51a q51c (g := (mkF m 133 #[.val (.int p0_0), .val (.int p0_1), .val (.int (bI (¬ ((p0_1 &&& (1 : Int32)) = (0 : Int32))))), .val (.int (bI (¬ ((p0_1 &&& (2 : Int32)) = (0 : Int32))))), .val (.int (bI (¬ ((p0_1 &&& (4 : Int32)) = (0 : Int32))))), .val (.ref b16), .val (.int (1 : Int32)), .val (.int (1 : Int32)), .val (.int ((1 : Int32) - (1 : Int32))), .val (.int (0 : Int32)), .val (.int (-1 : Int32))] [(.ref b16)])) rfl (by rw [hml]; rfl) (Steps.refl _) (argsL := []) (rest := []) (lenOf pd_1 rfl) rfl (by show 2 * 0 + _ ≤ _; exact Nat.le_of_eq rfl) (hb hby at_133) (fun _ _ => ⟨rfl, rfl, (by decide : 1 + 0 ≤ _), (by decide : 7 + 0 ≤ _)⟩)
        dsimp only [Pt.U, Pt.locs, Pt.cells, Pt.slots] at X51 l51 y51 z51 st51 hQ51
        subst l51 y51 z51
        obtain ⟨rfl, N51q, K51, r51_0, r51_1, r51_2, r51_3, r51_4, r51_5, r51_6⟩ := hQ51
        have N52 := Fr.app N47 N51q
        have pre53 : ∀ t, Steps p.tables e below (T51.setTop (mkF m 136 #[.val (.int p0_0), .val (.int p0_1), .val (.int (bI (¬ ((p0_1 &&& (1 : Int32)) = (0 : Int32))))), .val (.int (bI (¬ ((p0_1 &&& (2 : Int32)) = (0 : Int32))))), .val (.int (bI (¬ ((p0_1 &&& (4 : Int32)) = (0 : Int32))))), .val (.ref b16), .val (.int (1 : Int32)), .val (.int (1 : Int32)), .val (.int ((1 : Int32) - (1 : Int32))), .val (.int (0 : Int32)), .val (.int (-1 : Int32))] [])) t → Steps p.tables e below (s₁.setTop (entryFrame m #[(.int p0_0), (.int p0_1)] maxLocals)) t := fun t k => pre48 t (by
          show Steps p.tables e below (T46.setTop (mkF m 75 #[.val (.int p0_0), .val (.int p0_1), .val (.int (bI (¬ ((p0_1 &&& (1 : Int32)) = (0 : Int32))))), .val (.int (bI (¬ ((p0_1 &&& (2 : Int32)) = (0 : Int32))))), .val (.int (bI (¬ ((p0_1 &&& (4 : Int32)) = (0 : Int32))))), .val (.ref b16), .unset, .unset, .unset, .unset, .unset] [])) _
          refine XS.iloadN X46.here hx rfl (hb hby at_75) rfl ?_
          show Steps p.tables e below (T46.setTop (mkF m 76 #[.val (.int p0_0), .val (.int p0_1), .val (.int (bI (¬ ((p0_1 &&& (1 : Int32)) = (0 : Int32))))), .val (.int (bI (¬ ((p0_1 &&& (2 : Int32)) = (0 : Int32))))), .val (.int (bI (¬ ((p0_1 &&& (4 : Int32)) = (0 : Int32))))), .val (.ref b16), .unset, .unset, .unset, .unset, .unset] [(.int (bI (¬ ((p0_1 &&& (1 : Int32)) = (0 : Int32)))))])) _
          refine XS.ifNo X46.here hx rfl (hb hby at_76) rfl ((if0 _ _).trans (feq (bI_n hc31)).1) ?_
          show Steps p.tables e below (T46.setTop (mkF m 79 #[.val (.int p0_0), .val (.int p0_1), .val (.int (bI (¬ ((p0_1 &&& (1 : Int32)) = (0 : Int32))))), .val (.int (bI (¬ ((p0_1 &&& (2 : Int32)) = (0 : Int32))))), .val (.int (bI (¬ ((p0_1 &&& (4 : Int32)) = (0 : Int32))))), .val (.ref b16), .unset, .unset, .unset, .unset, .unset] [])) _
          refine XS.iconst X46.here hx rfl (hb hby at_79) ?_
          show Steps p.tables e below (T46.setTop (mkF m 80 #[.val (.int p0_0), .val (.int p0_1), .val (.int (bI (¬ ((p0_1 &&& (1 : Int32)) = (0 : Int32))))), .val (.int (bI (¬ ((p0_1 &&& (2 : Int32)) = (0 : Int32))))), .val (.int (bI (¬ ((p0_1 &&& (4 : Int32)) = (0 : Int32))))), .val (.ref b16), .unset, .unset, .unset, .unset, .unset] [(.int (1 : Int32))])) _
          refine XS.goto X46.here hx rfl (pc0 := 80) (pc' := 84) rfl (hb hby at_80) (by decide) (by decide) ?_
          show Steps p.tables e below (T46.setTop (mkF m 84 #[.val (.int p0_0), .val (.int p0_1), .val (.int (bI (¬ ((p0_1 &&& (1 : Int32)) = (0 : Int32))))), .val (.int (bI (¬ ((p0_1 &&& (2 : Int32)) = (0 : Int32))))), .val (.int (bI (¬ ((p0_1 &&& (4 : Int32)) = (0 : Int32))))), .val (.ref b16), .unset, .unset, .unset, .unset, .unset] [(.int (1 : Int32))])) _
          refine XS.istore X46.here hx rfl (hb hby at_84) rfl (l' := #[.val (.int p0_0), .val (.int p0_1), .val (.int (bI (¬ ((p0_1 &&& (1 : Int32)) = (0 : Int32))))), .val (.int (bI (¬ ((p0_1 &&& (2 : Int32)) = (0 : Int32))))), .val (.int (bI (¬ ((p0_1 &&& (4 : Int32)) = (0 : Int32))))), .val (.ref b16), .val (.int (1 : Int32)), .unset, .unset, .unset, .unset]) rfl ?_
          show Steps p.tables e below (T46.setTop (mkF m 86 #[.val (.int p0_0), .val (.int p0_1), .val (.int (bI (¬ ((p0_1 &&& (1 : Int32)) = (0 : Int32))))), .val (.int (bI (¬ ((p0_1 &&& (2 : Int32)) = (0 : Int32))))), .val (.int (bI (¬ ((p0_1 &&& (4 : Int32)) = (0 : Int32))))), .val (.ref b16), .val (.int (1 : Int32)), .unset, .unset, .unset, .unset] [])) _
          refine XS.iloadN X46.here hx rfl (hb hby at_86) rfl ?_
          show Steps p.tables e below (T46.setTop (mkF m 87 #[.val (.int p0_0), .val (.int p0_1), .val (.int (bI (¬ ((p0_1 &&& (1 : Int32)) = (0 : Int32))))), .val (.int (bI (¬ ((p0_1 &&& (2 : Int32)) = (0 : Int32))))), .val (.int (bI (¬ ((p0_1 &&& (4 : Int32)) = (0 : Int32))))), .val (.ref b16), .val (.int (1 : Int32)), .unset, .unset, .unset, .unset] [(.int (bI (¬ ((p0_1 &&& (2 : Int32)) = (0 : Int32)))))])) _
          refine XS.ifNo X46.here hx rfl (hb hby at_87) rfl ((if0 _ _).trans (feq (bI_n hc38)).1) ?_
          show Steps p.tables e below (T46.setTop (mkF m 90 #[.val (.int p0_0), .val (.int p0_1), .val (.int (bI (¬ ((p0_1 &&& (1 : Int32)) = (0 : Int32))))), .val (.int (bI (¬ ((p0_1 &&& (2 : Int32)) = (0 : Int32))))), .val (.int (bI (¬ ((p0_1 &&& (4 : Int32)) = (0 : Int32))))), .val (.ref b16), .val (.int (1 : Int32)), .unset, .unset, .unset, .unset] [])) _
          refine XS.iconst X46.here hx rfl (hb hby at_90) ?_
          show Steps p.tables e below (T46.setTop (mkF m 91 #[.val (.int p0_0), .val (.int p0_1), .val (.int (bI (¬ ((p0_1 &&& (1 : Int32)) = (0 : Int32))))), .val (.int (bI (¬ ((p0_1 &&& (2 : Int32)) = (0 : Int32))))), .val (.int (bI (¬ ((p0_1 &&& (4 : Int32)) = (0 : Int32))))), .val (.ref b16), .val (.int (1 : Int32)), .unset, .unset, .unset, .unset] [(.int (1 : Int32))])) _
          refine XS.goto X46.here hx rfl (pc0 := 91) (pc' := 95) rfl (hb hby at_91) (by decide) (by decide) ?_
          show Steps p.tables e below (T46.setTop (mkF m 95 #[.val (.int p0_0), .val (.int p0_1), .val (.int (bI (¬ ((p0_1 &&& (1 : Int32)) = (0 : Int32))))), .val (.int (bI (¬ ((p0_1 &&& (2 : Int32)) = (0 : Int32))))), .val (.int (bI (¬ ((p0_1 &&& (4 : Int32)) = (0 : Int32))))), .val (.ref b16), .val (.int (1 : Int32)), .unset, .unset, .unset, .unset] [(.int (1 : Int32))])) _
          refine XS.istore X46.here hx rfl (hb hby at_95) rfl (l' := #[.val (.int p0_0), .val (.int p0_1), .val (.int (bI (¬ ((p0_1 &&& (1 : Int32)) = (0 : Int32))))), .val (.int (bI (¬ ((p0_1 &&& (2 : Int32)) = (0 : Int32))))), .val (.int (bI (¬ ((p0_1 &&& (4 : Int32)) = (0 : Int32))))), .val (.ref b16), .val (.int (1 : Int32)), .val (.int (1 : Int32)), .unset, .unset, .unset]) rfl ?_
          show Steps p.tables e below (T46.setTop (mkF m 97 #[.val (.int p0_0), .val (.int p0_1), .val (.int (bI (¬ ((p0_1 &&& (1 : Int32)) = (0 : Int32))))), .val (.int (bI (¬ ((p0_1 &&& (2 : Int32)) = (0 : Int32))))), .val (.int (bI (¬ ((p0_1 &&& (4 : Int32)) = (0 : Int32))))), .val (.ref b16), .val (.int (1 : Int32)), .val (.int (1 : Int32)), .unset, .unset, .unset] [])) _
          refine XS.iload X46.here hx rfl (hb hby at_97) rfl ?_
          show Steps p.tables e below (T46.setTop (mkF m 99 #[.val (.int p0_0), .val (.int p0_1), .val (.int (bI (¬ ((p0_1 &&& (1 : Int32)) = (0 : Int32))))), .val (.int (bI (¬ ((p0_1 &&& (2 : Int32)) = (0 : Int32))))), .val (.int (bI (¬ ((p0_1 &&& (4 : Int32)) = (0 : Int32))))), .val (.ref b16), .val (.int (1 : Int32)), .val (.int (1 : Int32)), .unset, .unset, .unset] [(.int (1 : Int32))])) _
          refine XS.iload X46.here hx rfl (hb hby at_99) rfl ?_
          show Steps p.tables e below (T46.setTop (mkF m 101 #[.val (.int p0_0), .val (.int p0_1), .val (.int (bI (¬ ((p0_1 &&& (1 : Int32)) = (0 : Int32))))), .val (.int (bI (¬ ((p0_1 &&& (2 : Int32)) = (0 : Int32))))), .val (.int (bI (¬ ((p0_1 &&& (4 : Int32)) = (0 : Int32))))), .val (.ref b16), .val (.int (1 : Int32)), .val (.int (1 : Int32)), .unset, .unset, .unset] [(.int (1 : Int32)), (.int (1 : Int32))])) _
          refine XS.isub X46.here hx rfl (hb hby at_101) rfl ?_
          show Steps p.tables e below (T46.setTop (mkF m 102 #[.val (.int p0_0), .val (.int p0_1), .val (.int (bI (¬ ((p0_1 &&& (1 : Int32)) = (0 : Int32))))), .val (.int (bI (¬ ((p0_1 &&& (2 : Int32)) = (0 : Int32))))), .val (.int (bI (¬ ((p0_1 &&& (4 : Int32)) = (0 : Int32))))), .val (.ref b16), .val (.int (1 : Int32)), .val (.int (1 : Int32)), .unset, .unset, .unset] [(.int ((1 : Int32) - (1 : Int32)))])) _
          refine XS.istore X46.here hx rfl (hb hby at_102) rfl (l' := #[.val (.int p0_0), .val (.int p0_1), .val (.int (bI (¬ ((p0_1 &&& (1 : Int32)) = (0 : Int32))))), .val (.int (bI (¬ ((p0_1 &&& (2 : Int32)) = (0 : Int32))))), .val (.int (bI (¬ ((p0_1 &&& (4 : Int32)) = (0 : Int32))))), .val (.ref b16), .val (.int (1 : Int32)), .val (.int (1 : Int32)), .val (.int ((1 : Int32) - (1 : Int32))), .unset, .unset]) rfl ?_
          show Steps p.tables e below (T46.setTop (mkF m 104 #[.val (.int p0_0), .val (.int p0_1), .val (.int (bI (¬ ((p0_1 &&& (1 : Int32)) = (0 : Int32))))), .val (.int (bI (¬ ((p0_1 &&& (2 : Int32)) = (0 : Int32))))), .val (.int (bI (¬ ((p0_1 &&& (4 : Int32)) = (0 : Int32))))), .val (.ref b16), .val (.int (1 : Int32)), .val (.int (1 : Int32)), .val (.int ((1 : Int32) - (1 : Int32))), .unset, .unset] [])) _
          refine XS.iloadN X46.here hx rfl (hb hby at_104) rfl ?_
          show Steps p.tables e below (T46.setTop (mkF m 105 #[.val (.int p0_0), .val (.int p0_1), .val (.int (bI (¬ ((p0_1 &&& (1 : Int32)) = (0 : Int32))))), .val (.int (bI (¬ ((p0_1 &&& (2 : Int32)) = (0 : Int32))))), .val (.int (bI (¬ ((p0_1 &&& (4 : Int32)) = (0 : Int32))))), .val (.ref b16), .val (.int (1 : Int32)), .val (.int (1 : Int32)), .val (.int ((1 : Int32) - (1 : Int32))), .unset, .unset] [(.int (bI (¬ ((p0_1 &&& (1 : Int32)) = (0 : Int32)))))])) _
          refine XS.ifNo X46.here hx rfl (hb hby at_105) rfl ((if0 _ _).trans (feq (bI_n hc31)).1) ?_
          show Steps p.tables e below (T46.setTop (mkF m 108 #[.val (.int p0_0), .val (.int p0_1), .val (.int (bI (¬ ((p0_1 &&& (1 : Int32)) = (0 : Int32))))), .val (.int (bI (¬ ((p0_1 &&& (2 : Int32)) = (0 : Int32))))), .val (.int (bI (¬ ((p0_1 &&& (4 : Int32)) = (0 : Int32))))), .val (.ref b16), .val (.int (1 : Int32)), .val (.int (1 : Int32)), .val (.int ((1 : Int32) - (1 : Int32))), .unset, .unset] [])) _
          refine XS.iloadN X46.here hx rfl (hb hby at_108) rfl ?_
          show Steps p.tables e below (T46.setTop (mkF m 109 #[.val (.int p0_0), .val (.int p0_1), .val (.int (bI (¬ ((p0_1 &&& (1 : Int32)) = (0 : Int32))))), .val (.int (bI (¬ ((p0_1 &&& (2 : Int32)) = (0 : Int32))))), .val (.int (bI (¬ ((p0_1 &&& (4 : Int32)) = (0 : Int32))))), .val (.ref b16), .val (.int (1 : Int32)), .val (.int (1 : Int32)), .val (.int ((1 : Int32) - (1 : Int32))), .unset, .unset] [(.int (bI (¬ ((p0_1 &&& (2 : Int32)) = (0 : Int32)))))])) _
          refine XS.ifYes X46.here hx rfl (pc0 := 109) (pc' := 116) rfl (hb hby at_109) rfl ((if0 _ _).trans (feq (bI_n hc38)).2) (by decide) (by decide) ?_
          show Steps p.tables e below (T46.setTop (mkF m 116 #[.val (.int p0_0), .val (.int p0_1), .val (.int (bI (¬ ((p0_1 &&& (1 : Int32)) = (0 : Int32))))), .val (.int (bI (¬ ((p0_1 &&& (2 : Int32)) = (0 : Int32))))), .val (.int (bI (¬ ((p0_1 &&& (4 : Int32)) = (0 : Int32))))), .val (.ref b16), .val (.int (1 : Int32)), .val (.int (1 : Int32)), .val (.int ((1 : Int32) - (1 : Int32))), .unset, .unset] [])) _
          refine XS.iconst X46.here hx rfl (hb hby at_116) ?_
          show Steps p.tables e below (T46.setTop (mkF m 117 #[.val (.int p0_0), .val (.int p0_1), .val (.int (bI (¬ ((p0_1 &&& (1 : Int32)) = (0 : Int32))))), .val (.int (bI (¬ ((p0_1 &&& (2 : Int32)) = (0 : Int32))))), .val (.int (bI (¬ ((p0_1 &&& (4 : Int32)) = (0 : Int32))))), .val (.ref b16), .val (.int (1 : Int32)), .val (.int (1 : Int32)), .val (.int ((1 : Int32) - (1 : Int32))), .unset, .unset] [(.int (0 : Int32))])) _
          refine XS.istore X46.here hx rfl (hb hby at_117) rfl (l' := #[.val (.int p0_0), .val (.int p0_1), .val (.int (bI (¬ ((p0_1 &&& (1 : Int32)) = (0 : Int32))))), .val (.int (bI (¬ ((p0_1 &&& (2 : Int32)) = (0 : Int32))))), .val (.int (bI (¬ ((p0_1 &&& (4 : Int32)) = (0 : Int32))))), .val (.ref b16), .val (.int (1 : Int32)), .val (.int (1 : Int32)), .val (.int ((1 : Int32) - (1 : Int32))), .val (.int (0 : Int32)), .unset]) rfl ?_
          show Steps p.tables e below (T46.setTop (mkF m 119 #[.val (.int p0_0), .val (.int p0_1), .val (.int (bI (¬ ((p0_1 &&& (1 : Int32)) = (0 : Int32))))), .val (.int (bI (¬ ((p0_1 &&& (2 : Int32)) = (0 : Int32))))), .val (.int (bI (¬ ((p0_1 &&& (4 : Int32)) = (0 : Int32))))), .val (.ref b16), .val (.int (1 : Int32)), .val (.int (1 : Int32)), .val (.int ((1 : Int32) - (1 : Int32))), .val (.int (0 : Int32)), .unset] [])) _
          refine XS.iload X46.here hx rfl (hb hby at_119) rfl ?_
          show Steps p.tables e below (T46.setTop (mkF m 121 #[.val (.int p0_0), .val (.int p0_1), .val (.int (bI (¬ ((p0_1 &&& (1 : Int32)) = (0 : Int32))))), .val (.int (bI (¬ ((p0_1 &&& (2 : Int32)) = (0 : Int32))))), .val (.int (bI (¬ ((p0_1 &&& (4 : Int32)) = (0 : Int32))))), .val (.ref b16), .val (.int (1 : Int32)), .val (.int (1 : Int32)), .val (.int ((1 : Int32) - (1 : Int32))), .val (.int (0 : Int32)), .unset] [(.int (bI (¬ ((p0_1 &&& (4 : Int32)) = (0 : Int32)))))])) _
          refine XS.ifNo X46.here hx rfl (hb hby at_121) rfl ((if0 _ _).trans (feq (bI_n hc45)).1) ?_
          show Steps p.tables e below (T46.setTop (mkF m 124 #[.val (.int p0_0), .val (.int p0_1), .val (.int (bI (¬ ((p0_1 &&& (1 : Int32)) = (0 : Int32))))), .val (.int (bI (¬ ((p0_1 &&& (2 : Int32)) = (0 : Int32))))), .val (.int (bI (¬ ((p0_1 &&& (4 : Int32)) = (0 : Int32))))), .val (.ref b16), .val (.int (1 : Int32)), .val (.int (1 : Int32)), .val (.int ((1 : Int32) - (1 : Int32))), .val (.int (0 : Int32)), .unset] [])) _
          refine XS.iconst X46.here hx rfl (hb hby at_124) ?_
          show Steps p.tables e below (T46.setTop (mkF m 125 #[.val (.int p0_0), .val (.int p0_1), .val (.int (bI (¬ ((p0_1 &&& (1 : Int32)) = (0 : Int32))))), .val (.int (bI (¬ ((p0_1 &&& (2 : Int32)) = (0 : Int32))))), .val (.int (bI (¬ ((p0_1 &&& (4 : Int32)) = (0 : Int32))))), .val (.ref b16), .val (.int (1 : Int32)), .val (.int (1 : Int32)), .val (.int ((1 : Int32) - (1 : Int32))), .val (.int (0 : Int32)), .unset] [(.int (-1 : Int32))])) _
          refine XS.goto X46.here hx rfl (pc0 := 125) (pc' := 129) rfl (hb hby at_125) (by decide) (by decide) ?_
          show Steps p.tables e below (T46.setTop (mkF m 129 #[.val (.int p0_0), .val (.int p0_1), .val (.int (bI (¬ ((p0_1 &&& (1 : Int32)) = (0 : Int32))))), .val (.int (bI (¬ ((p0_1 &&& (2 : Int32)) = (0 : Int32))))), .val (.int (bI (¬ ((p0_1 &&& (4 : Int32)) = (0 : Int32))))), .val (.ref b16), .val (.int (1 : Int32)), .val (.int (1 : Int32)), .val (.int ((1 : Int32) - (1 : Int32))), .val (.int (0 : Int32)), .unset] [(.int (-1 : Int32))])) _
          refine XS.istore X46.here hx rfl (hb hby at_129) rfl (l' := #[.val (.int p0_0), .val (.int p0_1), .val (.int (bI (¬ ((p0_1 &&& (1 : Int32)) = (0 : Int32))))), .val (.int (bI (¬ ((p0_1 &&& (2 : Int32)) = (0 : Int32))))), .val (.int (bI (¬ ((p0_1 &&& (4 : Int32)) = (0 : Int32))))), .val (.ref b16), .val (.int (1 : Int32)), .val (.int (1 : Int32)), .val (.int ((1 : Int32) - (1 : Int32))), .val (.int (0 : Int32)), .val (.int (-1 : Int32))]) rfl ?_
          show Steps p.tables e below (T46.setTop (mkF m 131 #[.val (.int p0_0), .val (.int p0_1), .val (.int (bI (¬ ((p0_1 &&& (1 : Int32)) = (0 : Int32))))), .val (.int (bI (¬ ((p0_1 &&& (2 : Int32)) = (0 : Int32))))), .val (.int (bI (¬ ((p0_1 &&& (4 : Int32)) = (0 : Int32))))), .val (.ref b16), .val (.int (1 : Int32)), .val (.int (1 : Int32)), .val (.int ((1 : Int32) - (1 : Int32))), .val (.int (0 : Int32)), .val (.int (-1 : Int32))] [])) _
          refine XS.aload X46.here hx rfl (hb hby at_131) rfl rfl ?_
          show Steps p.tables e below (T46.setTop (mkF m 133 #[.val (.int p0_0), .val (.int p0_1), .val (.int (bI (¬ ((p0_1 &&& (1 : Int32)) = (0 : Int32))))), .val (.int (bI (¬ ((p0_1 &&& (2 : Int32)) = (0 : Int32))))), .val (.int (bI (¬ ((p0_1 &&& (4 : Int32)) = (0 : Int32))))), .val (.ref b16), .val (.int (1 : Int32)), .val (.int (1 : Int32)), .val (.int ((1 : Int32) - (1 : Int32))), .val (.int (0 : Int32)), .val (.int (-1 : Int32))] [(.ref b16)])) _
          refine st51.trans ?_
          exact k)
        have f54 := r46_0.keep K51
        have z55 := Nat.le_trans z50 K51.1
        obtain ⟨cq56, kq56, q56a, q56b, q56c⟩ := isOf hZ rfl r51_0
        obtain ⟨_, _, ⟨T56, L56, k56, n56⟩, -, X56, ⟨Lc56, hQ56, l56, y56, z56⟩, st56⟩ := X51.virtualBack hx (y := (⟨"com/example/shieldwall/shieldwall/engine/MoraleState", "battles", "()I"⟩ : MethodName)) (z := (⟨"com/example/shieldwall/shieldwall/engine/MoraleState", "battles", "()I"⟩ : MethodName)) hown (mvT hZ (hW 27 _ rfl)) (mvT hZ (hW 28 _ rfl)) (notFace_of_selects (args := #[]) (mvT hZ (hW 30 _ rfl))) (mvT hZ (hW 30 _ rfl)) (mvT hZ (hW 29 _ rfl)) (by decide) (backOf (W := 0) (rm5 l Z a0 hw [] b16 ((0 : Int32) + (1 : Int32)) (((0 : Int32) + (1 : Int32)) + (1 : Int32)) T51.heap n0 z55 r51_2 r51_5) hZ (hW 31 _ rfl) (hW 2 _ rfl) (by decide) (by decide)) q56a q56c (g := (mkF m 138 #[.val (.int p0_0), .val (.int p0_1), .val (.int (bI (¬ ((p0_1 &&& (1 : Int32)) = (0 : Int32))))), .val (.int (bI (¬ ((p0_1 &&& (2 : Int32)) = (0 : Int32))))), .val (.int (bI (¬ ((p0_1 &&& (4 : Int32)) = (0 : Int32))))), .val (.ref b16), .val (.int (1 : Int32)), .val (.int (1 : Int32)), .val (.int ((1 : Int32) - (1 : Int32))), .val (.int (0 : Int32)), .val (.int (-1 : Int32))] [(.ref b16)])) rfl (by rw [hml]; rfl) (Steps.refl _) (argsL := []) (rest := []) (lenOf pd_2 rfl) rfl (by show 2 * 0 + _ ≤ _; exact Nat.le_of_eq rfl) (hb hby at_138) (fun _ _ => ⟨rfl, rfl, (by decide : 1 + 0 ≤ _), (by decide : 7 + 0 ≤ _)⟩)
        dsimp only [Pt.U, Pt.locs, Pt.cells, Pt.slots] at X56 l56 y56 z56 st56 hQ56
        subst l56 y56 z56
        obtain ⟨rfl, N56q, e56⟩ := hQ56
        have N57 := Fr.app N52 N56q
        have pre58 : ∀ t, Steps p.tables e below (T56.setTop (mkF m 141 #[.val (.int p0_0), .val (.int p0_1), .val (.int (bI (¬ ((p0_1 &&& (1 : Int32)) = (0 : Int32))))), .val (.int (bI (¬ ((p0_1 &&& (2 : Int32)) = (0 : Int32))))), .val (.int (bI (¬ ((p0_1 &&& (4 : Int32)) = (0 : Int32))))), .val (.ref b16), .val (.int (1 : Int32)), .val (.int (1 : Int32)), .val (.int ((1 : Int32) - (1 : Int32))), .val (.int (0 : Int32)), .val (.int (-1 : Int32))] [(.int (((0 : Int32) + (1 : Int32)) - (((0 : Int32) + (1 : Int32)) + (1 : Int32))))])) t → Steps p.tables e below (s₁.setTop (entryFrame m #[(.int p0_0), (.int p0_1)] maxLocals)) t := fun t k => pre53 t (by
          show Steps p.tables e below (T51.setTop (mkF m 136 #[.val (.int p0_0), .val (.int p0_1), .val (.int (bI (¬ ((p0_1 &&& (1 : Int32)) = (0 : Int32))))), .val (.int (bI (¬ ((p0_1 &&& (2 : Int32)) = (0 : Int32))))), .val (.int (bI (¬ ((p0_1 &&& (4 : Int32)) = (0 : Int32))))), .val (.ref b16), .val (.int (1 : Int32)), .val (.int (1 : Int32)), .val (.int ((1 : Int32) - (1 : Int32))), .val (.int (0 : Int32)), .val (.int (-1 : Int32))] [])) _
          refine XS.aload X51.here hx rfl (hb hby at_136) rfl rfl ?_
          show Steps p.tables e below (T51.setTop (mkF m 138 #[.val (.int p0_0), .val (.int p0_1), .val (.int (bI (¬ ((p0_1 &&& (1 : Int32)) = (0 : Int32))))), .val (.int (bI (¬ ((p0_1 &&& (2 : Int32)) = (0 : Int32))))), .val (.int (bI (¬ ((p0_1 &&& (4 : Int32)) = (0 : Int32))))), .val (.ref b16), .val (.int (1 : Int32)), .val (.int (1 : Int32)), .val (.int ((1 : Int32) - (1 : Int32))), .val (.int (0 : Int32)), .val (.int (-1 : Int32))] [(.ref b16)])) _
          refine st56.trans ?_
          exact k)
        have hd59 : (((0 : Int32) + (1 : Int32)) - (((0 : Int32) + (1 : Int32)) + (1 : Int32))) = (((1 : Int32) - (1 : Int32)) - (1 : Int32)) := by
          decide
        obtain ⟨cq60, kq60, q60a, q60b, q60c⟩ := isOf hZ e56 r51_0
        obtain ⟨_, _, ⟨T60, L60, k60, n60⟩, -, X60, ⟨Lc60, hQ60, l60, y60, z60⟩, st60⟩ := X56.virtualBack hx (y := (⟨"com/example/shieldwall/shieldwall/engine/MoraleState", "lostInARow", "()I"⟩ : MethodName)) (z := (⟨"com/example/shieldwall/shieldwall/engine/MoraleState", "lostInARow", "()I"⟩ : MethodName)) hown (mvT hZ (hW 32 _ rfl)) (mvT hZ (hW 33 _ rfl)) (notFace_of_selects (args := #[]) (mvT hZ (hW 35 _ rfl))) (mvT hZ (hW 35 _ rfl)) (mvT hZ (hW 34 _ rfl)) (by decide) (backOf (W := 0) (rm6 l Z a0 hw [] b16 ((0 : Int32) + (1 : Int32)) T51.heap n0 z55 r51_6) hZ (hW 36 _ rfl) (hW 2 _ rfl) (by decide) (by decide)) q60a q60c (g := (mkF m 150 #[.val (.int p0_0), .val (.int p0_1), .val (.int (bI (¬ ((p0_1 &&& (1 : Int32)) = (0 : Int32))))), .val (.int (bI (¬ ((p0_1 &&& (2 : Int32)) = (0 : Int32))))), .val (.int (bI (¬ ((p0_1 &&& (4 : Int32)) = (0 : Int32))))), .val (.ref b16), .val (.int (1 : Int32)), .val (.int (1 : Int32)), .val (.int ((1 : Int32) - (1 : Int32))), .val (.int (0 : Int32)), .val (.int (-1 : Int32))] [(.ref b16)])) rfl (by rw [hml]; rfl) (Steps.refl _) (argsL := []) (rest := []) (lenOf pd_2 rfl) rfl (by show 2 * 0 + _ ≤ _; exact Nat.le_of_eq rfl) (hb hby at_150) (fun _ _ => ⟨rfl, e56, (by decide : 1 + 0 ≤ _), (by decide : 7 + 0 ≤ _)⟩)
        dsimp only [Pt.U, Pt.locs, Pt.cells, Pt.slots] at X60 l60 y60 z60 st60 hQ60
        subst l60 y60 z60
        obtain ⟨rfl, N60q, e60⟩ := hQ60
        have N61 := Fr.app N57 N60q
        have pre62 : ∀ t, Steps p.tables e below (T60.setTop (mkF m 153 #[.val (.int p0_0), .val (.int p0_1), .val (.int (bI (¬ ((p0_1 &&& (1 : Int32)) = (0 : Int32))))), .val (.int (bI (¬ ((p0_1 &&& (2 : Int32)) = (0 : Int32))))), .val (.int (bI (¬ ((p0_1 &&& (4 : Int32)) = (0 : Int32))))), .val (.ref b16), .val (.int (1 : Int32)), .val (.int (1 : Int32)), .val (.int ((1 : Int32) - (1 : Int32))), .val (.int (0 : Int32)), .val (.int (-1 : Int32))] [(.int ((0 : Int32) + (1 : Int32)))])) t → Steps p.tables e below (s₁.setTop (entryFrame m #[(.int p0_0), (.int p0_1)] maxLocals)) t := fun t k => pre58 t (by
          show Steps p.tables e below (T56.setTop (mkF m 141 #[.val (.int p0_0), .val (.int p0_1), .val (.int (bI (¬ ((p0_1 &&& (1 : Int32)) = (0 : Int32))))), .val (.int (bI (¬ ((p0_1 &&& (2 : Int32)) = (0 : Int32))))), .val (.int (bI (¬ ((p0_1 &&& (4 : Int32)) = (0 : Int32))))), .val (.ref b16), .val (.int (1 : Int32)), .val (.int (1 : Int32)), .val (.int ((1 : Int32) - (1 : Int32))), .val (.int (0 : Int32)), .val (.int (-1 : Int32))] [(.int (((0 : Int32) + (1 : Int32)) - (((0 : Int32) + (1 : Int32)) + (1 : Int32))))])) _
          refine XS.iload X56.here hx rfl (hb hby at_141) rfl ?_
          show Steps p.tables e below (T56.setTop (mkF m 143 #[.val (.int p0_0), .val (.int p0_1), .val (.int (bI (¬ ((p0_1 &&& (1 : Int32)) = (0 : Int32))))), .val (.int (bI (¬ ((p0_1 &&& (2 : Int32)) = (0 : Int32))))), .val (.int (bI (¬ ((p0_1 &&& (4 : Int32)) = (0 : Int32))))), .val (.ref b16), .val (.int (1 : Int32)), .val (.int (1 : Int32)), .val (.int ((1 : Int32) - (1 : Int32))), .val (.int (0 : Int32)), .val (.int (-1 : Int32))] [(.int ((1 : Int32) - (1 : Int32))), (.int (((0 : Int32) + (1 : Int32)) - (((0 : Int32) + (1 : Int32)) + (1 : Int32))))])) _
          refine XS.iconst X56.here hx rfl (hb hby at_143) ?_
          show Steps p.tables e below (T56.setTop (mkF m 144 #[.val (.int p0_0), .val (.int p0_1), .val (.int (bI (¬ ((p0_1 &&& (1 : Int32)) = (0 : Int32))))), .val (.int (bI (¬ ((p0_1 &&& (2 : Int32)) = (0 : Int32))))), .val (.int (bI (¬ ((p0_1 &&& (4 : Int32)) = (0 : Int32))))), .val (.ref b16), .val (.int (1 : Int32)), .val (.int (1 : Int32)), .val (.int ((1 : Int32) - (1 : Int32))), .val (.int (0 : Int32)), .val (.int (-1 : Int32))] [(.int (1 : Int32)), (.int ((1 : Int32) - (1 : Int32))), (.int (((0 : Int32) + (1 : Int32)) - (((0 : Int32) + (1 : Int32)) + (1 : Int32))))])) _
          refine XS.isub X56.here hx rfl (hb hby at_144) rfl ?_
          show Steps p.tables e below (T56.setTop (mkF m 145 #[.val (.int p0_0), .val (.int p0_1), .val (.int (bI (¬ ((p0_1 &&& (1 : Int32)) = (0 : Int32))))), .val (.int (bI (¬ ((p0_1 &&& (2 : Int32)) = (0 : Int32))))), .val (.int (bI (¬ ((p0_1 &&& (4 : Int32)) = (0 : Int32))))), .val (.ref b16), .val (.int (1 : Int32)), .val (.int (1 : Int32)), .val (.int ((1 : Int32) - (1 : Int32))), .val (.int (0 : Int32)), .val (.int (-1 : Int32))] [(.int (((1 : Int32) - (1 : Int32)) - (1 : Int32))), (.int (((0 : Int32) + (1 : Int32)) - (((0 : Int32) + (1 : Int32)) + (1 : Int32))))])) _
          refine XS.icmpNo X56.here hx rfl (hb hby at_145) rfl (teq hd59).2 ?_
          show Steps p.tables e below (T56.setTop (mkF m 148 #[.val (.int p0_0), .val (.int p0_1), .val (.int (bI (¬ ((p0_1 &&& (1 : Int32)) = (0 : Int32))))), .val (.int (bI (¬ ((p0_1 &&& (2 : Int32)) = (0 : Int32))))), .val (.int (bI (¬ ((p0_1 &&& (4 : Int32)) = (0 : Int32))))), .val (.ref b16), .val (.int (1 : Int32)), .val (.int (1 : Int32)), .val (.int ((1 : Int32) - (1 : Int32))), .val (.int (0 : Int32)), .val (.int (-1 : Int32))] [])) _
          refine XS.aload X56.here hx rfl (hb hby at_148) rfl rfl ?_
          show Steps p.tables e below (T56.setTop (mkF m 150 #[.val (.int p0_0), .val (.int p0_1), .val (.int (bI (¬ ((p0_1 &&& (1 : Int32)) = (0 : Int32))))), .val (.int (bI (¬ ((p0_1 &&& (2 : Int32)) = (0 : Int32))))), .val (.int (bI (¬ ((p0_1 &&& (4 : Int32)) = (0 : Int32))))), .val (.ref b16), .val (.int (1 : Int32)), .val (.int (1 : Int32)), .val (.int ((1 : Int32) - (1 : Int32))), .val (.int (0 : Int32)), .val (.int (-1 : Int32))] [(.ref b16)])) _
          refine st60.trans ?_
          exact k)
        obtain ⟨cq63, kq63, q63a, q63b, q63c⟩ := isOf hZ e60 r51_0
        obtain ⟨_, _, ⟨T63, L63, k63, n63⟩, -, X63, ⟨Lc63, hQ63, l63, y63, z63⟩, st63⟩ := X60.virtualBack hx (y := (⟨"com/example/shieldwall/shieldwall/engine/MoraleState", "routs", "()I"⟩ : MethodName)) (z := (⟨"com/example/shieldwall/shieldwall/engine/MoraleState", "routs", "()I"⟩ : MethodName)) hown (mvT hZ (hW 37 _ rfl)) (mvT hZ (hW 38 _ rfl)) (notFace_of_selects (args := #[]) (mvT hZ (hW 40 _ rfl))) (mvT hZ (hW 40 _ rfl)) (mvT hZ (hW 39 _ rfl)) (by decide) (backOf (W := 0) (rm7 l Z a0 hw [] b16 ((0 : Int32) - (1 : Int32)) T51.heap n0 z55 r51_3) hZ (hW 41 _ rfl) (hW 2 _ rfl) (by decide) (by decide)) q63a q63c (g := (mkF m 162 #[.val (.int p0_0), .val (.int p0_1), .val (.int (bI (¬ ((p0_1 &&& (1 : Int32)) = (0 : Int32))))), .val (.int (bI (¬ ((p0_1 &&& (2 : Int32)) = (0 : Int32))))), .val (.int (bI (¬ ((p0_1 &&& (4 : Int32)) = (0 : Int32))))), .val (.ref b16), .val (.int (1 : Int32)), .val (.int (1 : Int32)), .val (.int ((1 : Int32) - (1 : Int32))), .val (.int (0 : Int32)), .val (.int (-1 : Int32))] [(.ref b16)])) rfl (by rw [hml]; rfl) (Steps.refl _) (argsL := []) (rest := []) (lenOf pd_2 rfl) rfl (by show 2 * 0 + _ ≤ _; exact Nat.le_of_eq rfl) (hb hby at_162) (fun _ _ => ⟨rfl, e60, (by decide : 1 + 0 ≤ _), (by decide : 7 + 0 ≤ _)⟩)
        dsimp only [Pt.U, Pt.locs, Pt.cells, Pt.slots] at X63 l63 y63 z63 st63 hQ63
        subst l63 y63 z63
        obtain ⟨rfl, N63q, e63⟩ := hQ63
        have N64 := Fr.app N61 N63q
        have pre65 : ∀ t, Steps p.tables e below (T63.setTop (mkF m 165 #[.val (.int p0_0), .val (.int p0_1), .val (.int (bI (¬ ((p0_1 &&& (1 : Int32)) = (0 : Int32))))), .val (.int (bI (¬ ((p0_1 &&& (2 : Int32)) = (0 : Int32))))), .val (.int (bI (¬ ((p0_1 &&& (4 : Int32)) = (0 : Int32))))), .val (.ref b16), .val (.int (1 : Int32)), .val (.int (1 : Int32)), .val (.int ((1 : Int32) - (1 : Int32))), .val (.int (0 : Int32)), .val (.int (-1 : Int32))] [(.int ((0 : Int32) - (1 : Int32)))])) t → Steps p.tables e below (s₁.setTop (entryFrame m #[(.int p0_0), (.int p0_1)] maxLocals)) t := fun t k => pre62 t (by
          show Steps p.tables e below (T60.setTop (mkF m 153 #[.val (.int p0_0), .val (.int p0_1), .val (.int (bI (¬ ((p0_1 &&& (1 : Int32)) = (0 : Int32))))), .val (.int (bI (¬ ((p0_1 &&& (2 : Int32)) = (0 : Int32))))), .val (.int (bI (¬ ((p0_1 &&& (4 : Int32)) = (0 : Int32))))), .val (.ref b16), .val (.int (1 : Int32)), .val (.int (1 : Int32)), .val (.int ((1 : Int32) - (1 : Int32))), .val (.int (0 : Int32)), .val (.int (-1 : Int32))] [(.int ((0 : Int32) + (1 : Int32)))])) _
          refine XS.iload X60.here hx rfl (hb hby at_153) rfl ?_
          show Steps p.tables e below (T60.setTop (mkF m 155 #[.val (.int p0_0), .val (.int p0_1), .val (.int (bI (¬ ((p0_1 &&& (1 : Int32)) = (0 : Int32))))), .val (.int (bI (¬ ((p0_1 &&& (2 : Int32)) = (0 : Int32))))), .val (.int (bI (¬ ((p0_1 &&& (4 : Int32)) = (0 : Int32))))), .val (.ref b16), .val (.int (1 : Int32)), .val (.int (1 : Int32)), .val (.int ((1 : Int32) - (1 : Int32))), .val (.int (0 : Int32)), .val (.int (-1 : Int32))] [(.int (0 : Int32)), (.int ((0 : Int32) + (1 : Int32)))])) _
          refine XS.iconst X60.here hx rfl (hb hby at_155) ?_
          show Steps p.tables e below (T60.setTop (mkF m 156 #[.val (.int p0_0), .val (.int p0_1), .val (.int (bI (¬ ((p0_1 &&& (1 : Int32)) = (0 : Int32))))), .val (.int (bI (¬ ((p0_1 &&& (2 : Int32)) = (0 : Int32))))), .val (.int (bI (¬ ((p0_1 &&& (4 : Int32)) = (0 : Int32))))), .val (.ref b16), .val (.int (1 : Int32)), .val (.int (1 : Int32)), .val (.int ((1 : Int32) - (1 : Int32))), .val (.int (0 : Int32)), .val (.int (-1 : Int32))] [(.int (1 : Int32)), (.int (0 : Int32)), (.int ((0 : Int32) + (1 : Int32)))])) _
          refine XS.iadd X60.here hx rfl (hb hby at_156) rfl ?_
          show Steps p.tables e below (T60.setTop (mkF m 157 #[.val (.int p0_0), .val (.int p0_1), .val (.int (bI (¬ ((p0_1 &&& (1 : Int32)) = (0 : Int32))))), .val (.int (bI (¬ ((p0_1 &&& (2 : Int32)) = (0 : Int32))))), .val (.int (bI (¬ ((p0_1 &&& (4 : Int32)) = (0 : Int32))))), .val (.ref b16), .val (.int (1 : Int32)), .val (.int (1 : Int32)), .val (.int ((1 : Int32) - (1 : Int32))), .val (.int (0 : Int32)), .val (.int (-1 : Int32))] [(.int ((0 : Int32) + (1 : Int32))), (.int ((0 : Int32) + (1 : Int32)))])) _
          refine XS.icmpNo X60.here hx rfl (hb hby at_157) rfl (teq (rfl : ((0 : Int32) + (1 : Int32)) = ((0 : Int32) + (1 : Int32)))).2 ?_
          show Steps p.tables e below (T60.setTop (mkF m 160 #[.val (.int p0_0), .val (.int p0_1), .val (.int (bI (¬ ((p0_1 &&& (1 : Int32)) = (0 : Int32))))), .val (.int (bI (¬ ((p0_1 &&& (2 : Int32)) = (0 : Int32))))), .val (.int (bI (¬ ((p0_1 &&& (4 : Int32)) = (0 : Int32))))), .val (.ref b16), .val (.int (1 : Int32)), .val (.int (1 : Int32)), .val (.int ((1 : Int32) - (1 : Int32))), .val (.int (0 : Int32)), .val (.int (-1 : Int32))] [])) _
          refine XS.aload X60.here hx rfl (hb hby at_160) rfl rfl ?_
          show Steps p.tables e below (T60.setTop (mkF m 162 #[.val (.int p0_0), .val (.int p0_1), .val (.int (bI (¬ ((p0_1 &&& (1 : Int32)) = (0 : Int32))))), .val (.int (bI (¬ ((p0_1 &&& (2 : Int32)) = (0 : Int32))))), .val (.int (bI (¬ ((p0_1 &&& (4 : Int32)) = (0 : Int32))))), .val (.ref b16), .val (.int (1 : Int32)), .val (.int (1 : Int32)), .val (.int ((1 : Int32) - (1 : Int32))), .val (.int (0 : Int32)), .val (.int (-1 : Int32))] [(.ref b16)])) _
          refine st63.trans ?_
          exact k)
        have hd66 : ((0 : Int32) - (1 : Int32)) = (-1 : Int32) := by
          decide
        obtain ⟨cq67, kq67, q67a, q67b, q67c⟩ := isOf hZ e63 r51_0
        obtain ⟨_, _, ⟨T67, L67, k67, n67⟩, -, X67, ⟨Lc67, hQ67, l67, y67, z67⟩, st67⟩ := X63.virtualBack hx (y := (⟨"com/example/shieldwall/shieldwall/engine/MoraleState", "routing", "()Z"⟩ : MethodName)) (z := (⟨"com/example/shieldwall/shieldwall/engine/MoraleState", "routing", "()Z"⟩ : MethodName)) hown (mvT hZ (hW 44 _ rfl)) (mvT hZ (hW 45 _ rfl)) (notFace_of_selects (args := #[]) (mvT hZ (hW 47 _ rfl))) (mvT hZ (hW 47 _ rfl)) (mvT hZ (hW 46 _ rfl)) (by decide) (backOf (W := 0) (rm8 l Z a0 hw [] b16 (1 : Int32) T51.heap n0 z55 r51_4) hZ (hW 48 _ rfl) (hW 2 _ rfl) (by decide) (by decide)) q67a q67c (g := (mkF m 172 #[.val (.int p0_0), .val (.int p0_1), .val (.int (bI (¬ ((p0_1 &&& (1 : Int32)) = (0 : Int32))))), .val (.int (bI (¬ ((p0_1 &&& (2 : Int32)) = (0 : Int32))))), .val (.int (bI (¬ ((p0_1 &&& (4 : Int32)) = (0 : Int32))))), .val (.ref b16), .val (.int (1 : Int32)), .val (.int (1 : Int32)), .val (.int ((1 : Int32) - (1 : Int32))), .val (.int (0 : Int32)), .val (.int (-1 : Int32))] [(.ref b16)])) rfl (by rw [hml]; rfl) (Steps.refl _) (argsL := []) (rest := []) (lenOf pd_3 rfl) rfl (by show 2 * 0 + _ ≤ _; exact Nat.le_of_eq rfl) (hb hby at_172) (fun _ _ => ⟨rfl, e63, (by decide : 1 + 0 ≤ _), (by decide : 7 + 0 ≤ _)⟩)
        dsimp only [Pt.U, Pt.locs, Pt.cells, Pt.slots] at X67 l67 y67 z67 st67 hQ67
        subst l67 y67 z67
        obtain ⟨rfl, N67q, e67⟩ := hQ67
        have N68 := Fr.app N64 N67q
        have pre69 : ∀ t, Steps p.tables e below (T67.setTop (mkF m 175 #[.val (.int p0_0), .val (.int p0_1), .val (.int (bI (¬ ((p0_1 &&& (1 : Int32)) = (0 : Int32))))), .val (.int (bI (¬ ((p0_1 &&& (2 : Int32)) = (0 : Int32))))), .val (.int (bI (¬ ((p0_1 &&& (4 : Int32)) = (0 : Int32))))), .val (.ref b16), .val (.int (1 : Int32)), .val (.int (1 : Int32)), .val (.int ((1 : Int32) - (1 : Int32))), .val (.int (0 : Int32)), .val (.int (-1 : Int32))] [(.int (nar .boolean (1 : Int32)))])) t → Steps p.tables e below (s₁.setTop (entryFrame m #[(.int p0_0), (.int p0_1)] maxLocals)) t := fun t k => pre65 t (by
          show Steps p.tables e below (T63.setTop (mkF m 165 #[.val (.int p0_0), .val (.int p0_1), .val (.int (bI (¬ ((p0_1 &&& (1 : Int32)) = (0 : Int32))))), .val (.int (bI (¬ ((p0_1 &&& (2 : Int32)) = (0 : Int32))))), .val (.int (bI (¬ ((p0_1 &&& (4 : Int32)) = (0 : Int32))))), .val (.ref b16), .val (.int (1 : Int32)), .val (.int (1 : Int32)), .val (.int ((1 : Int32) - (1 : Int32))), .val (.int (0 : Int32)), .val (.int (-1 : Int32))] [(.int ((0 : Int32) - (1 : Int32)))])) _
          refine XS.iload X63.here hx rfl (hb hby at_165) rfl ?_
          show Steps p.tables e below (T63.setTop (mkF m 167 #[.val (.int p0_0), .val (.int p0_1), .val (.int (bI (¬ ((p0_1 &&& (1 : Int32)) = (0 : Int32))))), .val (.int (bI (¬ ((p0_1 &&& (2 : Int32)) = (0 : Int32))))), .val (.int (bI (¬ ((p0_1 &&& (4 : Int32)) = (0 : Int32))))), .val (.ref b16), .val (.int (1 : Int32)), .val (.int (1 : Int32)), .val (.int ((1 : Int32) - (1 : Int32))), .val (.int (0 : Int32)), .val (.int (-1 : Int32))] [(.int (-1 : Int32)), (.int ((0 : Int32) - (1 : Int32)))])) _
          refine XS.icmpNo X63.here hx rfl (hb hby at_167) rfl (teq hd66).2 ?_
          show Steps p.tables e below (T63.setTop (mkF m 170 #[.val (.int p0_0), .val (.int p0_1), .val (.int (bI (¬ ((p0_1 &&& (1 : Int32)) = (0 : Int32))))), .val (.int (bI (¬ ((p0_1 &&& (2 : Int32)) = (0 : Int32))))), .val (.int (bI (¬ ((p0_1 &&& (4 : Int32)) = (0 : Int32))))), .val (.ref b16), .val (.int (1 : Int32)), .val (.int (1 : Int32)), .val (.int ((1 : Int32) - (1 : Int32))), .val (.int (0 : Int32)), .val (.int (-1 : Int32))] [])) _
          refine XS.aload X63.here hx rfl (hb hby at_170) rfl rfl ?_
          show Steps p.tables e below (T63.setTop (mkF m 172 #[.val (.int p0_0), .val (.int p0_1), .val (.int (bI (¬ ((p0_1 &&& (1 : Int32)) = (0 : Int32))))), .val (.int (bI (¬ ((p0_1 &&& (2 : Int32)) = (0 : Int32))))), .val (.int (bI (¬ ((p0_1 &&& (4 : Int32)) = (0 : Int32))))), .val (.ref b16), .val (.int (1 : Int32)), .val (.int (1 : Int32)), .val (.int ((1 : Int32) - (1 : Int32))), .val (.int (0 : Int32)), .val (.int (-1 : Int32))] [(.ref b16)])) _
          refine st67.trans ?_
          exact k)
        have hd70 : (nar .boolean (1 : Int32)) = (bI (¬ ((p0_1 &&& (4 : Int32)) = (0 : Int32)))) := by
          rw [bI_t hc45]
          rfl
        obtain ⟨cq71, kq71, q71a, q71b, q71c⟩ := isOf hZ e67 r51_0
        obtain ⟨_, _, ⟨T71, L71, k71, n71⟩, -, X71, ⟨Lc71, hQ71, l71, y71, z71⟩, st71⟩ := X67.virtualBack hx (y := (⟨"com/example/shieldwall/shieldwall/engine/MoraleState", "startStrength", "()I"⟩ : MethodName)) (z := (⟨"com/example/shieldwall/shieldwall/engine/MoraleState", "startStrength", "()I"⟩ : MethodName)) hown (mvT hZ (hW 51 _ rfl)) (mvT hZ (hW 52 _ rfl)) (notFace_of_selects (args := #[]) (mvT hZ (hW 54 _ rfl))) (mvT hZ (hW 54 _ rfl)) (mvT hZ (hW 53 _ rfl)) (by decide) (backOf (W := 0) (rm9 l Z a0 hw [] b16 p0_0 T51.heap n0 z55 r51_1) hZ (hW 55 _ rfl) (hW 2 _ rfl) (by decide) (by decide)) q71a q71c (g := (mkF m 182 #[.val (.int p0_0), .val (.int p0_1), .val (.int (bI (¬ ((p0_1 &&& (1 : Int32)) = (0 : Int32))))), .val (.int (bI (¬ ((p0_1 &&& (2 : Int32)) = (0 : Int32))))), .val (.int (bI (¬ ((p0_1 &&& (4 : Int32)) = (0 : Int32))))), .val (.ref b16), .val (.int (1 : Int32)), .val (.int (1 : Int32)), .val (.int ((1 : Int32) - (1 : Int32))), .val (.int (0 : Int32)), .val (.int (-1 : Int32))] [(.ref b16)])) rfl (by rw [hml]; rfl) (Steps.refl _) (argsL := []) (rest := []) (lenOf pd_2 rfl) rfl (by show 2 * 0 + _ ≤ _; exact Nat.le_of_eq rfl) (hb hby at_182) (fun _ _ => ⟨rfl, e67, (by decide : 1 + 0 ≤ _), (by decide : 7 + 0 ≤ _)⟩)
        dsimp only [Pt.U, Pt.locs, Pt.cells, Pt.slots] at X71 l71 y71 z71 st71 hQ71
        subst l71 y71 z71
        obtain ⟨rfl, N71q, e71⟩ := hQ71
        have N72 := Fr.app N68 N71q
        have pre73 : ∀ t, Steps p.tables e below (T71.setTop (mkF m 185 #[.val (.int p0_0), .val (.int p0_1), .val (.int (bI (¬ ((p0_1 &&& (1 : Int32)) = (0 : Int32))))), .val (.int (bI (¬ ((p0_1 &&& (2 : Int32)) = (0 : Int32))))), .val (.int (bI (¬ ((p0_1 &&& (4 : Int32)) = (0 : Int32))))), .val (.ref b16), .val (.int (1 : Int32)), .val (.int (1 : Int32)), .val (.int ((1 : Int32) - (1 : Int32))), .val (.int (0 : Int32)), .val (.int (-1 : Int32))] [(.int p0_0)])) t → Steps p.tables e below (s₁.setTop (entryFrame m #[(.int p0_0), (.int p0_1)] maxLocals)) t := fun t k => pre69 t (by
          show Steps p.tables e below (T67.setTop (mkF m 175 #[.val (.int p0_0), .val (.int p0_1), .val (.int (bI (¬ ((p0_1 &&& (1 : Int32)) = (0 : Int32))))), .val (.int (bI (¬ ((p0_1 &&& (2 : Int32)) = (0 : Int32))))), .val (.int (bI (¬ ((p0_1 &&& (4 : Int32)) = (0 : Int32))))), .val (.ref b16), .val (.int (1 : Int32)), .val (.int (1 : Int32)), .val (.int ((1 : Int32) - (1 : Int32))), .val (.int (0 : Int32)), .val (.int (-1 : Int32))] [(.int (nar .boolean (1 : Int32)))])) _
          refine XS.iload X67.here hx rfl (hb hby at_175) rfl ?_
          show Steps p.tables e below (T67.setTop (mkF m 177 #[.val (.int p0_0), .val (.int p0_1), .val (.int (bI (¬ ((p0_1 &&& (1 : Int32)) = (0 : Int32))))), .val (.int (bI (¬ ((p0_1 &&& (2 : Int32)) = (0 : Int32))))), .val (.int (bI (¬ ((p0_1 &&& (4 : Int32)) = (0 : Int32))))), .val (.ref b16), .val (.int (1 : Int32)), .val (.int (1 : Int32)), .val (.int ((1 : Int32) - (1 : Int32))), .val (.int (0 : Int32)), .val (.int (-1 : Int32))] [(.int (bI (¬ ((p0_1 &&& (4 : Int32)) = (0 : Int32))))), (.int (nar .boolean (1 : Int32)))])) _
          refine XS.icmpNo X67.here hx rfl (hb hby at_177) rfl (teq hd70).2 ?_
          show Steps p.tables e below (T67.setTop (mkF m 180 #[.val (.int p0_0), .val (.int p0_1), .val (.int (bI (¬ ((p0_1 &&& (1 : Int32)) = (0 : Int32))))), .val (.int (bI (¬ ((p0_1 &&& (2 : Int32)) = (0 : Int32))))), .val (.int (bI (¬ ((p0_1 &&& (4 : Int32)) = (0 : Int32))))), .val (.ref b16), .val (.int (1 : Int32)), .val (.int (1 : Int32)), .val (.int ((1 : Int32) - (1 : Int32))), .val (.int (0 : Int32)), .val (.int (-1 : Int32))] [])) _
          refine XS.aload X67.here hx rfl (hb hby at_180) rfl rfl ?_
          show Steps p.tables e below (T67.setTop (mkF m 182 #[.val (.int p0_0), .val (.int p0_1), .val (.int (bI (¬ ((p0_1 &&& (1 : Int32)) = (0 : Int32))))), .val (.int (bI (¬ ((p0_1 &&& (2 : Int32)) = (0 : Int32))))), .val (.int (bI (¬ ((p0_1 &&& (4 : Int32)) = (0 : Int32))))), .val (.ref b16), .val (.int (1 : Int32)), .val (.int (1 : Int32)), .val (.int ((1 : Int32) - (1 : Int32))), .val (.int (0 : Int32)), .val (.int (-1 : Int32))] [(.ref b16)])) _
          refine st71.trans ?_
          exact k)
        obtain ⟨fs, hr, hrun, hended, hW, hsame⟩ := X71.leave (v := some (.int (1 : Int32))) (fun h => by rw [Bd.returns] at h; cases h)
        refine ⟨_, _, pre73 _ ?_, hrun, hended, _, _, rfl, ?_, ⟨_, rfl⟩, hW, hsame.mono (by decide) (by decide)⟩
        · show Steps p.tables e below (T71.setTop (mkF m 185 #[.val (.int p0_0), .val (.int p0_1), .val (.int (bI (¬ ((p0_1 &&& (1 : Int32)) = (0 : Int32))))), .val (.int (bI (¬ ((p0_1 &&& (2 : Int32)) = (0 : Int32))))), .val (.int (bI (¬ ((p0_1 &&& (4 : Int32)) = (0 : Int32))))), .val (.ref b16), .val (.int (1 : Int32)), .val (.int (1 : Int32)), .val (.int ((1 : Int32) - (1 : Int32))), .val (.int (0 : Int32)), .val (.int (-1 : Int32))] [(.int p0_0)])) _
          refine XS.iloadN X71.here hx rfl (hb hby at_185) rfl ?_
          show Steps p.tables e below (T71.setTop (mkF m 186 #[.val (.int p0_0), .val (.int p0_1), .val (.int (bI (¬ ((p0_1 &&& (1 : Int32)) = (0 : Int32))))), .val (.int (bI (¬ ((p0_1 &&& (2 : Int32)) = (0 : Int32))))), .val (.int (bI (¬ ((p0_1 &&& (4 : Int32)) = (0 : Int32))))), .val (.ref b16), .val (.int (1 : Int32)), .val (.int (1 : Int32)), .val (.int ((1 : Int32) - (1 : Int32))), .val (.int (0 : Int32)), .val (.int (-1 : Int32))] [(.int p0_0), (.int p0_0)])) _
          refine XS.icmpNo X71.here hx rfl (hb hby at_186) rfl (teq (rfl : p0_0 = p0_0)).2 ?_
          show Steps p.tables e below (T71.setTop (mkF m 189 #[.val (.int p0_0), .val (.int p0_1), .val (.int (bI (¬ ((p0_1 &&& (1 : Int32)) = (0 : Int32))))), .val (.int (bI (¬ ((p0_1 &&& (2 : Int32)) = (0 : Int32))))), .val (.int (bI (¬ ((p0_1 &&& (4 : Int32)) = (0 : Int32))))), .val (.ref b16), .val (.int (1 : Int32)), .val (.int (1 : Int32)), .val (.int ((1 : Int32) - (1 : Int32))), .val (.int (0 : Int32)), .val (.int (-1 : Int32))] [])) _
          refine XS.iconst X71.here hx rfl (hb hby at_189) ?_
          show Steps p.tables e below (T71.setTop (mkF m 190 #[.val (.int p0_0), .val (.int p0_1), .val (.int (bI (¬ ((p0_1 &&& (1 : Int32)) = (0 : Int32))))), .val (.int (bI (¬ ((p0_1 &&& (2 : Int32)) = (0 : Int32))))), .val (.int (bI (¬ ((p0_1 &&& (4 : Int32)) = (0 : Int32))))), .val (.ref b16), .val (.int (1 : Int32)), .val (.int (1 : Int32)), .val (.int ((1 : Int32) - (1 : Int32))), .val (.int (0 : Int32)), .val (.int (-1 : Int32))] [(.int (1 : Int32))])) _
          refine XS.goto X71.here hx rfl (pc0 := 190) (pc' := 194) rfl (hb hby at_190) (by decide) (by decide) ?_
          show Steps p.tables e below (T71.setTop (mkF m 194 #[.val (.int p0_0), .val (.int p0_1), .val (.int (bI (¬ ((p0_1 &&& (1 : Int32)) = (0 : Int32))))), .val (.int (bI (¬ ((p0_1 &&& (2 : Int32)) = (0 : Int32))))), .val (.int (bI (¬ ((p0_1 &&& (4 : Int32)) = (0 : Int32))))), .val (.ref b16), .val (.int (1 : Int32)), .val (.int (1 : Int32)), .val (.int ((1 : Int32) - (1 : Int32))), .val (.int (0 : Int32)), .val (.int (-1 : Int32))] [(.int (1 : Int32))])) _
          exact retN X71 hx (t := .boolean) Bd.returns (by simp) (hb hby at_194) hr
        · show Q0 Z p0_0 p0_1 h0 n0 _ T71.heap _
          rw [e71]
          exact ⟨rfl, N72⟩
      · obtain ⟨cq74, kq74, q74a, q74b, q74c⟩ := isOf hZ rfl r39_0
        obtain ⟨_, _, ⟨T74, L74, k74, n74⟩, -, X74, ⟨Lc74, hQ74, l74, y74, z74⟩, st74⟩ := X39.virtualBack hx (y := (⟨"com/example/shieldwall/shieldwall/engine/MoraleState", "lost", "()V"⟩ : MethodName)) (z := (⟨"com/example/shieldwall/shieldwall/engine/MoraleState", "lost", "()V"⟩ : MethodName)) hown (mvT hZ (hW 11 _ rfl)) (mvT hZ (hW 12 _ rfl)) (notFace_of_selects (args := #[]) (mvT hZ (hW 14 _ rfl))) (mvT hZ (hW 14 _ rfl)) (mvT hZ (hW 13 _ rfl)) (by decide) (backOf (W := 0) (rm3 l Z a0 hw [] b16 ((0 : Int32) + (1 : Int32)) p0_0 (0 : Int32) ((0 : Int32) + (1 : Int32)) (0 : Int32) (0 : Int32) T39.heap n0 z43 r39_2 r39_0 r39_1 r39_6 r39_5 r39_3 r39_4 gz16) hZ (hW 15 _ rfl) (hW 2 _ rfl) (by decide) (by decide)) q74a q74c (g := (mkF m 133 #[.val (.int p0_0), .val (.int p0_1), .val (.int (bI (¬ ((p0_1 &&& (1 : Int32)) = (0 : Int32))))), .val (.int (bI (¬ ((p0_1 &&& (2 : Int32)) = (0 : Int32))))), .val (.int (bI (¬ ((p0_1 &&& (4 : Int32)) = (0 : Int32))))), .val (.ref b16), .val (.int (1 : Int32)), .val (.int (1 : Int32)), .val (.int ((1 : Int32) - (1 : Int32))), .val (.int (0 : Int32)), .val (.int (0 : Int32))] [(.ref b16)])) rfl (by rw [hml]; rfl) (Steps.refl _) (argsL := []) (rest := []) (lenOf pd_1 rfl) rfl (by show 2 * 0 + _ ≤ _; exact Nat.le_of_eq rfl) (hb hby at_133) (fun _ _ => ⟨rfl, rfl, (by decide : 1 + 0 ≤ _), (by decide : 7 + 0 ≤ _)⟩)
        dsimp only [Pt.U, Pt.locs, Pt.cells, Pt.slots] at X74 l74 y74 z74 st74 hQ74
        subst l74 y74 z74
        obtain ⟨rfl, N74q, K74, r74_0, r74_1, r74_2, r74_3, r74_4, r74_5, r74_6⟩ := hQ74
        have N75 := Fr.app N40 N74q
        have pre76 : ∀ t, Steps p.tables e below (T74.setTop (mkF m 136 #[.val (.int p0_0), .val (.int p0_1), .val (.int (bI (¬ ((p0_1 &&& (1 : Int32)) = (0 : Int32))))), .val (.int (bI (¬ ((p0_1 &&& (2 : Int32)) = (0 : Int32))))), .val (.int (bI (¬ ((p0_1 &&& (4 : Int32)) = (0 : Int32))))), .val (.ref b16), .val (.int (1 : Int32)), .val (.int (1 : Int32)), .val (.int ((1 : Int32) - (1 : Int32))), .val (.int (0 : Int32)), .val (.int (0 : Int32))] [])) t → Steps p.tables e below (s₁.setTop (entryFrame m #[(.int p0_0), (.int p0_1)] maxLocals)) t := fun t k => pre41 t (by
          show Steps p.tables e below (T39.setTop (mkF m 65 #[.val (.int p0_0), .val (.int p0_1), .val (.int (bI (¬ ((p0_1 &&& (1 : Int32)) = (0 : Int32))))), .val (.int (bI (¬ ((p0_1 &&& (2 : Int32)) = (0 : Int32))))), .val (.int (bI (¬ ((p0_1 &&& (4 : Int32)) = (0 : Int32))))), .val (.ref b16), .unset, .unset, .unset, .unset, .unset] [])) _
          refine XS.iload X39.here hx rfl (hb hby at_65) rfl ?_
          show Steps p.tables e below (T39.setTop (mkF m 67 #[.val (.int p0_0), .val (.int p0_1), .val (.int (bI (¬ ((p0_1 &&& (1 : Int32)) = (0 : Int32))))), .val (.int (bI (¬ ((p0_1 &&& (2 : Int32)) = (0 : Int32))))), .val (.int (bI (¬ ((p0_1 &&& (4 : Int32)) = (0 : Int32))))), .val (.ref b16), .unset, .unset, .unset, .unset, .unset] [(.int (bI (¬ ((p0_1 &&& (4 : Int32)) = (0 : Int32)))))])) _
          refine XS.ifYes X39.here hx rfl (pc0 := 67) (pc' := 75) rfl (hb hby at_67) rfl ((if0 _ _).trans (teq (bI_f hc45)).1) (by decide) (by decide) ?_
          show Steps p.tables e below (T39.setTop (mkF m 75 #[.val (.int p0_0), .val (.int p0_1), .val (.int (bI (¬ ((p0_1 &&& (1 : Int32)) = (0 : Int32))))), .val (.int (bI (¬ ((p0_1 &&& (2 : Int32)) = (0 : Int32))))), .val (.int (bI (¬ ((p0_1 &&& (4 : Int32)) = (0 : Int32))))), .val (.ref b16), .unset, .unset, .unset, .unset, .unset] [])) _
          refine XS.iloadN X39.here hx rfl (hb hby at_75) rfl ?_
          show Steps p.tables e below (T39.setTop (mkF m 76 #[.val (.int p0_0), .val (.int p0_1), .val (.int (bI (¬ ((p0_1 &&& (1 : Int32)) = (0 : Int32))))), .val (.int (bI (¬ ((p0_1 &&& (2 : Int32)) = (0 : Int32))))), .val (.int (bI (¬ ((p0_1 &&& (4 : Int32)) = (0 : Int32))))), .val (.ref b16), .unset, .unset, .unset, .unset, .unset] [(.int (bI (¬ ((p0_1 &&& (1 : Int32)) = (0 : Int32)))))])) _
          refine XS.ifNo X39.here hx rfl (hb hby at_76) rfl ((if0 _ _).trans (feq (bI_n hc31)).1) ?_
          show Steps p.tables e below (T39.setTop (mkF m 79 #[.val (.int p0_0), .val (.int p0_1), .val (.int (bI (¬ ((p0_1 &&& (1 : Int32)) = (0 : Int32))))), .val (.int (bI (¬ ((p0_1 &&& (2 : Int32)) = (0 : Int32))))), .val (.int (bI (¬ ((p0_1 &&& (4 : Int32)) = (0 : Int32))))), .val (.ref b16), .unset, .unset, .unset, .unset, .unset] [])) _
          refine XS.iconst X39.here hx rfl (hb hby at_79) ?_
          show Steps p.tables e below (T39.setTop (mkF m 80 #[.val (.int p0_0), .val (.int p0_1), .val (.int (bI (¬ ((p0_1 &&& (1 : Int32)) = (0 : Int32))))), .val (.int (bI (¬ ((p0_1 &&& (2 : Int32)) = (0 : Int32))))), .val (.int (bI (¬ ((p0_1 &&& (4 : Int32)) = (0 : Int32))))), .val (.ref b16), .unset, .unset, .unset, .unset, .unset] [(.int (1 : Int32))])) _
          refine XS.goto X39.here hx rfl (pc0 := 80) (pc' := 84) rfl (hb hby at_80) (by decide) (by decide) ?_
          show Steps p.tables e below (T39.setTop (mkF m 84 #[.val (.int p0_0), .val (.int p0_1), .val (.int (bI (¬ ((p0_1 &&& (1 : Int32)) = (0 : Int32))))), .val (.int (bI (¬ ((p0_1 &&& (2 : Int32)) = (0 : Int32))))), .val (.int (bI (¬ ((p0_1 &&& (4 : Int32)) = (0 : Int32))))), .val (.ref b16), .unset, .unset, .unset, .unset, .unset] [(.int (1 : Int32))])) _
          refine XS.istore X39.here hx rfl (hb hby at_84) rfl (l' := #[.val (.int p0_0), .val (.int p0_1), .val (.int (bI (¬ ((p0_1 &&& (1 : Int32)) = (0 : Int32))))), .val (.int (bI (¬ ((p0_1 &&& (2 : Int32)) = (0 : Int32))))), .val (.int (bI (¬ ((p0_1 &&& (4 : Int32)) = (0 : Int32))))), .val (.ref b16), .val (.int (1 : Int32)), .unset, .unset, .unset, .unset]) rfl ?_
          show Steps p.tables e below (T39.setTop (mkF m 86 #[.val (.int p0_0), .val (.int p0_1), .val (.int (bI (¬ ((p0_1 &&& (1 : Int32)) = (0 : Int32))))), .val (.int (bI (¬ ((p0_1 &&& (2 : Int32)) = (0 : Int32))))), .val (.int (bI (¬ ((p0_1 &&& (4 : Int32)) = (0 : Int32))))), .val (.ref b16), .val (.int (1 : Int32)), .unset, .unset, .unset, .unset] [])) _
          refine XS.iloadN X39.here hx rfl (hb hby at_86) rfl ?_
          show Steps p.tables e below (T39.setTop (mkF m 87 #[.val (.int p0_0), .val (.int p0_1), .val (.int (bI (¬ ((p0_1 &&& (1 : Int32)) = (0 : Int32))))), .val (.int (bI (¬ ((p0_1 &&& (2 : Int32)) = (0 : Int32))))), .val (.int (bI (¬ ((p0_1 &&& (4 : Int32)) = (0 : Int32))))), .val (.ref b16), .val (.int (1 : Int32)), .unset, .unset, .unset, .unset] [(.int (bI (¬ ((p0_1 &&& (2 : Int32)) = (0 : Int32)))))])) _
          refine XS.ifNo X39.here hx rfl (hb hby at_87) rfl ((if0 _ _).trans (feq (bI_n hc38)).1) ?_
          show Steps p.tables e below (T39.setTop (mkF m 90 #[.val (.int p0_0), .val (.int p0_1), .val (.int (bI (¬ ((p0_1 &&& (1 : Int32)) = (0 : Int32))))), .val (.int (bI (¬ ((p0_1 &&& (2 : Int32)) = (0 : Int32))))), .val (.int (bI (¬ ((p0_1 &&& (4 : Int32)) = (0 : Int32))))), .val (.ref b16), .val (.int (1 : Int32)), .unset, .unset, .unset, .unset] [])) _
          refine XS.iconst X39.here hx rfl (hb hby at_90) ?_
          show Steps p.tables e below (T39.setTop (mkF m 91 #[.val (.int p0_0), .val (.int p0_1), .val (.int (bI (¬ ((p0_1 &&& (1 : Int32)) = (0 : Int32))))), .val (.int (bI (¬ ((p0_1 &&& (2 : Int32)) = (0 : Int32))))), .val (.int (bI (¬ ((p0_1 &&& (4 : Int32)) = (0 : Int32))))), .val (.ref b16), .val (.int (1 : Int32)), .unset, .unset, .unset, .unset] [(.int (1 : Int32))])) _
          refine XS.goto X39.here hx rfl (pc0 := 91) (pc' := 95) rfl (hb hby at_91) (by decide) (by decide) ?_
          show Steps p.tables e below (T39.setTop (mkF m 95 #[.val (.int p0_0), .val (.int p0_1), .val (.int (bI (¬ ((p0_1 &&& (1 : Int32)) = (0 : Int32))))), .val (.int (bI (¬ ((p0_1 &&& (2 : Int32)) = (0 : Int32))))), .val (.int (bI (¬ ((p0_1 &&& (4 : Int32)) = (0 : Int32))))), .val (.ref b16), .val (.int (1 : Int32)), .unset, .unset, .unset, .unset] [(.int (1 : Int32))])) _
          refine XS.istore X39.here hx rfl (hb hby at_95) rfl (l' := #[.val (.int p0_0), .val (.int p0_1), .val (.int (bI (¬ ((p0_1 &&& (1 : Int32)) = (0 : Int32))))), .val (.int (bI (¬ ((p0_1 &&& (2 : Int32)) = (0 : Int32))))), .val (.int (bI (¬ ((p0_1 &&& (4 : Int32)) = (0 : Int32))))), .val (.ref b16), .val (.int (1 : Int32)), .val (.int (1 : Int32)), .unset, .unset, .unset]) rfl ?_
          show Steps p.tables e below (T39.setTop (mkF m 97 #[.val (.int p0_0), .val (.int p0_1), .val (.int (bI (¬ ((p0_1 &&& (1 : Int32)) = (0 : Int32))))), .val (.int (bI (¬ ((p0_1 &&& (2 : Int32)) = (0 : Int32))))), .val (.int (bI (¬ ((p0_1 &&& (4 : Int32)) = (0 : Int32))))), .val (.ref b16), .val (.int (1 : Int32)), .val (.int (1 : Int32)), .unset, .unset, .unset] [])) _
          refine XS.iload X39.here hx rfl (hb hby at_97) rfl ?_
          show Steps p.tables e below (T39.setTop (mkF m 99 #[.val (.int p0_0), .val (.int p0_1), .val (.int (bI (¬ ((p0_1 &&& (1 : Int32)) = (0 : Int32))))), .val (.int (bI (¬ ((p0_1 &&& (2 : Int32)) = (0 : Int32))))), .val (.int (bI (¬ ((p0_1 &&& (4 : Int32)) = (0 : Int32))))), .val (.ref b16), .val (.int (1 : Int32)), .val (.int (1 : Int32)), .unset, .unset, .unset] [(.int (1 : Int32))])) _
          refine XS.iload X39.here hx rfl (hb hby at_99) rfl ?_
          show Steps p.tables e below (T39.setTop (mkF m 101 #[.val (.int p0_0), .val (.int p0_1), .val (.int (bI (¬ ((p0_1 &&& (1 : Int32)) = (0 : Int32))))), .val (.int (bI (¬ ((p0_1 &&& (2 : Int32)) = (0 : Int32))))), .val (.int (bI (¬ ((p0_1 &&& (4 : Int32)) = (0 : Int32))))), .val (.ref b16), .val (.int (1 : Int32)), .val (.int (1 : Int32)), .unset, .unset, .unset] [(.int (1 : Int32)), (.int (1 : Int32))])) _
          refine XS.isub X39.here hx rfl (hb hby at_101) rfl ?_
          show Steps p.tables e below (T39.setTop (mkF m 102 #[.val (.int p0_0), .val (.int p0_1), .val (.int (bI (¬ ((p0_1 &&& (1 : Int32)) = (0 : Int32))))), .val (.int (bI (¬ ((p0_1 &&& (2 : Int32)) = (0 : Int32))))), .val (.int (bI (¬ ((p0_1 &&& (4 : Int32)) = (0 : Int32))))), .val (.ref b16), .val (.int (1 : Int32)), .val (.int (1 : Int32)), .unset, .unset, .unset] [(.int ((1 : Int32) - (1 : Int32)))])) _
          refine XS.istore X39.here hx rfl (hb hby at_102) rfl (l' := #[.val (.int p0_0), .val (.int p0_1), .val (.int (bI (¬ ((p0_1 &&& (1 : Int32)) = (0 : Int32))))), .val (.int (bI (¬ ((p0_1 &&& (2 : Int32)) = (0 : Int32))))), .val (.int (bI (¬ ((p0_1 &&& (4 : Int32)) = (0 : Int32))))), .val (.ref b16), .val (.int (1 : Int32)), .val (.int (1 : Int32)), .val (.int ((1 : Int32) - (1 : Int32))), .unset, .unset]) rfl ?_
          show Steps p.tables e below (T39.setTop (mkF m 104 #[.val (.int p0_0), .val (.int p0_1), .val (.int (bI (¬ ((p0_1 &&& (1 : Int32)) = (0 : Int32))))), .val (.int (bI (¬ ((p0_1 &&& (2 : Int32)) = (0 : Int32))))), .val (.int (bI (¬ ((p0_1 &&& (4 : Int32)) = (0 : Int32))))), .val (.ref b16), .val (.int (1 : Int32)), .val (.int (1 : Int32)), .val (.int ((1 : Int32) - (1 : Int32))), .unset, .unset] [])) _
          refine XS.iloadN X39.here hx rfl (hb hby at_104) rfl ?_
          show Steps p.tables e below (T39.setTop (mkF m 105 #[.val (.int p0_0), .val (.int p0_1), .val (.int (bI (¬ ((p0_1 &&& (1 : Int32)) = (0 : Int32))))), .val (.int (bI (¬ ((p0_1 &&& (2 : Int32)) = (0 : Int32))))), .val (.int (bI (¬ ((p0_1 &&& (4 : Int32)) = (0 : Int32))))), .val (.ref b16), .val (.int (1 : Int32)), .val (.int (1 : Int32)), .val (.int ((1 : Int32) - (1 : Int32))), .unset, .unset] [(.int (bI (¬ ((p0_1 &&& (1 : Int32)) = (0 : Int32)))))])) _
          refine XS.ifNo X39.here hx rfl (hb hby at_105) rfl ((if0 _ _).trans (feq (bI_n hc31)).1) ?_
          show Steps p.tables e below (T39.setTop (mkF m 108 #[.val (.int p0_0), .val (.int p0_1), .val (.int (bI (¬ ((p0_1 &&& (1 : Int32)) = (0 : Int32))))), .val (.int (bI (¬ ((p0_1 &&& (2 : Int32)) = (0 : Int32))))), .val (.int (bI (¬ ((p0_1 &&& (4 : Int32)) = (0 : Int32))))), .val (.ref b16), .val (.int (1 : Int32)), .val (.int (1 : Int32)), .val (.int ((1 : Int32) - (1 : Int32))), .unset, .unset] [])) _
          refine XS.iloadN X39.here hx rfl (hb hby at_108) rfl ?_
          show Steps p.tables e below (T39.setTop (mkF m 109 #[.val (.int p0_0), .val (.int p0_1), .val (.int (bI (¬ ((p0_1 &&& (1 : Int32)) = (0 : Int32))))), .val (.int (bI (¬ ((p0_1 &&& (2 : Int32)) = (0 : Int32))))), .val (.int (bI (¬ ((p0_1 &&& (4 : Int32)) = (0 : Int32))))), .val (.ref b16), .val (.int (1 : Int32)), .val (.int (1 : Int32)), .val (.int ((1 : Int32) - (1 : Int32))), .unset, .unset] [(.int (bI (¬ ((p0_1 &&& (2 : Int32)) = (0 : Int32)))))])) _
          refine XS.ifYes X39.here hx rfl (pc0 := 109) (pc' := 116) rfl (hb hby at_109) rfl ((if0 _ _).trans (feq (bI_n hc38)).2) (by decide) (by decide) ?_
          show Steps p.tables e below (T39.setTop (mkF m 116 #[.val (.int p0_0), .val (.int p0_1), .val (.int (bI (¬ ((p0_1 &&& (1 : Int32)) = (0 : Int32))))), .val (.int (bI (¬ ((p0_1 &&& (2 : Int32)) = (0 : Int32))))), .val (.int (bI (¬ ((p0_1 &&& (4 : Int32)) = (0 : Int32))))), .val (.ref b16), .val (.int (1 : Int32)), .val (.int (1 : Int32)), .val (.int ((1 : Int32) - (1 : Int32))), .unset, .unset] [])) _
          refine XS.iconst X39.here hx rfl (hb hby at_116) ?_
          show Steps p.tables e below (T39.setTop (mkF m 117 #[.val (.int p0_0), .val (.int p0_1), .val (.int (bI (¬ ((p0_1 &&& (1 : Int32)) = (0 : Int32))))), .val (.int (bI (¬ ((p0_1 &&& (2 : Int32)) = (0 : Int32))))), .val (.int (bI (¬ ((p0_1 &&& (4 : Int32)) = (0 : Int32))))), .val (.ref b16), .val (.int (1 : Int32)), .val (.int (1 : Int32)), .val (.int ((1 : Int32) - (1 : Int32))), .unset, .unset] [(.int (0 : Int32))])) _
          refine XS.istore X39.here hx rfl (hb hby at_117) rfl (l' := #[.val (.int p0_0), .val (.int p0_1), .val (.int (bI (¬ ((p0_1 &&& (1 : Int32)) = (0 : Int32))))), .val (.int (bI (¬ ((p0_1 &&& (2 : Int32)) = (0 : Int32))))), .val (.int (bI (¬ ((p0_1 &&& (4 : Int32)) = (0 : Int32))))), .val (.ref b16), .val (.int (1 : Int32)), .val (.int (1 : Int32)), .val (.int ((1 : Int32) - (1 : Int32))), .val (.int (0 : Int32)), .unset]) rfl ?_
          show Steps p.tables e below (T39.setTop (mkF m 119 #[.val (.int p0_0), .val (.int p0_1), .val (.int (bI (¬ ((p0_1 &&& (1 : Int32)) = (0 : Int32))))), .val (.int (bI (¬ ((p0_1 &&& (2 : Int32)) = (0 : Int32))))), .val (.int (bI (¬ ((p0_1 &&& (4 : Int32)) = (0 : Int32))))), .val (.ref b16), .val (.int (1 : Int32)), .val (.int (1 : Int32)), .val (.int ((1 : Int32) - (1 : Int32))), .val (.int (0 : Int32)), .unset] [])) _
          refine XS.iload X39.here hx rfl (hb hby at_119) rfl ?_
          show Steps p.tables e below (T39.setTop (mkF m 121 #[.val (.int p0_0), .val (.int p0_1), .val (.int (bI (¬ ((p0_1 &&& (1 : Int32)) = (0 : Int32))))), .val (.int (bI (¬ ((p0_1 &&& (2 : Int32)) = (0 : Int32))))), .val (.int (bI (¬ ((p0_1 &&& (4 : Int32)) = (0 : Int32))))), .val (.ref b16), .val (.int (1 : Int32)), .val (.int (1 : Int32)), .val (.int ((1 : Int32) - (1 : Int32))), .val (.int (0 : Int32)), .unset] [(.int (bI (¬ ((p0_1 &&& (4 : Int32)) = (0 : Int32)))))])) _
          refine XS.ifYes X39.here hx rfl (pc0 := 121) (pc' := 128) rfl (hb hby at_121) rfl ((if0 _ _).trans (teq (bI_f hc45)).1) (by decide) (by decide) ?_
          show Steps p.tables e below (T39.setTop (mkF m 128 #[.val (.int p0_0), .val (.int p0_1), .val (.int (bI (¬ ((p0_1 &&& (1 : Int32)) = (0 : Int32))))), .val (.int (bI (¬ ((p0_1 &&& (2 : Int32)) = (0 : Int32))))), .val (.int (bI (¬ ((p0_1 &&& (4 : Int32)) = (0 : Int32))))), .val (.ref b16), .val (.int (1 : Int32)), .val (.int (1 : Int32)), .val (.int ((1 : Int32) - (1 : Int32))), .val (.int (0 : Int32)), .unset] [])) _
          refine XS.iconst X39.here hx rfl (hb hby at_128) ?_
          show Steps p.tables e below (T39.setTop (mkF m 129 #[.val (.int p0_0), .val (.int p0_1), .val (.int (bI (¬ ((p0_1 &&& (1 : Int32)) = (0 : Int32))))), .val (.int (bI (¬ ((p0_1 &&& (2 : Int32)) = (0 : Int32))))), .val (.int (bI (¬ ((p0_1 &&& (4 : Int32)) = (0 : Int32))))), .val (.ref b16), .val (.int (1 : Int32)), .val (.int (1 : Int32)), .val (.int ((1 : Int32) - (1 : Int32))), .val (.int (0 : Int32)), .unset] [(.int (0 : Int32))])) _
          refine XS.istore X39.here hx rfl (hb hby at_129) rfl (l' := #[.val (.int p0_0), .val (.int p0_1), .val (.int (bI (¬ ((p0_1 &&& (1 : Int32)) = (0 : Int32))))), .val (.int (bI (¬ ((p0_1 &&& (2 : Int32)) = (0 : Int32))))), .val (.int (bI (¬ ((p0_1 &&& (4 : Int32)) = (0 : Int32))))), .val (.ref b16), .val (.int (1 : Int32)), .val (.int (1 : Int32)), .val (.int ((1 : Int32) - (1 : Int32))), .val (.int (0 : Int32)), .val (.int (0 : Int32))]) rfl ?_
          show Steps p.tables e below (T39.setTop (mkF m 131 #[.val (.int p0_0), .val (.int p0_1), .val (.int (bI (¬ ((p0_1 &&& (1 : Int32)) = (0 : Int32))))), .val (.int (bI (¬ ((p0_1 &&& (2 : Int32)) = (0 : Int32))))), .val (.int (bI (¬ ((p0_1 &&& (4 : Int32)) = (0 : Int32))))), .val (.ref b16), .val (.int (1 : Int32)), .val (.int (1 : Int32)), .val (.int ((1 : Int32) - (1 : Int32))), .val (.int (0 : Int32)), .val (.int (0 : Int32))] [])) _
          refine XS.aload X39.here hx rfl (hb hby at_131) rfl rfl ?_
          show Steps p.tables e below (T39.setTop (mkF m 133 #[.val (.int p0_0), .val (.int p0_1), .val (.int (bI (¬ ((p0_1 &&& (1 : Int32)) = (0 : Int32))))), .val (.int (bI (¬ ((p0_1 &&& (2 : Int32)) = (0 : Int32))))), .val (.int (bI (¬ ((p0_1 &&& (4 : Int32)) = (0 : Int32))))), .val (.ref b16), .val (.int (1 : Int32)), .val (.int (1 : Int32)), .val (.int ((1 : Int32) - (1 : Int32))), .val (.int (0 : Int32)), .val (.int (0 : Int32))] [(.ref b16)])) _
          refine st74.trans ?_
          exact k)
        have f77 := r39_0.keep K74
        have z78 := Nat.le_trans z43 K74.1
        obtain ⟨cq79, kq79, q79a, q79b, q79c⟩ := isOf hZ rfl r74_0
        obtain ⟨_, _, ⟨T79, L79, k79, n79⟩, -, X79, ⟨Lc79, hQ79, l79, y79, z79⟩, st79⟩ := X74.virtualBack hx (y := (⟨"com/example/shieldwall/shieldwall/engine/MoraleState", "battles", "()I"⟩ : MethodName)) (z := (⟨"com/example/shieldwall/shieldwall/engine/MoraleState", "battles", "()I"⟩ : MethodName)) hown (mvT hZ (hW 27 _ rfl)) (mvT hZ (hW 28 _ rfl)) (notFace_of_selects (args := #[]) (mvT hZ (hW 30 _ rfl))) (mvT hZ (hW 30 _ rfl)) (mvT hZ (hW 29 _ rfl)) (by decide) (backOf (W := 0) (rm5 l Z a0 hw [] b16 ((0 : Int32) + (1 : Int32)) (((0 : Int32) + (1 : Int32)) + (1 : Int32)) T74.heap n0 z78 r74_2 r74_5) hZ (hW 31 _ rfl) (hW 2 _ rfl) (by decide) (by decide)) q79a q79c (g := (mkF m 138 #[.val (.int p0_0), .val (.int p0_1), .val (.int (bI (¬ ((p0_1 &&& (1 : Int32)) = (0 : Int32))))), .val (.int (bI (¬ ((p0_1 &&& (2 : Int32)) = (0 : Int32))))), .val (.int (bI (¬ ((p0_1 &&& (4 : Int32)) = (0 : Int32))))), .val (.ref b16), .val (.int (1 : Int32)), .val (.int (1 : Int32)), .val (.int ((1 : Int32) - (1 : Int32))), .val (.int (0 : Int32)), .val (.int (0 : Int32))] [(.ref b16)])) rfl (by rw [hml]; rfl) (Steps.refl _) (argsL := []) (rest := []) (lenOf pd_2 rfl) rfl (by show 2 * 0 + _ ≤ _; exact Nat.le_of_eq rfl) (hb hby at_138) (fun _ _ => ⟨rfl, rfl, (by decide : 1 + 0 ≤ _), (by decide : 7 + 0 ≤ _)⟩)
        dsimp only [Pt.U, Pt.locs, Pt.cells, Pt.slots] at X79 l79 y79 z79 st79 hQ79
        subst l79 y79 z79
        obtain ⟨rfl, N79q, e79⟩ := hQ79
        have N80 := Fr.app N75 N79q
        have pre81 : ∀ t, Steps p.tables e below (T79.setTop (mkF m 141 #[.val (.int p0_0), .val (.int p0_1), .val (.int (bI (¬ ((p0_1 &&& (1 : Int32)) = (0 : Int32))))), .val (.int (bI (¬ ((p0_1 &&& (2 : Int32)) = (0 : Int32))))), .val (.int (bI (¬ ((p0_1 &&& (4 : Int32)) = (0 : Int32))))), .val (.ref b16), .val (.int (1 : Int32)), .val (.int (1 : Int32)), .val (.int ((1 : Int32) - (1 : Int32))), .val (.int (0 : Int32)), .val (.int (0 : Int32))] [(.int (((0 : Int32) + (1 : Int32)) - (((0 : Int32) + (1 : Int32)) + (1 : Int32))))])) t → Steps p.tables e below (s₁.setTop (entryFrame m #[(.int p0_0), (.int p0_1)] maxLocals)) t := fun t k => pre76 t (by
          show Steps p.tables e below (T74.setTop (mkF m 136 #[.val (.int p0_0), .val (.int p0_1), .val (.int (bI (¬ ((p0_1 &&& (1 : Int32)) = (0 : Int32))))), .val (.int (bI (¬ ((p0_1 &&& (2 : Int32)) = (0 : Int32))))), .val (.int (bI (¬ ((p0_1 &&& (4 : Int32)) = (0 : Int32))))), .val (.ref b16), .val (.int (1 : Int32)), .val (.int (1 : Int32)), .val (.int ((1 : Int32) - (1 : Int32))), .val (.int (0 : Int32)), .val (.int (0 : Int32))] [])) _
          refine XS.aload X74.here hx rfl (hb hby at_136) rfl rfl ?_
          show Steps p.tables e below (T74.setTop (mkF m 138 #[.val (.int p0_0), .val (.int p0_1), .val (.int (bI (¬ ((p0_1 &&& (1 : Int32)) = (0 : Int32))))), .val (.int (bI (¬ ((p0_1 &&& (2 : Int32)) = (0 : Int32))))), .val (.int (bI (¬ ((p0_1 &&& (4 : Int32)) = (0 : Int32))))), .val (.ref b16), .val (.int (1 : Int32)), .val (.int (1 : Int32)), .val (.int ((1 : Int32) - (1 : Int32))), .val (.int (0 : Int32)), .val (.int (0 : Int32))] [(.ref b16)])) _
          refine st79.trans ?_
          exact k)
        have hd82 : (((0 : Int32) + (1 : Int32)) - (((0 : Int32) + (1 : Int32)) + (1 : Int32))) = (((1 : Int32) - (1 : Int32)) - (1 : Int32)) := by
          decide
        obtain ⟨cq83, kq83, q83a, q83b, q83c⟩ := isOf hZ e79 r74_0
        obtain ⟨_, _, ⟨T83, L83, k83, n83⟩, -, X83, ⟨Lc83, hQ83, l83, y83, z83⟩, st83⟩ := X79.virtualBack hx (y := (⟨"com/example/shieldwall/shieldwall/engine/MoraleState", "lostInARow", "()I"⟩ : MethodName)) (z := (⟨"com/example/shieldwall/shieldwall/engine/MoraleState", "lostInARow", "()I"⟩ : MethodName)) hown (mvT hZ (hW 32 _ rfl)) (mvT hZ (hW 33 _ rfl)) (notFace_of_selects (args := #[]) (mvT hZ (hW 35 _ rfl))) (mvT hZ (hW 35 _ rfl)) (mvT hZ (hW 34 _ rfl)) (by decide) (backOf (W := 0) (rm6 l Z a0 hw [] b16 ((0 : Int32) + (1 : Int32)) T74.heap n0 z78 r74_6) hZ (hW 36 _ rfl) (hW 2 _ rfl) (by decide) (by decide)) q83a q83c (g := (mkF m 150 #[.val (.int p0_0), .val (.int p0_1), .val (.int (bI (¬ ((p0_1 &&& (1 : Int32)) = (0 : Int32))))), .val (.int (bI (¬ ((p0_1 &&& (2 : Int32)) = (0 : Int32))))), .val (.int (bI (¬ ((p0_1 &&& (4 : Int32)) = (0 : Int32))))), .val (.ref b16), .val (.int (1 : Int32)), .val (.int (1 : Int32)), .val (.int ((1 : Int32) - (1 : Int32))), .val (.int (0 : Int32)), .val (.int (0 : Int32))] [(.ref b16)])) rfl (by rw [hml]; rfl) (Steps.refl _) (argsL := []) (rest := []) (lenOf pd_2 rfl) rfl (by show 2 * 0 + _ ≤ _; exact Nat.le_of_eq rfl) (hb hby at_150) (fun _ _ => ⟨rfl, e79, (by decide : 1 + 0 ≤ _), (by decide : 7 + 0 ≤ _)⟩)
        dsimp only [Pt.U, Pt.locs, Pt.cells, Pt.slots] at X83 l83 y83 z83 st83 hQ83
        subst l83 y83 z83
        obtain ⟨rfl, N83q, e83⟩ := hQ83
        have N84 := Fr.app N80 N83q
        have pre85 : ∀ t, Steps p.tables e below (T83.setTop (mkF m 153 #[.val (.int p0_0), .val (.int p0_1), .val (.int (bI (¬ ((p0_1 &&& (1 : Int32)) = (0 : Int32))))), .val (.int (bI (¬ ((p0_1 &&& (2 : Int32)) = (0 : Int32))))), .val (.int (bI (¬ ((p0_1 &&& (4 : Int32)) = (0 : Int32))))), .val (.ref b16), .val (.int (1 : Int32)), .val (.int (1 : Int32)), .val (.int ((1 : Int32) - (1 : Int32))), .val (.int (0 : Int32)), .val (.int (0 : Int32))] [(.int ((0 : Int32) + (1 : Int32)))])) t → Steps p.tables e below (s₁.setTop (entryFrame m #[(.int p0_0), (.int p0_1)] maxLocals)) t := fun t k => pre81 t (by
          show Steps p.tables e below (T79.setTop (mkF m 141 #[.val (.int p0_0), .val (.int p0_1), .val (.int (bI (¬ ((p0_1 &&& (1 : Int32)) = (0 : Int32))))), .val (.int (bI (¬ ((p0_1 &&& (2 : Int32)) = (0 : Int32))))), .val (.int (bI (¬ ((p0_1 &&& (4 : Int32)) = (0 : Int32))))), .val (.ref b16), .val (.int (1 : Int32)), .val (.int (1 : Int32)), .val (.int ((1 : Int32) - (1 : Int32))), .val (.int (0 : Int32)), .val (.int (0 : Int32))] [(.int (((0 : Int32) + (1 : Int32)) - (((0 : Int32) + (1 : Int32)) + (1 : Int32))))])) _
          refine XS.iload X79.here hx rfl (hb hby at_141) rfl ?_
          show Steps p.tables e below (T79.setTop (mkF m 143 #[.val (.int p0_0), .val (.int p0_1), .val (.int (bI (¬ ((p0_1 &&& (1 : Int32)) = (0 : Int32))))), .val (.int (bI (¬ ((p0_1 &&& (2 : Int32)) = (0 : Int32))))), .val (.int (bI (¬ ((p0_1 &&& (4 : Int32)) = (0 : Int32))))), .val (.ref b16), .val (.int (1 : Int32)), .val (.int (1 : Int32)), .val (.int ((1 : Int32) - (1 : Int32))), .val (.int (0 : Int32)), .val (.int (0 : Int32))] [(.int ((1 : Int32) - (1 : Int32))), (.int (((0 : Int32) + (1 : Int32)) - (((0 : Int32) + (1 : Int32)) + (1 : Int32))))])) _
          refine XS.iconst X79.here hx rfl (hb hby at_143) ?_
          show Steps p.tables e below (T79.setTop (mkF m 144 #[.val (.int p0_0), .val (.int p0_1), .val (.int (bI (¬ ((p0_1 &&& (1 : Int32)) = (0 : Int32))))), .val (.int (bI (¬ ((p0_1 &&& (2 : Int32)) = (0 : Int32))))), .val (.int (bI (¬ ((p0_1 &&& (4 : Int32)) = (0 : Int32))))), .val (.ref b16), .val (.int (1 : Int32)), .val (.int (1 : Int32)), .val (.int ((1 : Int32) - (1 : Int32))), .val (.int (0 : Int32)), .val (.int (0 : Int32))] [(.int (1 : Int32)), (.int ((1 : Int32) - (1 : Int32))), (.int (((0 : Int32) + (1 : Int32)) - (((0 : Int32) + (1 : Int32)) + (1 : Int32))))])) _
          refine XS.isub X79.here hx rfl (hb hby at_144) rfl ?_
          show Steps p.tables e below (T79.setTop (mkF m 145 #[.val (.int p0_0), .val (.int p0_1), .val (.int (bI (¬ ((p0_1 &&& (1 : Int32)) = (0 : Int32))))), .val (.int (bI (¬ ((p0_1 &&& (2 : Int32)) = (0 : Int32))))), .val (.int (bI (¬ ((p0_1 &&& (4 : Int32)) = (0 : Int32))))), .val (.ref b16), .val (.int (1 : Int32)), .val (.int (1 : Int32)), .val (.int ((1 : Int32) - (1 : Int32))), .val (.int (0 : Int32)), .val (.int (0 : Int32))] [(.int (((1 : Int32) - (1 : Int32)) - (1 : Int32))), (.int (((0 : Int32) + (1 : Int32)) - (((0 : Int32) + (1 : Int32)) + (1 : Int32))))])) _
          refine XS.icmpNo X79.here hx rfl (hb hby at_145) rfl (teq hd82).2 ?_
          show Steps p.tables e below (T79.setTop (mkF m 148 #[.val (.int p0_0), .val (.int p0_1), .val (.int (bI (¬ ((p0_1 &&& (1 : Int32)) = (0 : Int32))))), .val (.int (bI (¬ ((p0_1 &&& (2 : Int32)) = (0 : Int32))))), .val (.int (bI (¬ ((p0_1 &&& (4 : Int32)) = (0 : Int32))))), .val (.ref b16), .val (.int (1 : Int32)), .val (.int (1 : Int32)), .val (.int ((1 : Int32) - (1 : Int32))), .val (.int (0 : Int32)), .val (.int (0 : Int32))] [])) _
          refine XS.aload X79.here hx rfl (hb hby at_148) rfl rfl ?_
          show Steps p.tables e below (T79.setTop (mkF m 150 #[.val (.int p0_0), .val (.int p0_1), .val (.int (bI (¬ ((p0_1 &&& (1 : Int32)) = (0 : Int32))))), .val (.int (bI (¬ ((p0_1 &&& (2 : Int32)) = (0 : Int32))))), .val (.int (bI (¬ ((p0_1 &&& (4 : Int32)) = (0 : Int32))))), .val (.ref b16), .val (.int (1 : Int32)), .val (.int (1 : Int32)), .val (.int ((1 : Int32) - (1 : Int32))), .val (.int (0 : Int32)), .val (.int (0 : Int32))] [(.ref b16)])) _
          refine st83.trans ?_
          exact k)
        obtain ⟨cq86, kq86, q86a, q86b, q86c⟩ := isOf hZ e83 r74_0
        obtain ⟨_, _, ⟨T86, L86, k86, n86⟩, -, X86, ⟨Lc86, hQ86, l86, y86, z86⟩, st86⟩ := X83.virtualBack hx (y := (⟨"com/example/shieldwall/shieldwall/engine/MoraleState", "routs", "()I"⟩ : MethodName)) (z := (⟨"com/example/shieldwall/shieldwall/engine/MoraleState", "routs", "()I"⟩ : MethodName)) hown (mvT hZ (hW 37 _ rfl)) (mvT hZ (hW 38 _ rfl)) (notFace_of_selects (args := #[]) (mvT hZ (hW 40 _ rfl))) (mvT hZ (hW 40 _ rfl)) (mvT hZ (hW 39 _ rfl)) (by decide) (backOf (W := 0) (rm7 l Z a0 hw [] b16 (0 : Int32) T74.heap n0 z78 r74_3) hZ (hW 41 _ rfl) (hW 2 _ rfl) (by decide) (by decide)) q86a q86c (g := (mkF m 162 #[.val (.int p0_0), .val (.int p0_1), .val (.int (bI (¬ ((p0_1 &&& (1 : Int32)) = (0 : Int32))))), .val (.int (bI (¬ ((p0_1 &&& (2 : Int32)) = (0 : Int32))))), .val (.int (bI (¬ ((p0_1 &&& (4 : Int32)) = (0 : Int32))))), .val (.ref b16), .val (.int (1 : Int32)), .val (.int (1 : Int32)), .val (.int ((1 : Int32) - (1 : Int32))), .val (.int (0 : Int32)), .val (.int (0 : Int32))] [(.ref b16)])) rfl (by rw [hml]; rfl) (Steps.refl _) (argsL := []) (rest := []) (lenOf pd_2 rfl) rfl (by show 2 * 0 + _ ≤ _; exact Nat.le_of_eq rfl) (hb hby at_162) (fun _ _ => ⟨rfl, e83, (by decide : 1 + 0 ≤ _), (by decide : 7 + 0 ≤ _)⟩)
        dsimp only [Pt.U, Pt.locs, Pt.cells, Pt.slots] at X86 l86 y86 z86 st86 hQ86
        subst l86 y86 z86
        obtain ⟨rfl, N86q, e86⟩ := hQ86
        have N87 := Fr.app N84 N86q
        have pre88 : ∀ t, Steps p.tables e below (T86.setTop (mkF m 165 #[.val (.int p0_0), .val (.int p0_1), .val (.int (bI (¬ ((p0_1 &&& (1 : Int32)) = (0 : Int32))))), .val (.int (bI (¬ ((p0_1 &&& (2 : Int32)) = (0 : Int32))))), .val (.int (bI (¬ ((p0_1 &&& (4 : Int32)) = (0 : Int32))))), .val (.ref b16), .val (.int (1 : Int32)), .val (.int (1 : Int32)), .val (.int ((1 : Int32) - (1 : Int32))), .val (.int (0 : Int32)), .val (.int (0 : Int32))] [(.int (0 : Int32))])) t → Steps p.tables e below (s₁.setTop (entryFrame m #[(.int p0_0), (.int p0_1)] maxLocals)) t := fun t k => pre85 t (by
          show Steps p.tables e below (T83.setTop (mkF m 153 #[.val (.int p0_0), .val (.int p0_1), .val (.int (bI (¬ ((p0_1 &&& (1 : Int32)) = (0 : Int32))))), .val (.int (bI (¬ ((p0_1 &&& (2 : Int32)) = (0 : Int32))))), .val (.int (bI (¬ ((p0_1 &&& (4 : Int32)) = (0 : Int32))))), .val (.ref b16), .val (.int (1 : Int32)), .val (.int (1 : Int32)), .val (.int ((1 : Int32) - (1 : Int32))), .val (.int (0 : Int32)), .val (.int (0 : Int32))] [(.int ((0 : Int32) + (1 : Int32)))])) _
          refine XS.iload X83.here hx rfl (hb hby at_153) rfl ?_
          show Steps p.tables e below (T83.setTop (mkF m 155 #[.val (.int p0_0), .val (.int p0_1), .val (.int (bI (¬ ((p0_1 &&& (1 : Int32)) = (0 : Int32))))), .val (.int (bI (¬ ((p0_1 &&& (2 : Int32)) = (0 : Int32))))), .val (.int (bI (¬ ((p0_1 &&& (4 : Int32)) = (0 : Int32))))), .val (.ref b16), .val (.int (1 : Int32)), .val (.int (1 : Int32)), .val (.int ((1 : Int32) - (1 : Int32))), .val (.int (0 : Int32)), .val (.int (0 : Int32))] [(.int (0 : Int32)), (.int ((0 : Int32) + (1 : Int32)))])) _
          refine XS.iconst X83.here hx rfl (hb hby at_155) ?_
          show Steps p.tables e below (T83.setTop (mkF m 156 #[.val (.int p0_0), .val (.int p0_1), .val (.int (bI (¬ ((p0_1 &&& (1 : Int32)) = (0 : Int32))))), .val (.int (bI (¬ ((p0_1 &&& (2 : Int32)) = (0 : Int32))))), .val (.int (bI (¬ ((p0_1 &&& (4 : Int32)) = (0 : Int32))))), .val (.ref b16), .val (.int (1 : Int32)), .val (.int (1 : Int32)), .val (.int ((1 : Int32) - (1 : Int32))), .val (.int (0 : Int32)), .val (.int (0 : Int32))] [(.int (1 : Int32)), (.int (0 : Int32)), (.int ((0 : Int32) + (1 : Int32)))])) _
          refine XS.iadd X83.here hx rfl (hb hby at_156) rfl ?_
          show Steps p.tables e below (T83.setTop (mkF m 157 #[.val (.int p0_0), .val (.int p0_1), .val (.int (bI (¬ ((p0_1 &&& (1 : Int32)) = (0 : Int32))))), .val (.int (bI (¬ ((p0_1 &&& (2 : Int32)) = (0 : Int32))))), .val (.int (bI (¬ ((p0_1 &&& (4 : Int32)) = (0 : Int32))))), .val (.ref b16), .val (.int (1 : Int32)), .val (.int (1 : Int32)), .val (.int ((1 : Int32) - (1 : Int32))), .val (.int (0 : Int32)), .val (.int (0 : Int32))] [(.int ((0 : Int32) + (1 : Int32))), (.int ((0 : Int32) + (1 : Int32)))])) _
          refine XS.icmpNo X83.here hx rfl (hb hby at_157) rfl (teq (rfl : ((0 : Int32) + (1 : Int32)) = ((0 : Int32) + (1 : Int32)))).2 ?_
          show Steps p.tables e below (T83.setTop (mkF m 160 #[.val (.int p0_0), .val (.int p0_1), .val (.int (bI (¬ ((p0_1 &&& (1 : Int32)) = (0 : Int32))))), .val (.int (bI (¬ ((p0_1 &&& (2 : Int32)) = (0 : Int32))))), .val (.int (bI (¬ ((p0_1 &&& (4 : Int32)) = (0 : Int32))))), .val (.ref b16), .val (.int (1 : Int32)), .val (.int (1 : Int32)), .val (.int ((1 : Int32) - (1 : Int32))), .val (.int (0 : Int32)), .val (.int (0 : Int32))] [])) _
          refine XS.aload X83.here hx rfl (hb hby at_160) rfl rfl ?_
          show Steps p.tables e below (T83.setTop (mkF m 162 #[.val (.int p0_0), .val (.int p0_1), .val (.int (bI (¬ ((p0_1 &&& (1 : Int32)) = (0 : Int32))))), .val (.int (bI (¬ ((p0_1 &&& (2 : Int32)) = (0 : Int32))))), .val (.int (bI (¬ ((p0_1 &&& (4 : Int32)) = (0 : Int32))))), .val (.ref b16), .val (.int (1 : Int32)), .val (.int (1 : Int32)), .val (.int ((1 : Int32) - (1 : Int32))), .val (.int (0 : Int32)), .val (.int (0 : Int32))] [(.ref b16)])) _
          refine st86.trans ?_
          exact k)
        obtain ⟨cq89, kq89, q89a, q89b, q89c⟩ := isOf hZ e86 r74_0
        obtain ⟨_, _, ⟨T89, L89, k89, n89⟩, -, X89, ⟨Lc89, hQ89, l89, y89, z89⟩, st89⟩ := X86.virtualBack hx (y := (⟨"com/example/shieldwall/shieldwall/engine/MoraleState", "routing", "()Z"⟩ : MethodName)) (z := (⟨"com/example/shieldwall/shieldwall/engine/MoraleState", "routing", "()Z"⟩ : MethodName)) hown (mvT hZ (hW 44 _ rfl)) (mvT hZ (hW 45 _ rfl)) (notFace_of_selects (args := #[]) (mvT hZ (hW 47 _ rfl))) (mvT hZ (hW 47 _ rfl)) (mvT hZ (hW 46 _ rfl)) (by decide) (backOf (W := 0) (rm8 l Z a0 hw [] b16 (0 : Int32) T74.heap n0 z78 r74_4) hZ (hW 48 _ rfl) (hW 2 _ rfl) (by decide) (by decide)) q89a q89c (g := (mkF m 172 #[.val (.int p0_0), .val (.int p0_1), .val (.int (bI (¬ ((p0_1 &&& (1 : Int32)) = (0 : Int32))))), .val (.int (bI (¬ ((p0_1 &&& (2 : Int32)) = (0 : Int32))))), .val (.int (bI (¬ ((p0_1 &&& (4 : Int32)) = (0 : Int32))))), .val (.ref b16), .val (.int (1 : Int32)), .val (.int (1 : Int32)), .val (.int ((1 : Int32) - (1 : Int32))), .val (.int (0 : Int32)), .val (.int (0 : Int32))] [(.ref b16)])) rfl (by rw [hml]; rfl) (Steps.refl _) (argsL := []) (rest := []) (lenOf pd_3 rfl) rfl (by show 2 * 0 + _ ≤ _; exact Nat.le_of_eq rfl) (hb hby at_172) (fun _ _ => ⟨rfl, e86, (by decide : 1 + 0 ≤ _), (by decide : 7 + 0 ≤ _)⟩)
        dsimp only [Pt.U, Pt.locs, Pt.cells, Pt.slots] at X89 l89 y89 z89 st89 hQ89
        subst l89 y89 z89
        obtain ⟨rfl, N89q, e89⟩ := hQ89
        have N90 := Fr.app N87 N89q
        have pre91 : ∀ t, Steps p.tables e below (T89.setTop (mkF m 175 #[.val (.int p0_0), .val (.int p0_1), .val (.int (bI (¬ ((p0_1 &&& (1 : Int32)) = (0 : Int32))))), .val (.int (bI (¬ ((p0_1 &&& (2 : Int32)) = (0 : Int32))))), .val (.int (bI (¬ ((p0_1 &&& (4 : Int32)) = (0 : Int32))))), .val (.ref b16), .val (.int (1 : Int32)), .val (.int (1 : Int32)), .val (.int ((1 : Int32) - (1 : Int32))), .val (.int (0 : Int32)), .val (.int (0 : Int32))] [(.int (nar .boolean (0 : Int32)))])) t → Steps p.tables e below (s₁.setTop (entryFrame m #[(.int p0_0), (.int p0_1)] maxLocals)) t := fun t k => pre88 t (by
          show Steps p.tables e below (T86.setTop (mkF m 165 #[.val (.int p0_0), .val (.int p0_1), .val (.int (bI (¬ ((p0_1 &&& (1 : Int32)) = (0 : Int32))))), .val (.int (bI (¬ ((p0_1 &&& (2 : Int32)) = (0 : Int32))))), .val (.int (bI (¬ ((p0_1 &&& (4 : Int32)) = (0 : Int32))))), .val (.ref b16), .val (.int (1 : Int32)), .val (.int (1 : Int32)), .val (.int ((1 : Int32) - (1 : Int32))), .val (.int (0 : Int32)), .val (.int (0 : Int32))] [(.int (0 : Int32))])) _
          refine XS.iload X86.here hx rfl (hb hby at_165) rfl ?_
          show Steps p.tables e below (T86.setTop (mkF m 167 #[.val (.int p0_0), .val (.int p0_1), .val (.int (bI (¬ ((p0_1 &&& (1 : Int32)) = (0 : Int32))))), .val (.int (bI (¬ ((p0_1 &&& (2 : Int32)) = (0 : Int32))))), .val (.int (bI (¬ ((p0_1 &&& (4 : Int32)) = (0 : Int32))))), .val (.ref b16), .val (.int (1 : Int32)), .val (.int (1 : Int32)), .val (.int ((1 : Int32) - (1 : Int32))), .val (.int (0 : Int32)), .val (.int (0 : Int32))] [(.int (0 : Int32)), (.int (0 : Int32))])) _
          refine XS.icmpNo X86.here hx rfl (hb hby at_167) rfl (teq (by decide : (0 : Int32) = (0 : Int32))).2 ?_
          show Steps p.tables e below (T86.setTop (mkF m 170 #[.val (.int p0_0), .val (.int p0_1), .val (.int (bI (¬ ((p0_1 &&& (1 : Int32)) = (0 : Int32))))), .val (.int (bI (¬ ((p0_1 &&& (2 : Int32)) = (0 : Int32))))), .val (.int (bI (¬ ((p0_1 &&& (4 : Int32)) = (0 : Int32))))), .val (.ref b16), .val (.int (1 : Int32)), .val (.int (1 : Int32)), .val (.int ((1 : Int32) - (1 : Int32))), .val (.int (0 : Int32)), .val (.int (0 : Int32))] [])) _
          refine XS.aload X86.here hx rfl (hb hby at_170) rfl rfl ?_
          show Steps p.tables e below (T86.setTop (mkF m 172 #[.val (.int p0_0), .val (.int p0_1), .val (.int (bI (¬ ((p0_1 &&& (1 : Int32)) = (0 : Int32))))), .val (.int (bI (¬ ((p0_1 &&& (2 : Int32)) = (0 : Int32))))), .val (.int (bI (¬ ((p0_1 &&& (4 : Int32)) = (0 : Int32))))), .val (.ref b16), .val (.int (1 : Int32)), .val (.int (1 : Int32)), .val (.int ((1 : Int32) - (1 : Int32))), .val (.int (0 : Int32)), .val (.int (0 : Int32))] [(.ref b16)])) _
          refine st89.trans ?_
          exact k)
        have hd92 : (nar .boolean (0 : Int32)) = (bI (¬ ((p0_1 &&& (4 : Int32)) = (0 : Int32)))) := by
          rw [bI_f hc45]
          rfl
        obtain ⟨cq93, kq93, q93a, q93b, q93c⟩ := isOf hZ e89 r74_0
        obtain ⟨_, _, ⟨T93, L93, k93, n93⟩, -, X93, ⟨Lc93, hQ93, l93, y93, z93⟩, st93⟩ := X89.virtualBack hx (y := (⟨"com/example/shieldwall/shieldwall/engine/MoraleState", "startStrength", "()I"⟩ : MethodName)) (z := (⟨"com/example/shieldwall/shieldwall/engine/MoraleState", "startStrength", "()I"⟩ : MethodName)) hown (mvT hZ (hW 51 _ rfl)) (mvT hZ (hW 52 _ rfl)) (notFace_of_selects (args := #[]) (mvT hZ (hW 54 _ rfl))) (mvT hZ (hW 54 _ rfl)) (mvT hZ (hW 53 _ rfl)) (by decide) (backOf (W := 0) (rm9 l Z a0 hw [] b16 p0_0 T74.heap n0 z78 r74_1) hZ (hW 55 _ rfl) (hW 2 _ rfl) (by decide) (by decide)) q93a q93c (g := (mkF m 182 #[.val (.int p0_0), .val (.int p0_1), .val (.int (bI (¬ ((p0_1 &&& (1 : Int32)) = (0 : Int32))))), .val (.int (bI (¬ ((p0_1 &&& (2 : Int32)) = (0 : Int32))))), .val (.int (bI (¬ ((p0_1 &&& (4 : Int32)) = (0 : Int32))))), .val (.ref b16), .val (.int (1 : Int32)), .val (.int (1 : Int32)), .val (.int ((1 : Int32) - (1 : Int32))), .val (.int (0 : Int32)), .val (.int (0 : Int32))] [(.ref b16)])) rfl (by rw [hml]; rfl) (Steps.refl _) (argsL := []) (rest := []) (lenOf pd_2 rfl) rfl (by show 2 * 0 + _ ≤ _; exact Nat.le_of_eq rfl) (hb hby at_182) (fun _ _ => ⟨rfl, e89, (by decide : 1 + 0 ≤ _), (by decide : 7 + 0 ≤ _)⟩)
        dsimp only [Pt.U, Pt.locs, Pt.cells, Pt.slots] at X93 l93 y93 z93 st93 hQ93
        subst l93 y93 z93
        obtain ⟨rfl, N93q, e93⟩ := hQ93
        have N94 := Fr.app N90 N93q
        have pre95 : ∀ t, Steps p.tables e below (T93.setTop (mkF m 185 #[.val (.int p0_0), .val (.int p0_1), .val (.int (bI (¬ ((p0_1 &&& (1 : Int32)) = (0 : Int32))))), .val (.int (bI (¬ ((p0_1 &&& (2 : Int32)) = (0 : Int32))))), .val (.int (bI (¬ ((p0_1 &&& (4 : Int32)) = (0 : Int32))))), .val (.ref b16), .val (.int (1 : Int32)), .val (.int (1 : Int32)), .val (.int ((1 : Int32) - (1 : Int32))), .val (.int (0 : Int32)), .val (.int (0 : Int32))] [(.int p0_0)])) t → Steps p.tables e below (s₁.setTop (entryFrame m #[(.int p0_0), (.int p0_1)] maxLocals)) t := fun t k => pre91 t (by
          show Steps p.tables e below (T89.setTop (mkF m 175 #[.val (.int p0_0), .val (.int p0_1), .val (.int (bI (¬ ((p0_1 &&& (1 : Int32)) = (0 : Int32))))), .val (.int (bI (¬ ((p0_1 &&& (2 : Int32)) = (0 : Int32))))), .val (.int (bI (¬ ((p0_1 &&& (4 : Int32)) = (0 : Int32))))), .val (.ref b16), .val (.int (1 : Int32)), .val (.int (1 : Int32)), .val (.int ((1 : Int32) - (1 : Int32))), .val (.int (0 : Int32)), .val (.int (0 : Int32))] [(.int (nar .boolean (0 : Int32)))])) _
          refine XS.iload X89.here hx rfl (hb hby at_175) rfl ?_
          show Steps p.tables e below (T89.setTop (mkF m 177 #[.val (.int p0_0), .val (.int p0_1), .val (.int (bI (¬ ((p0_1 &&& (1 : Int32)) = (0 : Int32))))), .val (.int (bI (¬ ((p0_1 &&& (2 : Int32)) = (0 : Int32))))), .val (.int (bI (¬ ((p0_1 &&& (4 : Int32)) = (0 : Int32))))), .val (.ref b16), .val (.int (1 : Int32)), .val (.int (1 : Int32)), .val (.int ((1 : Int32) - (1 : Int32))), .val (.int (0 : Int32)), .val (.int (0 : Int32))] [(.int (bI (¬ ((p0_1 &&& (4 : Int32)) = (0 : Int32))))), (.int (nar .boolean (0 : Int32)))])) _
          refine XS.icmpNo X89.here hx rfl (hb hby at_177) rfl (teq hd92).2 ?_
          show Steps p.tables e below (T89.setTop (mkF m 180 #[.val (.int p0_0), .val (.int p0_1), .val (.int (bI (¬ ((p0_1 &&& (1 : Int32)) = (0 : Int32))))), .val (.int (bI (¬ ((p0_1 &&& (2 : Int32)) = (0 : Int32))))), .val (.int (bI (¬ ((p0_1 &&& (4 : Int32)) = (0 : Int32))))), .val (.ref b16), .val (.int (1 : Int32)), .val (.int (1 : Int32)), .val (.int ((1 : Int32) - (1 : Int32))), .val (.int (0 : Int32)), .val (.int (0 : Int32))] [])) _
          refine XS.aload X89.here hx rfl (hb hby at_180) rfl rfl ?_
          show Steps p.tables e below (T89.setTop (mkF m 182 #[.val (.int p0_0), .val (.int p0_1), .val (.int (bI (¬ ((p0_1 &&& (1 : Int32)) = (0 : Int32))))), .val (.int (bI (¬ ((p0_1 &&& (2 : Int32)) = (0 : Int32))))), .val (.int (bI (¬ ((p0_1 &&& (4 : Int32)) = (0 : Int32))))), .val (.ref b16), .val (.int (1 : Int32)), .val (.int (1 : Int32)), .val (.int ((1 : Int32) - (1 : Int32))), .val (.int (0 : Int32)), .val (.int (0 : Int32))] [(.ref b16)])) _
          refine st93.trans ?_
          exact k)
        obtain ⟨fs, hr, hrun, hended, hW, hsame⟩ := X93.leave (v := some (.int (1 : Int32))) (fun h => by rw [Bd.returns] at h; cases h)
        refine ⟨_, _, pre95 _ ?_, hrun, hended, _, _, rfl, ?_, ⟨_, rfl⟩, hW, hsame.mono (by decide) (by decide)⟩
        · show Steps p.tables e below (T93.setTop (mkF m 185 #[.val (.int p0_0), .val (.int p0_1), .val (.int (bI (¬ ((p0_1 &&& (1 : Int32)) = (0 : Int32))))), .val (.int (bI (¬ ((p0_1 &&& (2 : Int32)) = (0 : Int32))))), .val (.int (bI (¬ ((p0_1 &&& (4 : Int32)) = (0 : Int32))))), .val (.ref b16), .val (.int (1 : Int32)), .val (.int (1 : Int32)), .val (.int ((1 : Int32) - (1 : Int32))), .val (.int (0 : Int32)), .val (.int (0 : Int32))] [(.int p0_0)])) _
          refine XS.iloadN X93.here hx rfl (hb hby at_185) rfl ?_
          show Steps p.tables e below (T93.setTop (mkF m 186 #[.val (.int p0_0), .val (.int p0_1), .val (.int (bI (¬ ((p0_1 &&& (1 : Int32)) = (0 : Int32))))), .val (.int (bI (¬ ((p0_1 &&& (2 : Int32)) = (0 : Int32))))), .val (.int (bI (¬ ((p0_1 &&& (4 : Int32)) = (0 : Int32))))), .val (.ref b16), .val (.int (1 : Int32)), .val (.int (1 : Int32)), .val (.int ((1 : Int32) - (1 : Int32))), .val (.int (0 : Int32)), .val (.int (0 : Int32))] [(.int p0_0), (.int p0_0)])) _
          refine XS.icmpNo X93.here hx rfl (hb hby at_186) rfl (teq (rfl : p0_0 = p0_0)).2 ?_
          show Steps p.tables e below (T93.setTop (mkF m 189 #[.val (.int p0_0), .val (.int p0_1), .val (.int (bI (¬ ((p0_1 &&& (1 : Int32)) = (0 : Int32))))), .val (.int (bI (¬ ((p0_1 &&& (2 : Int32)) = (0 : Int32))))), .val (.int (bI (¬ ((p0_1 &&& (4 : Int32)) = (0 : Int32))))), .val (.ref b16), .val (.int (1 : Int32)), .val (.int (1 : Int32)), .val (.int ((1 : Int32) - (1 : Int32))), .val (.int (0 : Int32)), .val (.int (0 : Int32))] [])) _
          refine XS.iconst X93.here hx rfl (hb hby at_189) ?_
          show Steps p.tables e below (T93.setTop (mkF m 190 #[.val (.int p0_0), .val (.int p0_1), .val (.int (bI (¬ ((p0_1 &&& (1 : Int32)) = (0 : Int32))))), .val (.int (bI (¬ ((p0_1 &&& (2 : Int32)) = (0 : Int32))))), .val (.int (bI (¬ ((p0_1 &&& (4 : Int32)) = (0 : Int32))))), .val (.ref b16), .val (.int (1 : Int32)), .val (.int (1 : Int32)), .val (.int ((1 : Int32) - (1 : Int32))), .val (.int (0 : Int32)), .val (.int (0 : Int32))] [(.int (1 : Int32))])) _
          refine XS.goto X93.here hx rfl (pc0 := 190) (pc' := 194) rfl (hb hby at_190) (by decide) (by decide) ?_
          show Steps p.tables e below (T93.setTop (mkF m 194 #[.val (.int p0_0), .val (.int p0_1), .val (.int (bI (¬ ((p0_1 &&& (1 : Int32)) = (0 : Int32))))), .val (.int (bI (¬ ((p0_1 &&& (2 : Int32)) = (0 : Int32))))), .val (.int (bI (¬ ((p0_1 &&& (4 : Int32)) = (0 : Int32))))), .val (.ref b16), .val (.int (1 : Int32)), .val (.int (1 : Int32)), .val (.int ((1 : Int32) - (1 : Int32))), .val (.int (0 : Int32)), .val (.int (0 : Int32))] [(.int (1 : Int32))])) _
          exact retN X93 hx (t := .boolean) Bd.returns (by simp) (hb hby at_194) hr
        · show Q0 Z p0_0 p0_1 h0 n0 _ T93.heap _
          rw [e93]
          exact ⟨rfl, N94⟩
    · by_cases hc97 : ¬ ((p0_1 &&& (4 : Int32)) = (0 : Int32))
      · obtain ⟨cq98, kq98, q98a, q98b, q98c⟩ := isOf hZ rfl r32_0
        obtain ⟨_, _, ⟨T98, L98, k98, n98⟩, -, X98, ⟨Lc98, hQ98, l98, y98, z98⟩, st98⟩ := X32.virtualBack hx (y := (⟨"com/example/shieldwall/shieldwall/engine/MoraleState", "routed", "()V"⟩ : MethodName)) (z := (⟨"com/example/shieldwall/shieldwall/engine/MoraleState", "routed", "()V"⟩ : MethodName)) hown (mvT hZ (hW 56 _ rfl)) (mvT hZ (hW 57 _ rfl)) (notFace_of_selects (args := #[]) (mvT hZ (hW 59 _ rfl))) (mvT hZ (hW 59 _ rfl)) (mvT hZ (hW 58 _ rfl)) (by decide) (backOf (W := 0) (rm10 l Z a0 hw [] b16 (0 : Int32) p0_0 ((0 : Int32) + (1 : Int32)) ((0 : Int32) + (1 : Int32)) (0 : Int32) (0 : Int32) T32.heap n0 z36 r32_3 r32_0 r32_1 r32_5 r32_6 r32_2 r32_4 gz16) hZ (hW 60 _ rfl) (hW 2 _ rfl) (by decide) (by decide)) q98a q98c (g := (mkF m 72 #[.val (.int p0_0), .val (.int p0_1), .val (.int (bI (¬ ((p0_1 &&& (1 : Int32)) = (0 : Int32))))), .val (.int (bI (¬ ((p0_1 &&& (2 : Int32)) = (0 : Int32))))), .val (.int (bI (¬ ((p0_1 &&& (4 : Int32)) = (0 : Int32))))), .val (.ref b16), .unset, .unset, .unset, .unset, .unset] [(.ref b16)])) rfl (by rw [hml]; rfl) (Steps.refl _) (argsL := []) (rest := []) (lenOf pd_1 rfl) rfl (by show 2 * 0 + _ ≤ _; exact Nat.le_of_eq rfl) (hb hby at_72) (fun _ _ => ⟨rfl, rfl, (by decide : 1 + 0 ≤ _), (by decide : 7 + 0 ≤ _)⟩)
        dsimp only [Pt.U, Pt.locs, Pt.cells, Pt.slots] at X98 l98 y98 z98 st98 hQ98
        subst l98 y98 z98
        obtain ⟨rfl, N98q, K98, r98_0, r98_1, r98_2, r98_3, r98_4, r98_5, r98_6⟩ := hQ98
        have N99 := Fr.app N33 N98q
        have pre100 : ∀ t, Steps p.tables e below (T98.setTop (mkF m 75 #[.val (.int p0_0), .val (.int p0_1), .val (.int (bI (¬ ((p0_1 &&& (1 : Int32)) = (0 : Int32))))), .val (.int (bI (¬ ((p0_1 &&& (2 : Int32)) = (0 : Int32))))), .val (.int (bI (¬ ((p0_1 &&& (4 : Int32)) = (0 : Int32))))), .val (.ref b16), .unset, .unset, .unset, .unset, .unset] [])) t → Steps p.tables e below (s₁.setTop (entryFrame m #[(.int p0_0), (.int p0_1)] maxLocals)) t := fun t k => pre34 t (by
          show Steps p.tables e below (T32.setTop (mkF m 56 #[.val (.int p0_0), .val (.int p0_1), .val (.int (bI (¬ ((p0_1 &&& (1 : Int32)) = (0 : Int32))))), .val (.int (bI (¬ ((p0_1 &&& (2 : Int32)) = (0 : Int32))))), .val (.int (bI (¬ ((p0_1 &&& (4 : Int32)) = (0 : Int32))))), .val (.ref b16), .unset, .unset, .unset, .unset, .unset] [])) _
          refine XS.iloadN X32.here hx rfl (hb hby at_56) rfl ?_
          show Steps p.tables e below (T32.setTop (mkF m 57 #[.val (.int p0_0), .val (.int p0_1), .val (.int (bI (¬ ((p0_1 &&& (1 : Int32)) = (0 : Int32))))), .val (.int (bI (¬ ((p0_1 &&& (2 : Int32)) = (0 : Int32))))), .val (.int (bI (¬ ((p0_1 &&& (4 : Int32)) = (0 : Int32))))), .val (.ref b16), .unset, .unset, .unset, .unset, .unset] [(.int (bI (¬ ((p0_1 &&& (2 : Int32)) = (0 : Int32)))))])) _
          refine XS.ifYes X32.here hx rfl (pc0 := 57) (pc' := 65) rfl (hb hby at_57) rfl ((if0 _ _).trans (teq (bI_f hc38)).1) (by decide) (by decide) ?_
          show Steps p.tables e below (T32.setTop (mkF m 65 #[.val (.int p0_0), .val (.int p0_1), .val (.int (bI (¬ ((p0_1 &&& (1 : Int32)) = (0 : Int32))))), .val (.int (bI (¬ ((p0_1 &&& (2 : Int32)) = (0 : Int32))))), .val (.int (bI (¬ ((p0_1 &&& (4 : Int32)) = (0 : Int32))))), .val (.ref b16), .unset, .unset, .unset, .unset, .unset] [])) _
          refine XS.iload X32.here hx rfl (hb hby at_65) rfl ?_
          show Steps p.tables e below (T32.setTop (mkF m 67 #[.val (.int p0_0), .val (.int p0_1), .val (.int (bI (¬ ((p0_1 &&& (1 : Int32)) = (0 : Int32))))), .val (.int (bI (¬ ((p0_1 &&& (2 : Int32)) = (0 : Int32))))), .val (.int (bI (¬ ((p0_1 &&& (4 : Int32)) = (0 : Int32))))), .val (.ref b16), .unset, .unset, .unset, .unset, .unset] [(.int (bI (¬ ((p0_1 &&& (4 : Int32)) = (0 : Int32)))))])) _
          refine XS.ifNo X32.here hx rfl (hb hby at_67) rfl ((if0 _ _).trans (feq (bI_n hc97)).1) ?_
          show Steps p.tables e below (T32.setTop (mkF m 70 #[.val (.int p0_0), .val (.int p0_1), .val (.int (bI (¬ ((p0_1 &&& (1 : Int32)) = (0 : Int32))))), .val (.int (bI (¬ ((p0_1 &&& (2 : Int32)) = (0 : Int32))))), .val (.int (bI (¬ ((p0_1 &&& (4 : Int32)) = (0 : Int32))))), .val (.ref b16), .unset, .unset, .unset, .unset, .unset] [])) _
          refine XS.aload X32.here hx rfl (hb hby at_70) rfl rfl ?_
          show Steps p.tables e below (T32.setTop (mkF m 72 #[.val (.int p0_0), .val (.int p0_1), .val (.int (bI (¬ ((p0_1 &&& (1 : Int32)) = (0 : Int32))))), .val (.int (bI (¬ ((p0_1 &&& (2 : Int32)) = (0 : Int32))))), .val (.int (bI (¬ ((p0_1 &&& (4 : Int32)) = (0 : Int32))))), .val (.ref b16), .unset, .unset, .unset, .unset, .unset] [(.ref b16)])) _
          refine st98.trans ?_
          exact k)
        have f101 := r32_0.keep K98
        have z102 := Nat.le_trans z36 K98.1
        obtain ⟨cq103, kq103, q103a, q103b, q103c⟩ := isOf hZ rfl r98_0
        obtain ⟨_, _, ⟨T103, L103, k103, n103⟩, -, X103, ⟨Lc103, hQ103, l103, y103, z103⟩, st103⟩ := X98.virtualBack hx (y := (⟨"com/example/shieldwall/shieldwall/engine/MoraleState", "lost", "()V"⟩ : MethodName)) (z := (⟨"com/example/shieldwall/shieldwall/engine/MoraleState", "lost", "()V"⟩ : MethodName)) hown (mvT hZ (hW 11 _ rfl)) (mvT hZ (hW 12 _ rfl)) (notFace_of_selects (args := #[]) (mvT hZ (hW 14 _ rfl))) (mvT hZ (hW 14 _ rfl)) (mvT hZ (hW 13 _ rfl)) (by decide) (backOf (W := 0) (rm3 l Z a0 hw [] b16 ((0 : Int32) + (1 : Int32)) p0_0 ((0 : Int32) + (1 : Int32)) (0 : Int32) ((0 : Int32) - (1 : Int32)) (1 : Int32) T98.heap n0 z102 r98_2 r98_0 r98_1 r98_3 r98_4 r98_5 r98_6 gz16) hZ (hW 15 _ rfl) (hW 2 _ rfl) (by decide) (by decide)) q103a q103c (g := (mkF m 133 #[.val (.int p0_0), .val (.int p0_1), .val (.int (bI (¬ ((p0_1 &&& (1 : Int32)) = (0 : Int32))))), .val (.int (bI (¬ ((p0_1 &&& (2 : Int32)) = (0 : Int32))))), .val (.int (bI (¬ ((p0_1 &&& (4 : Int32)) = (0 : Int32))))), .val (.ref b16), .val (.int (1 : Int32)), .val (.int (0 : Int32)), .val (.int ((0 : Int32) - (1 : Int32))), .val (.int (1 : Int32)), .val (.int (-1 : Int32))] [(.ref b16)])) rfl (by rw [hml]; rfl) (Steps.refl _) (argsL := []) (rest := []) (lenOf pd_1 rfl) rfl (by show 2 * 0 + _ ≤ _; exact Nat.le_of_eq rfl) (hb hby at_133) (fun _ _ => ⟨rfl, rfl, (by decide : 1 + 0 ≤ _), (by decide : 7 + 0 ≤ _)⟩)
        dsimp only [Pt.U, Pt.locs, Pt.cells, Pt.slots] at X103 l103 y103 z103 st103 hQ103
        subst l103 y103 z103
        obtain ⟨rfl, N103q, K103, r103_0, r103_1, r103_2, r103_3, r103_4, r103_5, r103_6⟩ := hQ103
        have N104 := Fr.app N99 N103q
        have pre105 : ∀ t, Steps p.tables e below (T103.setTop (mkF m 136 #[.val (.int p0_0), .val (.int p0_1), .val (.int (bI (¬ ((p0_1 &&& (1 : Int32)) = (0 : Int32))))), .val (.int (bI (¬ ((p0_1 &&& (2 : Int32)) = (0 : Int32))))), .val (.int (bI (¬ ((p0_1 &&& (4 : Int32)) = (0 : Int32))))), .val (.ref b16), .val (.int (1 : Int32)), .val (.int (0 : Int32)), .val (.int ((0 : Int32) - (1 : Int32))), .val (.int (1 : Int32)), .val (.int (-1 : Int32))] [])) t → Steps p.tables e below (s₁.setTop (entryFrame m #[(.int p0_0), (.int p0_1)] maxLocals)) t := fun t k => pre100 t (by
          show Steps p.tables e below (T98.setTop (mkF m 75 #[.val (.int p0_0), .val (.int p0_1), .val (.int (bI (¬ ((p0_1 &&& (1 : Int32)) = (0 : Int32))))), .val (.int (bI (¬ ((p0_1 &&& (2 : Int32)) = (0 : Int32))))), .val (.int (bI (¬ ((p0_1 &&& (4 : Int32)) = (0 : Int32))))), .val (.ref b16), .unset, .unset, .unset, .unset, .unset] [])) _
          refine XS.iloadN X98.here hx rfl (hb hby at_75) rfl ?_
          show Steps p.tables e below (T98.setTop (mkF m 76 #[.val (.int p0_0), .val (.int p0_1), .val (.int (bI (¬ ((p0_1 &&& (1 : Int32)) = (0 : Int32))))), .val (.int (bI (¬ ((p0_1 &&& (2 : Int32)) = (0 : Int32))))), .val (.int (bI (¬ ((p0_1 &&& (4 : Int32)) = (0 : Int32))))), .val (.ref b16), .unset, .unset, .unset, .unset, .unset] [(.int (bI (¬ ((p0_1 &&& (1 : Int32)) = (0 : Int32)))))])) _
          refine XS.ifNo X98.here hx rfl (hb hby at_76) rfl ((if0 _ _).trans (feq (bI_n hc31)).1) ?_
          show Steps p.tables e below (T98.setTop (mkF m 79 #[.val (.int p0_0), .val (.int p0_1), .val (.int (bI (¬ ((p0_1 &&& (1 : Int32)) = (0 : Int32))))), .val (.int (bI (¬ ((p0_1 &&& (2 : Int32)) = (0 : Int32))))), .val (.int (bI (¬ ((p0_1 &&& (4 : Int32)) = (0 : Int32))))), .val (.ref b16), .unset, .unset, .unset, .unset, .unset] [])) _
          refine XS.iconst X98.here hx rfl (hb hby at_79) ?_
          show Steps p.tables e below (T98.setTop (mkF m 80 #[.val (.int p0_0), .val (.int p0_1), .val (.int (bI (¬ ((p0_1 &&& (1 : Int32)) = (0 : Int32))))), .val (.int (bI (¬ ((p0_1 &&& (2 : Int32)) = (0 : Int32))))), .val (.int (bI (¬ ((p0_1 &&& (4 : Int32)) = (0 : Int32))))), .val (.ref b16), .unset, .unset, .unset, .unset, .unset] [(.int (1 : Int32))])) _
          refine XS.goto X98.here hx rfl (pc0 := 80) (pc' := 84) rfl (hb hby at_80) (by decide) (by decide) ?_
          show Steps p.tables e below (T98.setTop (mkF m 84 #[.val (.int p0_0), .val (.int p0_1), .val (.int (bI (¬ ((p0_1 &&& (1 : Int32)) = (0 : Int32))))), .val (.int (bI (¬ ((p0_1 &&& (2 : Int32)) = (0 : Int32))))), .val (.int (bI (¬ ((p0_1 &&& (4 : Int32)) = (0 : Int32))))), .val (.ref b16), .unset, .unset, .unset, .unset, .unset] [(.int (1 : Int32))])) _
          refine XS.istore X98.here hx rfl (hb hby at_84) rfl (l' := #[.val (.int p0_0), .val (.int p0_1), .val (.int (bI (¬ ((p0_1 &&& (1 : Int32)) = (0 : Int32))))), .val (.int (bI (¬ ((p0_1 &&& (2 : Int32)) = (0 : Int32))))), .val (.int (bI (¬ ((p0_1 &&& (4 : Int32)) = (0 : Int32))))), .val (.ref b16), .val (.int (1 : Int32)), .unset, .unset, .unset, .unset]) rfl ?_
          show Steps p.tables e below (T98.setTop (mkF m 86 #[.val (.int p0_0), .val (.int p0_1), .val (.int (bI (¬ ((p0_1 &&& (1 : Int32)) = (0 : Int32))))), .val (.int (bI (¬ ((p0_1 &&& (2 : Int32)) = (0 : Int32))))), .val (.int (bI (¬ ((p0_1 &&& (4 : Int32)) = (0 : Int32))))), .val (.ref b16), .val (.int (1 : Int32)), .unset, .unset, .unset, .unset] [])) _
          refine XS.iloadN X98.here hx rfl (hb hby at_86) rfl ?_
          show Steps p.tables e below (T98.setTop (mkF m 87 #[.val (.int p0_0), .val (.int p0_1), .val (.int (bI (¬ ((p0_1 &&& (1 : Int32)) = (0 : Int32))))), .val (.int (bI (¬ ((p0_1 &&& (2 : Int32)) = (0 : Int32))))), .val (.int (bI (¬ ((p0_1 &&& (4 : Int32)) = (0 : Int32))))), .val (.ref b16), .val (.int (1 : Int32)), .unset, .unset, .unset, .unset] [(.int (bI (¬ ((p0_1 &&& (2 : Int32)) = (0 : Int32)))))])) _
          refine XS.ifYes X98.here hx rfl (pc0 := 87) (pc' := 94) rfl (hb hby at_87) rfl ((if0 _ _).trans (teq (bI_f hc38)).1) (by decide) (by decide) ?_
          show Steps p.tables e below (T98.setTop (mkF m 94 #[.val (.int p0_0), .val (.int p0_1), .val (.int (bI (¬ ((p0_1 &&& (1 : Int32)) = (0 : Int32))))), .val (.int (bI (¬ ((p0_1 &&& (2 : Int32)) = (0 : Int32))))), .val (.int (bI (¬ ((p0_1 &&& (4 : Int32)) = (0 : Int32))))), .val (.ref b16), .val (.int (1 : Int32)), .unset, .unset, .unset, .unset] [])) _
          refine XS.iconst X98.here hx rfl (hb hby at_94) ?_
          show Steps p.tables e below (T98.setTop (mkF m 95 #[.val (.int p0_0), .val (.int p0_1), .val (.int (bI (¬ ((p0_1 &&& (1 : Int32)) = (0 : Int32))))), .val (.int (bI (¬ ((p0_1 &&& (2 : Int32)) = (0 : Int32))))), .val (.int (bI (¬ ((p0_1 &&& (4 : Int32)) = (0 : Int32))))), .val (.ref b16), .val (.int (1 : Int32)), .unset, .unset, .unset, .unset] [(.int (0 : Int32))])) _
          refine XS.istore X98.here hx rfl (hb hby at_95) rfl (l' := #[.val (.int p0_0), .val (.int p0_1), .val (.int (bI (¬ ((p0_1 &&& (1 : Int32)) = (0 : Int32))))), .val (.int (bI (¬ ((p0_1 &&& (2 : Int32)) = (0 : Int32))))), .val (.int (bI (¬ ((p0_1 &&& (4 : Int32)) = (0 : Int32))))), .val (.ref b16), .val (.int (1 : Int32)), .val (.int (0 : Int32)), .unset, .unset, .unset]) rfl ?_
          show Steps p.tables e below (T98.setTop (mkF m 97 #[.val (.int p0_0), .val (.int p0_1), .val (.int (bI (¬ ((p0_1 &&& (1 : Int32)) = (0 : Int32))))), .val (.int (bI (¬ ((p0_1 &&& (2 : Int32)) = (0 : Int32))))), .val (.int (bI (¬ ((p0_1 &&& (4 : Int32)) = (0 : Int32))))), .val (.ref b16), .val (.int (1 : Int32)), .val (.int (0 : Int32)), .unset, .unset, .unset] [])) _
          refine XS.iload X98.here hx rfl (hb hby at_97) rfl ?_
          show Steps p.tables e below (T98.setTop (mkF m 99 #[.val (.int p0_0), .val (.int p0_1), .val (.int (bI (¬ ((p0_1 &&& (1 : Int32)) = (0 : Int32))))), .val (.int (bI (¬ ((p0_1 &&& (2 : Int32)) = (0 : Int32))))), .val (.int (bI (¬ ((p0_1 &&& (4 : Int32)) = (0 : Int32))))), .val (.ref b16), .val (.int (1 : Int32)), .val (.int (0 : Int32)), .unset, .unset, .unset] [(.int (0 : Int32))])) _
          refine XS.iload X98.here hx rfl (hb hby at_99) rfl ?_
          show Steps p.tables e below (T98.setTop (mkF m 101 #[.val (.int p0_0), .val (.int p0_1), .val (.int (bI (¬ ((p0_1 &&& (1 : Int32)) = (0 : Int32))))), .val (.int (bI (¬ ((p0_1 &&& (2 : Int32)) = (0 : Int32))))), .val (.int (bI (¬ ((p0_1 &&& (4 : Int32)) = (0 : Int32))))), .val (.ref b16), .val (.int (1 : Int32)), .val (.int (0 : Int32)), .unset, .unset, .unset] [(.int (1 : Int32)), (.int (0 : Int32))])) _
          refine XS.isub X98.here hx rfl (hb hby at_101) rfl ?_
          show Steps p.tables e below (T98.setTop (mkF m 102 #[.val (.int p0_0), .val (.int p0_1), .val (.int (bI (¬ ((p0_1 &&& (1 : Int32)) = (0 : Int32))))), .val (.int (bI (¬ ((p0_1 &&& (2 : Int32)) = (0 : Int32))))), .val (.int (bI (¬ ((p0_1 &&& (4 : Int32)) = (0 : Int32))))), .val (.ref b16), .val (.int (1 : Int32)), .val (.int (0 : Int32)), .unset, .unset, .unset] [(.int ((0 : Int32) - (1 : Int32)))])) _
          refine XS.istore X98.here hx rfl (hb hby at_102) rfl (l' := #[.val (.int p0_0), .val (.int p0_1), .val (.int (bI (¬ ((p0_1 &&& (1 : Int32)) = (0 : Int32))))), .val (.int (bI (¬ ((p0_1 &&& (2 : Int32)) = (0 : Int32))))), .val (.int (bI (¬ ((p0_1 &&& (4 : Int32)) = (0 : Int32))))), .val (.ref b16), .val (.int (1 : Int32)), .val (.int (0 : Int32)), .val (.int ((0 : Int32) - (1 : Int32))), .unset, .unset]) rfl ?_
          show Steps p.tables e below (T98.setTop (mkF m 104 #[.val (.int p0_0), .val (.int p0_1), .val (.int (bI (¬ ((p0_1 &&& (1 : Int32)) = (0 : Int32))))), .val (.int (bI (¬ ((p0_1 &&& (2 : Int32)) = (0 : Int32))))), .val (.int (bI (¬ ((p0_1 &&& (4 : Int32)) = (0 : Int32))))), .val (.ref b16), .val (.int (1 : Int32)), .val (.int (0 : Int32)), .val (.int ((0 : Int32) - (1 : Int32))), .unset, .unset] [])) _
          refine XS.iloadN X98.here hx rfl (hb hby at_104) rfl ?_
          show Steps p.tables e below (T98.setTop (mkF m 105 #[.val (.int p0_0), .val (.int p0_1), .val (.int (bI (¬ ((p0_1 &&& (1 : Int32)) = (0 : Int32))))), .val (.int (bI (¬ ((p0_1 &&& (2 : Int32)) = (0 : Int32))))), .val (.int (bI (¬ ((p0_1 &&& (4 : Int32)) = (0 : Int32))))), .val (.ref b16), .val (.int (1 : Int32)), .val (.int (0 : Int32)), .val (.int ((0 : Int32) - (1 : Int32))), .unset, .unset] [(.int (bI (¬ ((p0_1 &&& (1 : Int32)) = (0 : Int32)))))])) _
          refine XS.ifNo X98.here hx rfl (hb hby at_105) rfl ((if0 _ _).trans (feq (bI_n hc31)).1) ?_
          show Steps p.tables e below (T98.setTop (mkF m 108 #[.val (.int p0_0), .val (.int p0_1), .val (.int (bI (¬ ((p0_1 &&& (1 : Int32)) = (0 : Int32))))), .val (.int (bI (¬ ((p0_1 &&& (2 : Int32)) = (0 : Int32))))), .val (.int (bI (¬ ((p0_1 &&& (4 : Int32)) = (0 : Int32))))), .val (.ref b16), .val (.int (1 : Int32)), .val (.int (0 : Int32)), .val (.int ((0 : Int32) - (1 : Int32))), .unset, .unset] [])) _
          refine XS.iloadN X98.here hx rfl (hb hby at_108) rfl ?_
          show Steps p.tables e below (T98.setTop (mkF m 109 #[.val (.int p0_0), .val (.int p0_1), .val (.int (bI (¬ ((p0_1 &&& (1 : Int32)) = (0 : Int32))))), .val (.int (bI (¬ ((p0_1 &&& (2 : Int32)) = (0 : Int32))))), .val (.int (bI (¬ ((p0_1 &&& (4 : Int32)) = (0 : Int32))))), .val (.ref b16), .val (.int (1 : Int32)), .val (.int (0 : Int32)), .val (.int ((0 : Int32) - (1 : Int32))), .unset, .unset] [(.int (bI (¬ ((p0_1 &&& (2 : Int32)) = (0 : Int32)))))])) _
          refine XS.ifNo X98.here hx rfl (hb hby at_109) rfl ((if0 _ _).trans (teq (bI_f hc38)).2) ?_
          show Steps p.tables e below (T98.setTop (mkF m 112 #[.val (.int p0_0), .val (.int p0_1), .val (.int (bI (¬ ((p0_1 &&& (1 : Int32)) = (0 : Int32))))), .val (.int (bI (¬ ((p0_1 &&& (2 : Int32)) = (0 : Int32))))), .val (.int (bI (¬ ((p0_1 &&& (4 : Int32)) = (0 : Int32))))), .val (.ref b16), .val (.int (1 : Int32)), .val (.int (0 : Int32)), .val (.int ((0 : Int32) - (1 : Int32))), .unset, .unset] [])) _
          refine XS.iconst X98.here hx rfl (hb hby at_112) ?_
          show Steps p.tables e below (T98.setTop (mkF m 113 #[.val (.int p0_0), .val (.int p0_1), .val (.int (bI (¬ ((p0_1 &&& (1 : Int32)) = (0 : Int32))))), .val (.int (bI (¬ ((p0_1 &&& (2 : Int32)) = (0 : Int32))))), .val (.int (bI (¬ ((p0_1 &&& (4 : Int32)) = (0 : Int32))))), .val (.ref b16), .val (.int (1 : Int32)), .val (.int (0 : Int32)), .val (.int ((0 : Int32) - (1 : Int32))), .unset, .unset] [(.int (1 : Int32))])) _
          refine XS.goto X98.here hx rfl (pc0 := 113) (pc' := 117) rfl (hb hby at_113) (by decide) (by decide) ?_
          show Steps p.tables e below (T98.setTop (mkF m 117 #[.val (.int p0_0), .val (.int p0_1), .val (.int (bI (¬ ((p0_1 &&& (1 : Int32)) = (0 : Int32))))), .val (.int (bI (¬ ((p0_1 &&& (2 : Int32)) = (0 : Int32))))), .val (.int (bI (¬ ((p0_1 &&& (4 : Int32)) = (0 : Int32))))), .val (.ref b16), .val (.int (1 : Int32)), .val (.int (0 : Int32)), .val (.int ((0 : Int32) - (1 : Int32))), .unset, .unset] [(.int (1 : Int32))])) _
          refine XS.istore X98.here hx rfl (hb hby at_117) rfl (l' := #[.val (.int p0_0), .val (.int p0_1), .val (.int (bI (¬ ((p0_1 &&& (1 : Int32)) = (0 : Int32))))), .val (.int (bI (¬ ((p0_1 &&& (2 : Int32)) = (0 : Int32))))), .val (.int (bI (¬ ((p0_1 &&& (4 : Int32)) = (0 : Int32))))), .val (.ref b16), .val (.int (1 : Int32)), .val (.int (0 : Int32)), .val (.int ((0 : Int32) - (1 : Int32))), .val (.int (1 : Int32)), .unset]) rfl ?_
          show Steps p.tables e below (T98.setTop (mkF m 119 #[.val (.int p0_0), .val (.int p0_1), .val (.int (bI (¬ ((p0_1 &&& (1 : Int32)) = (0 : Int32))))), .val (.int (bI (¬ ((p0_1 &&& (2 : Int32)) = (0 : Int32))))), .val (.int (bI (¬ ((p0_1 &&& (4 : Int32)) = (0 : Int32))))), .val (.ref b16), .val (.int (1 : Int32)), .val (.int (0 : Int32)), .val (.int ((0 : Int32) - (1 : Int32))), .val (.int (1 : Int32)), .unset] [])) _
          refine XS.iload X98.here hx rfl (hb hby at_119) rfl ?_
          show Steps p.tables e below (T98.setTop (mkF m 121 #[.val (.int p0_0), .val (.int p0_1), .val (.int (bI (¬ ((p0_1 &&& (1 : Int32)) = (0 : Int32))))), .val (.int (bI (¬ ((p0_1 &&& (2 : Int32)) = (0 : Int32))))), .val (.int (bI (¬ ((p0_1 &&& (4 : Int32)) = (0 : Int32))))), .val (.ref b16), .val (.int (1 : Int32)), .val (.int (0 : Int32)), .val (.int ((0 : Int32) - (1 : Int32))), .val (.int (1 : Int32)), .unset] [(.int (bI (¬ ((p0_1 &&& (4 : Int32)) = (0 : Int32)))))])) _
          refine XS.ifNo X98.here hx rfl (hb hby at_121) rfl ((if0 _ _).trans (feq (bI_n hc97)).1) ?_
          show Steps p.tables e below (T98.setTop (mkF m 124 #[.val (.int p0_0), .val (.int p0_1), .val (.int (bI (¬ ((p0_1 &&& (1 : Int32)) = (0 : Int32))))), .val (.int (bI (¬ ((p0_1 &&& (2 : Int32)) = (0 : Int32))))), .val (.int (bI (¬ ((p0_1 &&& (4 : Int32)) = (0 : Int32))))), .val (.ref b16), .val (.int (1 : Int32)), .val (.int (0 : Int32)), .val (.int ((0 : Int32) - (1 : Int32))), .val (.int (1 : Int32)), .unset] [])) _
          refine XS.iconst X98.here hx rfl (hb hby at_124) ?_
          show Steps p.tables e below (T98.setTop (mkF m 125 #[.val (.int p0_0), .val (.int p0_1), .val (.int (bI (¬ ((p0_1 &&& (1 : Int32)) = (0 : Int32))))), .val (.int (bI (¬ ((p0_1 &&& (2 : Int32)) = (0 : Int32))))), .val (.int (bI (¬ ((p0_1 &&& (4 : Int32)) = (0 : Int32))))), .val (.ref b16), .val (.int (1 : Int32)), .val (.int (0 : Int32)), .val (.int ((0 : Int32) - (1 : Int32))), .val (.int (1 : Int32)), .unset] [(.int (-1 : Int32))])) _
          refine XS.goto X98.here hx rfl (pc0 := 125) (pc' := 129) rfl (hb hby at_125) (by decide) (by decide) ?_
          show Steps p.tables e below (T98.setTop (mkF m 129 #[.val (.int p0_0), .val (.int p0_1), .val (.int (bI (¬ ((p0_1 &&& (1 : Int32)) = (0 : Int32))))), .val (.int (bI (¬ ((p0_1 &&& (2 : Int32)) = (0 : Int32))))), .val (.int (bI (¬ ((p0_1 &&& (4 : Int32)) = (0 : Int32))))), .val (.ref b16), .val (.int (1 : Int32)), .val (.int (0 : Int32)), .val (.int ((0 : Int32) - (1 : Int32))), .val (.int (1 : Int32)), .unset] [(.int (-1 : Int32))])) _
          refine XS.istore X98.here hx rfl (hb hby at_129) rfl (l' := #[.val (.int p0_0), .val (.int p0_1), .val (.int (bI (¬ ((p0_1 &&& (1 : Int32)) = (0 : Int32))))), .val (.int (bI (¬ ((p0_1 &&& (2 : Int32)) = (0 : Int32))))), .val (.int (bI (¬ ((p0_1 &&& (4 : Int32)) = (0 : Int32))))), .val (.ref b16), .val (.int (1 : Int32)), .val (.int (0 : Int32)), .val (.int ((0 : Int32) - (1 : Int32))), .val (.int (1 : Int32)), .val (.int (-1 : Int32))]) rfl ?_
          show Steps p.tables e below (T98.setTop (mkF m 131 #[.val (.int p0_0), .val (.int p0_1), .val (.int (bI (¬ ((p0_1 &&& (1 : Int32)) = (0 : Int32))))), .val (.int (bI (¬ ((p0_1 &&& (2 : Int32)) = (0 : Int32))))), .val (.int (bI (¬ ((p0_1 &&& (4 : Int32)) = (0 : Int32))))), .val (.ref b16), .val (.int (1 : Int32)), .val (.int (0 : Int32)), .val (.int ((0 : Int32) - (1 : Int32))), .val (.int (1 : Int32)), .val (.int (-1 : Int32))] [])) _
          refine XS.aload X98.here hx rfl (hb hby at_131) rfl rfl ?_
          show Steps p.tables e below (T98.setTop (mkF m 133 #[.val (.int p0_0), .val (.int p0_1), .val (.int (bI (¬ ((p0_1 &&& (1 : Int32)) = (0 : Int32))))), .val (.int (bI (¬ ((p0_1 &&& (2 : Int32)) = (0 : Int32))))), .val (.int (bI (¬ ((p0_1 &&& (4 : Int32)) = (0 : Int32))))), .val (.ref b16), .val (.int (1 : Int32)), .val (.int (0 : Int32)), .val (.int ((0 : Int32) - (1 : Int32))), .val (.int (1 : Int32)), .val (.int (-1 : Int32))] [(.ref b16)])) _
          refine st103.trans ?_
          exact k)
        have f106 := r98_0.keep K103
        have z107 := Nat.le_trans z102 K103.1
        obtain ⟨cq108, kq108, q108a, q108b, q108c⟩ := isOf hZ rfl r103_0
        obtain ⟨_, _, ⟨T108, L108, k108, n108⟩, -, X108, ⟨Lc108, hQ108, l108, y108, z108⟩, st108⟩ := X103.virtualBack hx (y := (⟨"com/example/shieldwall/shieldwall/engine/MoraleState", "battles", "()I"⟩ : MethodName)) (z := (⟨"com/example/shieldwall/shieldwall/engine/MoraleState", "battles", "()I"⟩ : MethodName)) hown (mvT hZ (hW 27 _ rfl)) (mvT hZ (hW 28 _ rfl)) (notFace_of_selects (args := #[]) (mvT hZ (hW 30 _ rfl))) (mvT hZ (hW 30 _ rfl)) (mvT hZ (hW 29 _ rfl)) (by decide) (backOf (W := 0) (rm5 l Z a0 hw [] b16 (0 : Int32) (((0 : Int32) + (1 : Int32)) + (1 : Int32)) T103.heap n0 z107 r103_2 r103_5) hZ (hW 31 _ rfl) (hW 2 _ rfl) (by decide) (by decide)) q108a q108c (g := (mkF m 138 #[.val (.int p0_0), .val (.int p0_1), .val (.int (bI (¬ ((p0_1 &&& (1 : Int32)) = (0 : Int32))))), .val (.int (bI (¬ ((p0_1 &&& (2 : Int32)) = (0 : Int32))))), .val (.int (bI (¬ ((p0_1 &&& (4 : Int32)) = (0 : Int32))))), .val (.ref b16), .val (.int (1 : Int32)), .val (.int (0 : Int32)), .val (.int ((0 : Int32) - (1 : Int32))), .val (.int (1 : Int32)), .val (.int (-1 : Int32))] [(.ref b16)])) rfl (by rw [hml]; rfl) (Steps.refl _) (argsL := []) (rest := []) (lenOf pd_2 rfl) rfl (by show 2 * 0 + _ ≤ _; exact Nat.le_of_eq rfl) (hb hby at_138) (fun _ _ => ⟨rfl, rfl, (by decide : 1 + 0 ≤ _), (by decide : 7 + 0 ≤ _)⟩)
        dsimp only [Pt.U, Pt.locs, Pt.cells, Pt.slots] at X108 l108 y108 z108 st108 hQ108
        subst l108 y108 z108
        obtain ⟨rfl, N108q, e108⟩ := hQ108
        have N109 := Fr.app N104 N108q
        have pre110 : ∀ t, Steps p.tables e below (T108.setTop (mkF m 141 #[.val (.int p0_0), .val (.int p0_1), .val (.int (bI (¬ ((p0_1 &&& (1 : Int32)) = (0 : Int32))))), .val (.int (bI (¬ ((p0_1 &&& (2 : Int32)) = (0 : Int32))))), .val (.int (bI (¬ ((p0_1 &&& (4 : Int32)) = (0 : Int32))))), .val (.ref b16), .val (.int (1 : Int32)), .val (.int (0 : Int32)), .val (.int ((0 : Int32) - (1 : Int32))), .val (.int (1 : Int32)), .val (.int (-1 : Int32))] [(.int ((0 : Int32) - (((0 : Int32) + (1 : Int32)) + (1 : Int32))))])) t → Steps p.tables e below (s₁.setTop (entryFrame m #[(.int p0_0), (.int p0_1)] maxLocals)) t := fun t k => pre105 t (by
          show Steps p.tables e below (T103.setTop (mkF m 136 #[.val (.int p0_0), .val (.int p0_1), .val (.int (bI (¬ ((p0_1 &&& (1 : Int32)) = (0 : Int32))))), .val (.int (bI (¬ ((p0_1 &&& (2 : Int32)) = (0 : Int32))))), .val (.int (bI (¬ ((p0_1 &&& (4 : Int32)) = (0 : Int32))))), .val (.ref b16), .val (.int (1 : Int32)), .val (.int (0 : Int32)), .val (.int ((0 : Int32) - (1 : Int32))), .val (.int (1 : Int32)), .val (.int (-1 : Int32))] [])) _
          refine XS.aload X103.here hx rfl (hb hby at_136) rfl rfl ?_
          show Steps p.tables e below (T103.setTop (mkF m 138 #[.val (.int p0_0), .val (.int p0_1), .val (.int (bI (¬ ((p0_1 &&& (1 : Int32)) = (0 : Int32))))), .val (.int (bI (¬ ((p0_1 &&& (2 : Int32)) = (0 : Int32))))), .val (.int (bI (¬ ((p0_1 &&& (4 : Int32)) = (0 : Int32))))), .val (.ref b16), .val (.int (1 : Int32)), .val (.int (0 : Int32)), .val (.int ((0 : Int32) - (1 : Int32))), .val (.int (1 : Int32)), .val (.int (-1 : Int32))] [(.ref b16)])) _
          refine st108.trans ?_
          exact k)
        have hd111 : ((0 : Int32) - (((0 : Int32) + (1 : Int32)) + (1 : Int32))) = (((0 : Int32) - (1 : Int32)) - (1 : Int32)) := by
          decide
        obtain ⟨cq112, kq112, q112a, q112b, q112c⟩ := isOf hZ e108 r103_0
        obtain ⟨_, _, ⟨T112, L112, k112, n112⟩, -, X112, ⟨Lc112, hQ112, l112, y112, z112⟩, st112⟩ := X108.virtualBack hx (y := (⟨"com/example/shieldwall/shieldwall/engine/MoraleState", "lostInARow", "()I"⟩ : MethodName)) (z := (⟨"com/example/shieldwall/shieldwall/engine/MoraleState", "lostInARow", "()I"⟩ : MethodName)) hown (mvT hZ (hW 32 _ rfl)) (mvT hZ (hW 33 _ rfl)) (notFace_of_selects (args := #[]) (mvT hZ (hW 35 _ rfl))) (mvT hZ (hW 35 _ rfl)) (mvT hZ (hW 34 _ rfl)) (by decide) (backOf (W := 0) (rm6 l Z a0 hw [] b16 (((0 : Int32) + (1 : Int32)) + (1 : Int32)) T103.heap n0 z107 r103_6) hZ (hW 36 _ rfl) (hW 2 _ rfl) (by decide) (by decide)) q112a q112c (g := (mkF m 150 #[.val (.int p0_0), .val (.int p0_1), .val (.int (bI (¬ ((p0_1 &&& (1 : Int32)) = (0 : Int32))))), .val (.int (bI (¬ ((p0_1 &&& (2 : Int32)) = (0 : Int32))))), .val (.int (bI (¬ ((p0_1 &&& (4 : Int32)) = (0 : Int32))))), .val (.ref b16), .val (.int (1 : Int32)), .val (.int (0 : Int32)), .val (.int ((0 : Int32) - (1 : Int32))), .val (.int (1 : Int32)), .val (.int (-1 : Int32))] [(.ref b16)])) rfl (by rw [hml]; rfl) (Steps.refl _) (argsL := []) (rest := []) (lenOf pd_2 rfl) rfl (by show 2 * 0 + _ ≤ _; exact Nat.le_of_eq rfl) (hb hby at_150) (fun _ _ => ⟨rfl, e108, (by decide : 1 + 0 ≤ _), (by decide : 7 + 0 ≤ _)⟩)
        dsimp only [Pt.U, Pt.locs, Pt.cells, Pt.slots] at X112 l112 y112 z112 st112 hQ112
        subst l112 y112 z112
        obtain ⟨rfl, N112q, e112⟩ := hQ112
        have N113 := Fr.app N109 N112q
        have pre114 : ∀ t, Steps p.tables e below (T112.setTop (mkF m 153 #[.val (.int p0_0), .val (.int p0_1), .val (.int (bI (¬ ((p0_1 &&& (1 : Int32)) = (0 : Int32))))), .val (.int (bI (¬ ((p0_1 &&& (2 : Int32)) = (0 : Int32))))), .val (.int (bI (¬ ((p0_1 &&& (4 : Int32)) = (0 : Int32))))), .val (.ref b16), .val (.int (1 : Int32)), .val (.int (0 : Int32)), .val (.int ((0 : Int32) - (1 : Int32))), .val (.int (1 : Int32)), .val (.int (-1 : Int32))] [(.int (((0 : Int32) + (1 : Int32)) + (1 : Int32)))])) t → Steps p.tables e below (s₁.setTop (entryFrame m #[(.int p0_0), (.int p0_1)] maxLocals)) t := fun t k => pre110 t (by
          show Steps p.tables e below (T108.setTop (mkF m 141 #[.val (.int p0_0), .val (.int p0_1), .val (.int (bI (¬ ((p0_1 &&& (1 : Int32)) = (0 : Int32))))), .val (.int (bI (¬ ((p0_1 &&& (2 : Int32)) = (0 : Int32))))), .val (.int (bI (¬ ((p0_1 &&& (4 : Int32)) = (0 : Int32))))), .val (.ref b16), .val (.int (1 : Int32)), .val (.int (0 : Int32)), .val (.int ((0 : Int32) - (1 : Int32))), .val (.int (1 : Int32)), .val (.int (-1 : Int32))] [(.int ((0 : Int32) - (((0 : Int32) + (1 : Int32)) + (1 : Int32))))])) _
          refine XS.iload X108.here hx rfl (hb hby at_141) rfl ?_
          show Steps p.tables e below (T108.setTop (mkF m 143 #[.val (.int p0_0), .val (.int p0_1), .val (.int (bI (¬ ((p0_1 &&& (1 : Int32)) = (0 : Int32))))), .val (.int (bI (¬ ((p0_1 &&& (2 : Int32)) = (0 : Int32))))), .val (.int (bI (¬ ((p0_1 &&& (4 : Int32)) = (0 : Int32))))), .val (.ref b16), .val (.int (1 : Int32)), .val (.int (0 : Int32)), .val (.int ((0 : Int32) - (1 : Int32))), .val (.int (1 : Int32)), .val (.int (-1 : Int32))] [(.int ((0 : Int32) - (1 : Int32))), (.int ((0 : Int32) - (((0 : Int32) + (1 : Int32)) + (1 : Int32))))])) _
          refine XS.iconst X108.here hx rfl (hb hby at_143) ?_
          show Steps p.tables e below (T108.setTop (mkF m 144 #[.val (.int p0_0), .val (.int p0_1), .val (.int (bI (¬ ((p0_1 &&& (1 : Int32)) = (0 : Int32))))), .val (.int (bI (¬ ((p0_1 &&& (2 : Int32)) = (0 : Int32))))), .val (.int (bI (¬ ((p0_1 &&& (4 : Int32)) = (0 : Int32))))), .val (.ref b16), .val (.int (1 : Int32)), .val (.int (0 : Int32)), .val (.int ((0 : Int32) - (1 : Int32))), .val (.int (1 : Int32)), .val (.int (-1 : Int32))] [(.int (1 : Int32)), (.int ((0 : Int32) - (1 : Int32))), (.int ((0 : Int32) - (((0 : Int32) + (1 : Int32)) + (1 : Int32))))])) _
          refine XS.isub X108.here hx rfl (hb hby at_144) rfl ?_
          show Steps p.tables e below (T108.setTop (mkF m 145 #[.val (.int p0_0), .val (.int p0_1), .val (.int (bI (¬ ((p0_1 &&& (1 : Int32)) = (0 : Int32))))), .val (.int (bI (¬ ((p0_1 &&& (2 : Int32)) = (0 : Int32))))), .val (.int (bI (¬ ((p0_1 &&& (4 : Int32)) = (0 : Int32))))), .val (.ref b16), .val (.int (1 : Int32)), .val (.int (0 : Int32)), .val (.int ((0 : Int32) - (1 : Int32))), .val (.int (1 : Int32)), .val (.int (-1 : Int32))] [(.int (((0 : Int32) - (1 : Int32)) - (1 : Int32))), (.int ((0 : Int32) - (((0 : Int32) + (1 : Int32)) + (1 : Int32))))])) _
          refine XS.icmpNo X108.here hx rfl (hb hby at_145) rfl (teq hd111).2 ?_
          show Steps p.tables e below (T108.setTop (mkF m 148 #[.val (.int p0_0), .val (.int p0_1), .val (.int (bI (¬ ((p0_1 &&& (1 : Int32)) = (0 : Int32))))), .val (.int (bI (¬ ((p0_1 &&& (2 : Int32)) = (0 : Int32))))), .val (.int (bI (¬ ((p0_1 &&& (4 : Int32)) = (0 : Int32))))), .val (.ref b16), .val (.int (1 : Int32)), .val (.int (0 : Int32)), .val (.int ((0 : Int32) - (1 : Int32))), .val (.int (1 : Int32)), .val (.int (-1 : Int32))] [])) _
          refine XS.aload X108.here hx rfl (hb hby at_148) rfl rfl ?_
          show Steps p.tables e below (T108.setTop (mkF m 150 #[.val (.int p0_0), .val (.int p0_1), .val (.int (bI (¬ ((p0_1 &&& (1 : Int32)) = (0 : Int32))))), .val (.int (bI (¬ ((p0_1 &&& (2 : Int32)) = (0 : Int32))))), .val (.int (bI (¬ ((p0_1 &&& (4 : Int32)) = (0 : Int32))))), .val (.ref b16), .val (.int (1 : Int32)), .val (.int (0 : Int32)), .val (.int ((0 : Int32) - (1 : Int32))), .val (.int (1 : Int32)), .val (.int (-1 : Int32))] [(.ref b16)])) _
          refine st112.trans ?_
          exact k)
        have hd115 : (((0 : Int32) + (1 : Int32)) + (1 : Int32)) = ((1 : Int32) + (1 : Int32)) := by
          decide
        obtain ⟨cq116, kq116, q116a, q116b, q116c⟩ := isOf hZ e112 r103_0
        obtain ⟨_, _, ⟨T116, L116, k116, n116⟩, -, X116, ⟨Lc116, hQ116, l116, y116, z116⟩, st116⟩ := X112.virtualBack hx (y := (⟨"com/example/shieldwall/shieldwall/engine/MoraleState", "routs", "()I"⟩ : MethodName)) (z := (⟨"com/example/shieldwall/shieldwall/engine/MoraleState", "routs", "()I"⟩ : MethodName)) hown (mvT hZ (hW 37 _ rfl)) (mvT hZ (hW 38 _ rfl)) (notFace_of_selects (args := #[]) (mvT hZ (hW 40 _ rfl))) (mvT hZ (hW 40 _ rfl)) (mvT hZ (hW 39 _ rfl)) (by decide) (backOf (W := 0) (rm7 l Z a0 hw [] b16 ((0 : Int32) - (1 : Int32)) T103.heap n0 z107 r103_3) hZ (hW 41 _ rfl) (hW 2 _ rfl) (by decide) (by decide)) q116a q116c (g := (mkF m 162 #[.val (.int p0_0), .val (.int p0_1), .val (.int (bI (¬ ((p0_1 &&& (1 : Int32)) = (0 : Int32))))), .val (.int (bI (¬ ((p0_1 &&& (2 : Int32)) = (0 : Int32))))), .val (.int (bI (¬ ((p0_1 &&& (4 : Int32)) = (0 : Int32))))), .val (.ref b16), .val (.int (1 : Int32)), .val (.int (0 : Int32)), .val (.int ((0 : Int32) - (1 : Int32))), .val (.int (1 : Int32)), .val (.int (-1 : Int32))] [(.ref b16)])) rfl (by rw [hml]; rfl) (Steps.refl _) (argsL := []) (rest := []) (lenOf pd_2 rfl) rfl (by show 2 * 0 + _ ≤ _; exact Nat.le_of_eq rfl) (hb hby at_162) (fun _ _ => ⟨rfl, e112, (by decide : 1 + 0 ≤ _), (by decide : 7 + 0 ≤ _)⟩)
        dsimp only [Pt.U, Pt.locs, Pt.cells, Pt.slots] at X116 l116 y116 z116 st116 hQ116
        subst l116 y116 z116
        obtain ⟨rfl, N116q, e116⟩ := hQ116
        have N117 := Fr.app N113 N116q
        have pre118 : ∀ t, Steps p.tables e below (T116.setTop (mkF m 165 #[.val (.int p0_0), .val (.int p0_1), .val (.int (bI (¬ ((p0_1 &&& (1 : Int32)) = (0 : Int32))))), .val (.int (bI (¬ ((p0_1 &&& (2 : Int32)) = (0 : Int32))))), .val (.int (bI (¬ ((p0_1 &&& (4 : Int32)) = (0 : Int32))))), .val (.ref b16), .val (.int (1 : Int32)), .val (.int (0 : Int32)), .val (.int ((0 : Int32) - (1 : Int32))), .val (.int (1 : Int32)), .val (.int (-1 : Int32))] [(.int ((0 : Int32) - (1 : Int32)))])) t → Steps p.tables e below (s₁.setTop (entryFrame m #[(.int p0_0), (.int p0_1)] maxLocals)) t := fun t k => pre114 t (by
          show Steps p.tables e below (T112.setTop (mkF m 153 #[.val (.int p0_0), .val (.int p0_1), .val (.int (bI (¬ ((p0_1 &&& (1 : Int32)) = (0 : Int32))))), .val (.int (bI (¬ ((p0_1 &&& (2 : Int32)) = (0 : Int32))))), .val (.int (bI (¬ ((p0_1 &&& (4 : Int32)) = (0 : Int32))))), .val (.ref b16), .val (.int (1 : Int32)), .val (.int (0 : Int32)), .val (.int ((0 : Int32) - (1 : Int32))), .val (.int (1 : Int32)), .val (.int (-1 : Int32))] [(.int (((0 : Int32) + (1 : Int32)) + (1 : Int32)))])) _
          refine XS.iload X112.here hx rfl (hb hby at_153) rfl ?_
          show Steps p.tables e below (T112.setTop (mkF m 155 #[.val (.int p0_0), .val (.int p0_1), .val (.int (bI (¬ ((p0_1 &&& (1 : Int32)) = (0 : Int32))))), .val (.int (bI (¬ ((p0_1 &&& (2 : Int32)) = (0 : Int32))))), .val (.int (bI (¬ ((p0_1 &&& (4 : Int32)) = (0 : Int32))))), .val (.ref b16), .val (.int (1 : Int32)), .val (.int (0 : Int32)), .val (.int ((0 : Int32) - (1 : Int32))), .val (.int (1 : Int32)), .val (.int (-1 : Int32))] [(.int (1 : Int32)), (.int (((0 : Int32) + (1 : Int32)) + (1 : Int32)))])) _
          refine XS.iconst X112.here hx rfl (hb hby at_155) ?_
          show Steps p.tables e below (T112.setTop (mkF m 156 #[.val (.int p0_0), .val (.int p0_1), .val (.int (bI (¬ ((p0_1 &&& (1 : Int32)) = (0 : Int32))))), .val (.int (bI (¬ ((p0_1 &&& (2 : Int32)) = (0 : Int32))))), .val (.int (bI (¬ ((p0_1 &&& (4 : Int32)) = (0 : Int32))))), .val (.ref b16), .val (.int (1 : Int32)), .val (.int (0 : Int32)), .val (.int ((0 : Int32) - (1 : Int32))), .val (.int (1 : Int32)), .val (.int (-1 : Int32))] [(.int (1 : Int32)), (.int (1 : Int32)), (.int (((0 : Int32) + (1 : Int32)) + (1 : Int32)))])) _
          refine XS.iadd X112.here hx rfl (hb hby at_156) rfl ?_
          show Steps p.tables e below (T112.setTop (mkF m 157 #[.val (.int p0_0), .val (.int p0_1), .val (.int (bI (¬ ((p0_1 &&& (1 : Int32)) = (0 : Int32))))), .val (.int (bI (¬ ((p0_1 &&& (2 : Int32)) = (0 : Int32))))), .val (.int (bI (¬ ((p0_1 &&& (4 : Int32)) = (0 : Int32))))), .val (.ref b16), .val (.int (1 : Int32)), .val (.int (0 : Int32)), .val (.int ((0 : Int32) - (1 : Int32))), .val (.int (1 : Int32)), .val (.int (-1 : Int32))] [(.int ((1 : Int32) + (1 : Int32))), (.int (((0 : Int32) + (1 : Int32)) + (1 : Int32)))])) _
          refine XS.icmpNo X112.here hx rfl (hb hby at_157) rfl (teq hd115).2 ?_
          show Steps p.tables e below (T112.setTop (mkF m 160 #[.val (.int p0_0), .val (.int p0_1), .val (.int (bI (¬ ((p0_1 &&& (1 : Int32)) = (0 : Int32))))), .val (.int (bI (¬ ((p0_1 &&& (2 : Int32)) = (0 : Int32))))), .val (.int (bI (¬ ((p0_1 &&& (4 : Int32)) = (0 : Int32))))), .val (.ref b16), .val (.int (1 : Int32)), .val (.int (0 : Int32)), .val (.int ((0 : Int32) - (1 : Int32))), .val (.int (1 : Int32)), .val (.int (-1 : Int32))] [])) _
          refine XS.aload X112.here hx rfl (hb hby at_160) rfl rfl ?_
          show Steps p.tables e below (T112.setTop (mkF m 162 #[.val (.int p0_0), .val (.int p0_1), .val (.int (bI (¬ ((p0_1 &&& (1 : Int32)) = (0 : Int32))))), .val (.int (bI (¬ ((p0_1 &&& (2 : Int32)) = (0 : Int32))))), .val (.int (bI (¬ ((p0_1 &&& (4 : Int32)) = (0 : Int32))))), .val (.ref b16), .val (.int (1 : Int32)), .val (.int (0 : Int32)), .val (.int ((0 : Int32) - (1 : Int32))), .val (.int (1 : Int32)), .val (.int (-1 : Int32))] [(.ref b16)])) _
          refine st116.trans ?_
          exact k)
        have hd119 : ((0 : Int32) - (1 : Int32)) = (-1 : Int32) := by
          decide
        obtain ⟨cq120, kq120, q120a, q120b, q120c⟩ := isOf hZ e116 r103_0
        obtain ⟨_, _, ⟨T120, L120, k120, n120⟩, -, X120, ⟨Lc120, hQ120, l120, y120, z120⟩, st120⟩ := X116.virtualBack hx (y := (⟨"com/example/shieldwall/shieldwall/engine/MoraleState", "routing", "()Z"⟩ : MethodName)) (z := (⟨"com/example/shieldwall/shieldwall/engine/MoraleState", "routing", "()Z"⟩ : MethodName)) hown (mvT hZ (hW 44 _ rfl)) (mvT hZ (hW 45 _ rfl)) (notFace_of_selects (args := #[]) (mvT hZ (hW 47 _ rfl))) (mvT hZ (hW 47 _ rfl)) (mvT hZ (hW 46 _ rfl)) (by decide) (backOf (W := 0) (rm8 l Z a0 hw [] b16 (1 : Int32) T103.heap n0 z107 r103_4) hZ (hW 48 _ rfl) (hW 2 _ rfl) (by decide) (by decide)) q120a q120c (g := (mkF m 172 #[.val (.int p0_0), .val (.int p0_1), .val (.int (bI (¬ ((p0_1 &&& (1 : Int32)) = (0 : Int32))))), .val (.int (bI (¬ ((p0_1 &&& (2 : Int32)) = (0 : Int32))))), .val (.int (bI (¬ ((p0_1 &&& (4 : Int32)) = (0 : Int32))))), .val (.ref b16), .val (.int (1 : Int32)), .val (.int (0 : Int32)), .val (.int ((0 : Int32) - (1 : Int32))), .val (.int (1 : Int32)), .val (.int (-1 : Int32))] [(.ref b16)])) rfl (by rw [hml]; rfl) (Steps.refl _) (argsL := []) (rest := []) (lenOf pd_3 rfl) rfl (by show 2 * 0 + _ ≤ _; exact Nat.le_of_eq rfl) (hb hby at_172) (fun _ _ => ⟨rfl, e116, (by decide : 1 + 0 ≤ _), (by decide : 7 + 0 ≤ _)⟩)
        dsimp only [Pt.U, Pt.locs, Pt.cells, Pt.slots] at X120 l120 y120 z120 st120 hQ120
        subst l120 y120 z120
        obtain ⟨rfl, N120q, e120⟩ := hQ120
        have N121 := Fr.app N117 N120q
        have pre122 : ∀ t, Steps p.tables e below (T120.setTop (mkF m 175 #[.val (.int p0_0), .val (.int p0_1), .val (.int (bI (¬ ((p0_1 &&& (1 : Int32)) = (0 : Int32))))), .val (.int (bI (¬ ((p0_1 &&& (2 : Int32)) = (0 : Int32))))), .val (.int (bI (¬ ((p0_1 &&& (4 : Int32)) = (0 : Int32))))), .val (.ref b16), .val (.int (1 : Int32)), .val (.int (0 : Int32)), .val (.int ((0 : Int32) - (1 : Int32))), .val (.int (1 : Int32)), .val (.int (-1 : Int32))] [(.int (nar .boolean (1 : Int32)))])) t → Steps p.tables e below (s₁.setTop (entryFrame m #[(.int p0_0), (.int p0_1)] maxLocals)) t := fun t k => pre118 t (by
          show Steps p.tables e below (T116.setTop (mkF m 165 #[.val (.int p0_0), .val (.int p0_1), .val (.int (bI (¬ ((p0_1 &&& (1 : Int32)) = (0 : Int32))))), .val (.int (bI (¬ ((p0_1 &&& (2 : Int32)) = (0 : Int32))))), .val (.int (bI (¬ ((p0_1 &&& (4 : Int32)) = (0 : Int32))))), .val (.ref b16), .val (.int (1 : Int32)), .val (.int (0 : Int32)), .val (.int ((0 : Int32) - (1 : Int32))), .val (.int (1 : Int32)), .val (.int (-1 : Int32))] [(.int ((0 : Int32) - (1 : Int32)))])) _
          refine XS.iload X116.here hx rfl (hb hby at_165) rfl ?_
          show Steps p.tables e below (T116.setTop (mkF m 167 #[.val (.int p0_0), .val (.int p0_1), .val (.int (bI (¬ ((p0_1 &&& (1 : Int32)) = (0 : Int32))))), .val (.int (bI (¬ ((p0_1 &&& (2 : Int32)) = (0 : Int32))))), .val (.int (bI (¬ ((p0_1 &&& (4 : Int32)) = (0 : Int32))))), .val (.ref b16), .val (.int (1 : Int32)), .val (.int (0 : Int32)), .val (.int ((0 : Int32) - (1 : Int32))), .val (.int (1 : Int32)), .val (.int (-1 : Int32))] [(.int (-1 : Int32)), (.int ((0 : Int32) - (1 : Int32)))])) _
          refine XS.icmpNo X116.here hx rfl (hb hby at_167) rfl (teq hd119).2 ?_
          show Steps p.tables e below (T116.setTop (mkF m 170 #[.val (.int p0_0), .val (.int p0_1), .val (.int (bI (¬ ((p0_1 &&& (1 : Int32)) = (0 : Int32))))), .val (.int (bI (¬ ((p0_1 &&& (2 : Int32)) = (0 : Int32))))), .val (.int (bI (¬ ((p0_1 &&& (4 : Int32)) = (0 : Int32))))), .val (.ref b16), .val (.int (1 : Int32)), .val (.int (0 : Int32)), .val (.int ((0 : Int32) - (1 : Int32))), .val (.int (1 : Int32)), .val (.int (-1 : Int32))] [])) _
          refine XS.aload X116.here hx rfl (hb hby at_170) rfl rfl ?_
          show Steps p.tables e below (T116.setTop (mkF m 172 #[.val (.int p0_0), .val (.int p0_1), .val (.int (bI (¬ ((p0_1 &&& (1 : Int32)) = (0 : Int32))))), .val (.int (bI (¬ ((p0_1 &&& (2 : Int32)) = (0 : Int32))))), .val (.int (bI (¬ ((p0_1 &&& (4 : Int32)) = (0 : Int32))))), .val (.ref b16), .val (.int (1 : Int32)), .val (.int (0 : Int32)), .val (.int ((0 : Int32) - (1 : Int32))), .val (.int (1 : Int32)), .val (.int (-1 : Int32))] [(.ref b16)])) _
          refine st120.trans ?_
          exact k)
        have hd123 : (nar .boolean (1 : Int32)) = (bI (¬ ((p0_1 &&& (4 : Int32)) = (0 : Int32)))) := by
          rw [bI_t hc97]
          rfl
        obtain ⟨cq124, kq124, q124a, q124b, q124c⟩ := isOf hZ e120 r103_0
        obtain ⟨_, _, ⟨T124, L124, k124, n124⟩, -, X124, ⟨Lc124, hQ124, l124, y124, z124⟩, st124⟩ := X120.virtualBack hx (y := (⟨"com/example/shieldwall/shieldwall/engine/MoraleState", "startStrength", "()I"⟩ : MethodName)) (z := (⟨"com/example/shieldwall/shieldwall/engine/MoraleState", "startStrength", "()I"⟩ : MethodName)) hown (mvT hZ (hW 51 _ rfl)) (mvT hZ (hW 52 _ rfl)) (notFace_of_selects (args := #[]) (mvT hZ (hW 54 _ rfl))) (mvT hZ (hW 54 _ rfl)) (mvT hZ (hW 53 _ rfl)) (by decide) (backOf (W := 0) (rm9 l Z a0 hw [] b16 p0_0 T103.heap n0 z107 r103_1) hZ (hW 55 _ rfl) (hW 2 _ rfl) (by decide) (by decide)) q124a q124c (g := (mkF m 182 #[.val (.int p0_0), .val (.int p0_1), .val (.int (bI (¬ ((p0_1 &&& (1 : Int32)) = (0 : Int32))))), .val (.int (bI (¬ ((p0_1 &&& (2 : Int32)) = (0 : Int32))))), .val (.int (bI (¬ ((p0_1 &&& (4 : Int32)) = (0 : Int32))))), .val (.ref b16), .val (.int (1 : Int32)), .val (.int (0 : Int32)), .val (.int ((0 : Int32) - (1 : Int32))), .val (.int (1 : Int32)), .val (.int (-1 : Int32))] [(.ref b16)])) rfl (by rw [hml]; rfl) (Steps.refl _) (argsL := []) (rest := []) (lenOf pd_2 rfl) rfl (by show 2 * 0 + _ ≤ _; exact Nat.le_of_eq rfl) (hb hby at_182) (fun _ _ => ⟨rfl, e120, (by decide : 1 + 0 ≤ _), (by decide : 7 + 0 ≤ _)⟩)
        dsimp only [Pt.U, Pt.locs, Pt.cells, Pt.slots] at X124 l124 y124 z124 st124 hQ124
        subst l124 y124 z124
        obtain ⟨rfl, N124q, e124⟩ := hQ124
        have N125 := Fr.app N121 N124q
        have pre126 : ∀ t, Steps p.tables e below (T124.setTop (mkF m 185 #[.val (.int p0_0), .val (.int p0_1), .val (.int (bI (¬ ((p0_1 &&& (1 : Int32)) = (0 : Int32))))), .val (.int (bI (¬ ((p0_1 &&& (2 : Int32)) = (0 : Int32))))), .val (.int (bI (¬ ((p0_1 &&& (4 : Int32)) = (0 : Int32))))), .val (.ref b16), .val (.int (1 : Int32)), .val (.int (0 : Int32)), .val (.int ((0 : Int32) - (1 : Int32))), .val (.int (1 : Int32)), .val (.int (-1 : Int32))] [(.int p0_0)])) t → Steps p.tables e below (s₁.setTop (entryFrame m #[(.int p0_0), (.int p0_1)] maxLocals)) t := fun t k => pre122 t (by
          show Steps p.tables e below (T120.setTop (mkF m 175 #[.val (.int p0_0), .val (.int p0_1), .val (.int (bI (¬ ((p0_1 &&& (1 : Int32)) = (0 : Int32))))), .val (.int (bI (¬ ((p0_1 &&& (2 : Int32)) = (0 : Int32))))), .val (.int (bI (¬ ((p0_1 &&& (4 : Int32)) = (0 : Int32))))), .val (.ref b16), .val (.int (1 : Int32)), .val (.int (0 : Int32)), .val (.int ((0 : Int32) - (1 : Int32))), .val (.int (1 : Int32)), .val (.int (-1 : Int32))] [(.int (nar .boolean (1 : Int32)))])) _
          refine XS.iload X120.here hx rfl (hb hby at_175) rfl ?_
          show Steps p.tables e below (T120.setTop (mkF m 177 #[.val (.int p0_0), .val (.int p0_1), .val (.int (bI (¬ ((p0_1 &&& (1 : Int32)) = (0 : Int32))))), .val (.int (bI (¬ ((p0_1 &&& (2 : Int32)) = (0 : Int32))))), .val (.int (bI (¬ ((p0_1 &&& (4 : Int32)) = (0 : Int32))))), .val (.ref b16), .val (.int (1 : Int32)), .val (.int (0 : Int32)), .val (.int ((0 : Int32) - (1 : Int32))), .val (.int (1 : Int32)), .val (.int (-1 : Int32))] [(.int (bI (¬ ((p0_1 &&& (4 : Int32)) = (0 : Int32))))), (.int (nar .boolean (1 : Int32)))])) _
          refine XS.icmpNo X120.here hx rfl (hb hby at_177) rfl (teq hd123).2 ?_
          show Steps p.tables e below (T120.setTop (mkF m 180 #[.val (.int p0_0), .val (.int p0_1), .val (.int (bI (¬ ((p0_1 &&& (1 : Int32)) = (0 : Int32))))), .val (.int (bI (¬ ((p0_1 &&& (2 : Int32)) = (0 : Int32))))), .val (.int (bI (¬ ((p0_1 &&& (4 : Int32)) = (0 : Int32))))), .val (.ref b16), .val (.int (1 : Int32)), .val (.int (0 : Int32)), .val (.int ((0 : Int32) - (1 : Int32))), .val (.int (1 : Int32)), .val (.int (-1 : Int32))] [])) _
          refine XS.aload X120.here hx rfl (hb hby at_180) rfl rfl ?_
          show Steps p.tables e below (T120.setTop (mkF m 182 #[.val (.int p0_0), .val (.int p0_1), .val (.int (bI (¬ ((p0_1 &&& (1 : Int32)) = (0 : Int32))))), .val (.int (bI (¬ ((p0_1 &&& (2 : Int32)) = (0 : Int32))))), .val (.int (bI (¬ ((p0_1 &&& (4 : Int32)) = (0 : Int32))))), .val (.ref b16), .val (.int (1 : Int32)), .val (.int (0 : Int32)), .val (.int ((0 : Int32) - (1 : Int32))), .val (.int (1 : Int32)), .val (.int (-1 : Int32))] [(.ref b16)])) _
          refine st124.trans ?_
          exact k)
        obtain ⟨fs, hr, hrun, hended, hW, hsame⟩ := X124.leave (v := some (.int (1 : Int32))) (fun h => by rw [Bd.returns] at h; cases h)
        refine ⟨_, _, pre126 _ ?_, hrun, hended, _, _, rfl, ?_, ⟨_, rfl⟩, hW, hsame.mono (by decide) (by decide)⟩
        · show Steps p.tables e below (T124.setTop (mkF m 185 #[.val (.int p0_0), .val (.int p0_1), .val (.int (bI (¬ ((p0_1 &&& (1 : Int32)) = (0 : Int32))))), .val (.int (bI (¬ ((p0_1 &&& (2 : Int32)) = (0 : Int32))))), .val (.int (bI (¬ ((p0_1 &&& (4 : Int32)) = (0 : Int32))))), .val (.ref b16), .val (.int (1 : Int32)), .val (.int (0 : Int32)), .val (.int ((0 : Int32) - (1 : Int32))), .val (.int (1 : Int32)), .val (.int (-1 : Int32))] [(.int p0_0)])) _
          refine XS.iloadN X124.here hx rfl (hb hby at_185) rfl ?_
          show Steps p.tables e below (T124.setTop (mkF m 186 #[.val (.int p0_0), .val (.int p0_1), .val (.int (bI (¬ ((p0_1 &&& (1 : Int32)) = (0 : Int32))))), .val (.int (bI (¬ ((p0_1 &&& (2 : Int32)) = (0 : Int32))))), .val (.int (bI (¬ ((p0_1 &&& (4 : Int32)) = (0 : Int32))))), .val (.ref b16), .val (.int (1 : Int32)), .val (.int (0 : Int32)), .val (.int ((0 : Int32) - (1 : Int32))), .val (.int (1 : Int32)), .val (.int (-1 : Int32))] [(.int p0_0), (.int p0_0)])) _
          refine XS.icmpNo X124.here hx rfl (hb hby at_186) rfl (teq (rfl : p0_0 = p0_0)).2 ?_
          show Steps p.tables e below (T124.setTop (mkF m 189 #[.val (.int p0_0), .val (.int p0_1), .val (.int (bI (¬ ((p0_1 &&& (1 : Int32)) = (0 : Int32))))), .val (.int (bI (¬ ((p0_1 &&& (2 : Int32)) = (0 : Int32))))), .val (.int (bI (¬ ((p0_1 &&& (4 : Int32)) = (0 : Int32))))), .val (.ref b16), .val (.int (1 : Int32)), .val (.int (0 : Int32)), .val (.int ((0 : Int32) - (1 : Int32))), .val (.int (1 : Int32)), .val (.int (-1 : Int32))] [])) _
          refine XS.iconst X124.here hx rfl (hb hby at_189) ?_
          show Steps p.tables e below (T124.setTop (mkF m 190 #[.val (.int p0_0), .val (.int p0_1), .val (.int (bI (¬ ((p0_1 &&& (1 : Int32)) = (0 : Int32))))), .val (.int (bI (¬ ((p0_1 &&& (2 : Int32)) = (0 : Int32))))), .val (.int (bI (¬ ((p0_1 &&& (4 : Int32)) = (0 : Int32))))), .val (.ref b16), .val (.int (1 : Int32)), .val (.int (0 : Int32)), .val (.int ((0 : Int32) - (1 : Int32))), .val (.int (1 : Int32)), .val (.int (-1 : Int32))] [(.int (1 : Int32))])) _
          refine XS.goto X124.here hx rfl (pc0 := 190) (pc' := 194) rfl (hb hby at_190) (by decide) (by decide) ?_
          show Steps p.tables e below (T124.setTop (mkF m 194 #[.val (.int p0_0), .val (.int p0_1), .val (.int (bI (¬ ((p0_1 &&& (1 : Int32)) = (0 : Int32))))), .val (.int (bI (¬ ((p0_1 &&& (2 : Int32)) = (0 : Int32))))), .val (.int (bI (¬ ((p0_1 &&& (4 : Int32)) = (0 : Int32))))), .val (.ref b16), .val (.int (1 : Int32)), .val (.int (0 : Int32)), .val (.int ((0 : Int32) - (1 : Int32))), .val (.int (1 : Int32)), .val (.int (-1 : Int32))] [(.int (1 : Int32))])) _
          exact retN X124 hx (t := .boolean) Bd.returns (by simp) (hb hby at_194) hr
        · show Q0 Z p0_0 p0_1 h0 n0 _ T124.heap _
          rw [e124]
          exact ⟨rfl, N125⟩
      · obtain ⟨cq127, kq127, q127a, q127b, q127c⟩ := isOf hZ rfl r32_0
        obtain ⟨_, _, ⟨T127, L127, k127, n127⟩, -, X127, ⟨Lc127, hQ127, l127, y127, z127⟩, st127⟩ := X32.virtualBack hx (y := (⟨"com/example/shieldwall/shieldwall/engine/MoraleState", "lost", "()V"⟩ : MethodName)) (z := (⟨"com/example/shieldwall/shieldwall/engine/MoraleState", "lost", "()V"⟩ : MethodName)) hown (mvT hZ (hW 11 _ rfl)) (mvT hZ (hW 12 _ rfl)) (notFace_of_selects (args := #[]) (mvT hZ (hW 14 _ rfl))) (mvT hZ (hW 14 _ rfl)) (mvT hZ (hW 13 _ rfl)) (by decide) (backOf (W := 0) (rm3 l Z a0 hw [] b16 ((0 : Int32) + (1 : Int32)) p0_0 ((0 : Int32) + (1 : Int32)) (0 : Int32) (0 : Int32) (0 : Int32) T32.heap n0 z36 r32_5 r32_0 r32_1 r32_6 r32_2 r32_3 r32_4 gz16) hZ (hW 15 _ rfl) (hW 2 _ rfl) (by decide) (by decide)) q127a q127c (g := (mkF m 133 #[.val (.int p0_0), .val (.int p0_1), .val (.int (bI (¬ ((p0_1 &&& (1 : Int32)) = (0 : Int32))))), .val (.int (bI (¬ ((p0_1 &&& (2 : Int32)) = (0 : Int32))))), .val (.int (bI (¬ ((p0_1 &&& (4 : Int32)) = (0 : Int32))))), .val (.ref b16), .val (.int (1 : Int32)), .val (.int (0 : Int32)), .val (.int ((0 : Int32) - (1 : Int32))), .val (.int (1 : Int32)), .val (.int (0 : Int32))] [(.ref b16)])) rfl (by rw [hml]; rfl) (Steps.refl _) (argsL := []) (rest := []) (lenOf pd_1 rfl) rfl (by show 2 * 0 + _ ≤ _; exact Nat.le_of_eq rfl) (hb hby at_133) (fun _ _ => ⟨rfl, rfl, (by decide : 1 + 0 ≤ _), (by decide : 7 + 0 ≤ _)⟩)
        dsimp only [Pt.U, Pt.locs, Pt.cells, Pt.slots] at X127 l127 y127 z127 st127 hQ127
        subst l127 y127 z127
        obtain ⟨rfl, N127q, K127, r127_0, r127_1, r127_2, r127_3, r127_4, r127_5, r127_6⟩ := hQ127
        have N128 := Fr.app N33 N127q
        have pre129 : ∀ t, Steps p.tables e below (T127.setTop (mkF m 136 #[.val (.int p0_0), .val (.int p0_1), .val (.int (bI (¬ ((p0_1 &&& (1 : Int32)) = (0 : Int32))))), .val (.int (bI (¬ ((p0_1 &&& (2 : Int32)) = (0 : Int32))))), .val (.int (bI (¬ ((p0_1 &&& (4 : Int32)) = (0 : Int32))))), .val (.ref b16), .val (.int (1 : Int32)), .val (.int (0 : Int32)), .val (.int ((0 : Int32) - (1 : Int32))), .val (.int (1 : Int32)), .val (.int (0 : Int32))] [])) t → Steps p.tables e below (s₁.setTop (entryFrame m #[(.int p0_0), (.int p0_1)] maxLocals)) t := fun t k => pre34 t (by
          show Steps p.tables e below (T32.setTop (mkF m 56 #[.val (.int p0_0), .val (.int p0_1), .val (.int (bI (¬ ((p0_1 &&& (1 : Int32)) = (0 : Int32))))), .val (.int (bI (¬ ((p0_1 &&& (2 : Int32)) = (0 : Int32))))), .val (.int (bI (¬ ((p0_1 &&& (4 : Int32)) = (0 : Int32))))), .val (.ref b16), .unset, .unset, .unset, .unset, .unset] [])) _
          refine XS.iloadN X32.here hx rfl (hb hby at_56) rfl ?_
          show Steps p.tables e below (T32.setTop (mkF m 57 #[.val (.int p0_0), .val (.int p0_1), .val (.int (bI (¬ ((p0_1 &&& (1 : Int32)) = (0 : Int32))))), .val (.int (bI (¬ ((p0_1 &&& (2 : Int32)) = (0 : Int32))))), .val (.int (bI (¬ ((p0_1 &&& (4 : Int32)) = (0 : Int32))))), .val (.ref b16), .unset, .unset, .unset, .unset, .unset] [(.int (bI (¬ ((p0_1 &&& (2 : Int32)) = (0 : Int32)))))])) _
          refine XS.ifYes X32.here hx rfl (pc0 := 57) (pc' := 65) rfl (hb hby at_57) rfl ((if0 _ _).trans (teq (bI_f hc38)).1) (by decide) (by decide) ?_
          show Steps p.tables e below (T32.setTop (mkF m 65 #[.val (.int p0_0), .val (.int p0_1), .val (.int (bI (¬ ((p0_1 &&& (1 : Int32)) = (0 : Int32))))), .val (.int (bI (¬ ((p0_1 &&& (2 : Int32)) = (0 : Int32))))), .val (.int (bI (¬ ((p0_1 &&& (4 : Int32)) = (0 : Int32))))), .val (.ref b16), .unset, .unset, .unset, .unset, .unset] [])) _
          refine XS.iload X32.here hx rfl (hb hby at_65) rfl ?_
          show Steps p.tables e below (T32.setTop (mkF m 67 #[.val (.int p0_0), .val (.int p0_1), .val (.int (bI (¬ ((p0_1 &&& (1 : Int32)) = (0 : Int32))))), .val (.int (bI (¬ ((p0_1 &&& (2 : Int32)) = (0 : Int32))))), .val (.int (bI (¬ ((p0_1 &&& (4 : Int32)) = (0 : Int32))))), .val (.ref b16), .unset, .unset, .unset, .unset, .unset] [(.int (bI (¬ ((p0_1 &&& (4 : Int32)) = (0 : Int32)))))])) _
          refine XS.ifYes X32.here hx rfl (pc0 := 67) (pc' := 75) rfl (hb hby at_67) rfl ((if0 _ _).trans (teq (bI_f hc97)).1) (by decide) (by decide) ?_
          show Steps p.tables e below (T32.setTop (mkF m 75 #[.val (.int p0_0), .val (.int p0_1), .val (.int (bI (¬ ((p0_1 &&& (1 : Int32)) = (0 : Int32))))), .val (.int (bI (¬ ((p0_1 &&& (2 : Int32)) = (0 : Int32))))), .val (.int (bI (¬ ((p0_1 &&& (4 : Int32)) = (0 : Int32))))), .val (.ref b16), .unset, .unset, .unset, .unset, .unset] [])) _
          refine XS.iloadN X32.here hx rfl (hb hby at_75) rfl ?_
          show Steps p.tables e below (T32.setTop (mkF m 76 #[.val (.int p0_0), .val (.int p0_1), .val (.int (bI (¬ ((p0_1 &&& (1 : Int32)) = (0 : Int32))))), .val (.int (bI (¬ ((p0_1 &&& (2 : Int32)) = (0 : Int32))))), .val (.int (bI (¬ ((p0_1 &&& (4 : Int32)) = (0 : Int32))))), .val (.ref b16), .unset, .unset, .unset, .unset, .unset] [(.int (bI (¬ ((p0_1 &&& (1 : Int32)) = (0 : Int32)))))])) _
          refine XS.ifNo X32.here hx rfl (hb hby at_76) rfl ((if0 _ _).trans (feq (bI_n hc31)).1) ?_
          show Steps p.tables e below (T32.setTop (mkF m 79 #[.val (.int p0_0), .val (.int p0_1), .val (.int (bI (¬ ((p0_1 &&& (1 : Int32)) = (0 : Int32))))), .val (.int (bI (¬ ((p0_1 &&& (2 : Int32)) = (0 : Int32))))), .val (.int (bI (¬ ((p0_1 &&& (4 : Int32)) = (0 : Int32))))), .val (.ref b16), .unset, .unset, .unset, .unset, .unset] [])) _
          refine XS.iconst X32.here hx rfl (hb hby at_79) ?_
          show Steps p.tables e below (T32.setTop (mkF m 80 #[.val (.int p0_0), .val (.int p0_1), .val (.int (bI (¬ ((p0_1 &&& (1 : Int32)) = (0 : Int32))))), .val (.int (bI (¬ ((p0_1 &&& (2 : Int32)) = (0 : Int32))))), .val (.int (bI (¬ ((p0_1 &&& (4 : Int32)) = (0 : Int32))))), .val (.ref b16), .unset, .unset, .unset, .unset, .unset] [(.int (1 : Int32))])) _
          refine XS.goto X32.here hx rfl (pc0 := 80) (pc' := 84) rfl (hb hby at_80) (by decide) (by decide) ?_
          show Steps p.tables e below (T32.setTop (mkF m 84 #[.val (.int p0_0), .val (.int p0_1), .val (.int (bI (¬ ((p0_1 &&& (1 : Int32)) = (0 : Int32))))), .val (.int (bI (¬ ((p0_1 &&& (2 : Int32)) = (0 : Int32))))), .val (.int (bI (¬ ((p0_1 &&& (4 : Int32)) = (0 : Int32))))), .val (.ref b16), .unset, .unset, .unset, .unset, .unset] [(.int (1 : Int32))])) _
          refine XS.istore X32.here hx rfl (hb hby at_84) rfl (l' := #[.val (.int p0_0), .val (.int p0_1), .val (.int (bI (¬ ((p0_1 &&& (1 : Int32)) = (0 : Int32))))), .val (.int (bI (¬ ((p0_1 &&& (2 : Int32)) = (0 : Int32))))), .val (.int (bI (¬ ((p0_1 &&& (4 : Int32)) = (0 : Int32))))), .val (.ref b16), .val (.int (1 : Int32)), .unset, .unset, .unset, .unset]) rfl ?_
          show Steps p.tables e below (T32.setTop (mkF m 86 #[.val (.int p0_0), .val (.int p0_1), .val (.int (bI (¬ ((p0_1 &&& (1 : Int32)) = (0 : Int32))))), .val (.int (bI (¬ ((p0_1 &&& (2 : Int32)) = (0 : Int32))))), .val (.int (bI (¬ ((p0_1 &&& (4 : Int32)) = (0 : Int32))))), .val (.ref b16), .val (.int (1 : Int32)), .unset, .unset, .unset, .unset] [])) _
          refine XS.iloadN X32.here hx rfl (hb hby at_86) rfl ?_
          show Steps p.tables e below (T32.setTop (mkF m 87 #[.val (.int p0_0), .val (.int p0_1), .val (.int (bI (¬ ((p0_1 &&& (1 : Int32)) = (0 : Int32))))), .val (.int (bI (¬ ((p0_1 &&& (2 : Int32)) = (0 : Int32))))), .val (.int (bI (¬ ((p0_1 &&& (4 : Int32)) = (0 : Int32))))), .val (.ref b16), .val (.int (1 : Int32)), .unset, .unset, .unset, .unset] [(.int (bI (¬ ((p0_1 &&& (2 : Int32)) = (0 : Int32)))))])) _
          refine XS.ifYes X32.here hx rfl (pc0 := 87) (pc' := 94) rfl (hb hby at_87) rfl ((if0 _ _).trans (teq (bI_f hc38)).1) (by decide) (by decide) ?_
          show Steps p.tables e below (T32.setTop (mkF m 94 #[.val (.int p0_0), .val (.int p0_1), .val (.int (bI (¬ ((p0_1 &&& (1 : Int32)) = (0 : Int32))))), .val (.int (bI (¬ ((p0_1 &&& (2 : Int32)) = (0 : Int32))))), .val (.int (bI (¬ ((p0_1 &&& (4 : Int32)) = (0 : Int32))))), .val (.ref b16), .val (.int (1 : Int32)), .unset, .unset, .unset, .unset] [])) _
          refine XS.iconst X32.here hx rfl (hb hby at_94) ?_
          show Steps p.tables e below (T32.setTop (mkF m 95 #[.val (.int p0_0), .val (.int p0_1), .val (.int (bI (¬ ((p0_1 &&& (1 : Int32)) = (0 : Int32))))), .val (.int (bI (¬ ((p0_1 &&& (2 : Int32)) = (0 : Int32))))), .val (.int (bI (¬ ((p0_1 &&& (4 : Int32)) = (0 : Int32))))), .val (.ref b16), .val (.int (1 : Int32)), .unset, .unset, .unset, .unset] [(.int (0 : Int32))])) _
          refine XS.istore X32.here hx rfl (hb hby at_95) rfl (l' := #[.val (.int p0_0), .val (.int p0_1), .val (.int (bI (¬ ((p0_1 &&& (1 : Int32)) = (0 : Int32))))), .val (.int (bI (¬ ((p0_1 &&& (2 : Int32)) = (0 : Int32))))), .val (.int (bI (¬ ((p0_1 &&& (4 : Int32)) = (0 : Int32))))), .val (.ref b16), .val (.int (1 : Int32)), .val (.int (0 : Int32)), .unset, .unset, .unset]) rfl ?_
          show Steps p.tables e below (T32.setTop (mkF m 97 #[.val (.int p0_0), .val (.int p0_1), .val (.int (bI (¬ ((p0_1 &&& (1 : Int32)) = (0 : Int32))))), .val (.int (bI (¬ ((p0_1 &&& (2 : Int32)) = (0 : Int32))))), .val (.int (bI (¬ ((p0_1 &&& (4 : Int32)) = (0 : Int32))))), .val (.ref b16), .val (.int (1 : Int32)), .val (.int (0 : Int32)), .unset, .unset, .unset] [])) _
          refine XS.iload X32.here hx rfl (hb hby at_97) rfl ?_
          show Steps p.tables e below (T32.setTop (mkF m 99 #[.val (.int p0_0), .val (.int p0_1), .val (.int (bI (¬ ((p0_1 &&& (1 : Int32)) = (0 : Int32))))), .val (.int (bI (¬ ((p0_1 &&& (2 : Int32)) = (0 : Int32))))), .val (.int (bI (¬ ((p0_1 &&& (4 : Int32)) = (0 : Int32))))), .val (.ref b16), .val (.int (1 : Int32)), .val (.int (0 : Int32)), .unset, .unset, .unset] [(.int (0 : Int32))])) _
          refine XS.iload X32.here hx rfl (hb hby at_99) rfl ?_
          show Steps p.tables e below (T32.setTop (mkF m 101 #[.val (.int p0_0), .val (.int p0_1), .val (.int (bI (¬ ((p0_1 &&& (1 : Int32)) = (0 : Int32))))), .val (.int (bI (¬ ((p0_1 &&& (2 : Int32)) = (0 : Int32))))), .val (.int (bI (¬ ((p0_1 &&& (4 : Int32)) = (0 : Int32))))), .val (.ref b16), .val (.int (1 : Int32)), .val (.int (0 : Int32)), .unset, .unset, .unset] [(.int (1 : Int32)), (.int (0 : Int32))])) _
          refine XS.isub X32.here hx rfl (hb hby at_101) rfl ?_
          show Steps p.tables e below (T32.setTop (mkF m 102 #[.val (.int p0_0), .val (.int p0_1), .val (.int (bI (¬ ((p0_1 &&& (1 : Int32)) = (0 : Int32))))), .val (.int (bI (¬ ((p0_1 &&& (2 : Int32)) = (0 : Int32))))), .val (.int (bI (¬ ((p0_1 &&& (4 : Int32)) = (0 : Int32))))), .val (.ref b16), .val (.int (1 : Int32)), .val (.int (0 : Int32)), .unset, .unset, .unset] [(.int ((0 : Int32) - (1 : Int32)))])) _
          refine XS.istore X32.here hx rfl (hb hby at_102) rfl (l' := #[.val (.int p0_0), .val (.int p0_1), .val (.int (bI (¬ ((p0_1 &&& (1 : Int32)) = (0 : Int32))))), .val (.int (bI (¬ ((p0_1 &&& (2 : Int32)) = (0 : Int32))))), .val (.int (bI (¬ ((p0_1 &&& (4 : Int32)) = (0 : Int32))))), .val (.ref b16), .val (.int (1 : Int32)), .val (.int (0 : Int32)), .val (.int ((0 : Int32) - (1 : Int32))), .unset, .unset]) rfl ?_
          show Steps p.tables e below (T32.setTop (mkF m 104 #[.val (.int p0_0), .val (.int p0_1), .val (.int (bI (¬ ((p0_1 &&& (1 : Int32)) = (0 : Int32))))), .val (.int (bI (¬ ((p0_1 &&& (2 : Int32)) = (0 : Int32))))), .val (.int (bI (¬ ((p0_1 &&& (4 : Int32)) = (0 : Int32))))), .val (.ref b16), .val (.int (1 : Int32)), .val (.int (0 : Int32)), .val (.int ((0 : Int32) - (1 : Int32))), .unset, .unset] [])) _
          refine XS.iloadN X32.here hx rfl (hb hby at_104) rfl ?_
          show Steps p.tables e below (T32.setTop (mkF m 105 #[.val (.int p0_0), .val (.int p0_1), .val (.int (bI (¬ ((p0_1 &&& (1 : Int32)) = (0 : Int32))))), .val (.int (bI (¬ ((p0_1 &&& (2 : Int32)) = (0 : Int32))))), .val (.int (bI (¬ ((p0_1 &&& (4 : Int32)) = (0 : Int32))))), .val (.ref b16), .val (.int (1 : Int32)), .val (.int (0 : Int32)), .val (.int ((0 : Int32) - (1 : Int32))), .unset, .unset] [(.int (bI (¬ ((p0_1 &&& (1 : Int32)) = (0 : Int32)))))])) _
          refine XS.ifNo X32.here hx rfl (hb hby at_105) rfl ((if0 _ _).trans (feq (bI_n hc31)).1) ?_
          show Steps p.tables e below (T32.setTop (mkF m 108 #[.val (.int p0_0), .val (.int p0_1), .val (.int (bI (¬ ((p0_1 &&& (1 : Int32)) = (0 : Int32))))), .val (.int (bI (¬ ((p0_1 &&& (2 : Int32)) = (0 : Int32))))), .val (.int (bI (¬ ((p0_1 &&& (4 : Int32)) = (0 : Int32))))), .val (.ref b16), .val (.int (1 : Int32)), .val (.int (0 : Int32)), .val (.int ((0 : Int32) - (1 : Int32))), .unset, .unset] [])) _
          refine XS.iloadN X32.here hx rfl (hb hby at_108) rfl ?_
          show Steps p.tables e below (T32.setTop (mkF m 109 #[.val (.int p0_0), .val (.int p0_1), .val (.int (bI (¬ ((p0_1 &&& (1 : Int32)) = (0 : Int32))))), .val (.int (bI (¬ ((p0_1 &&& (2 : Int32)) = (0 : Int32))))), .val (.int (bI (¬ ((p0_1 &&& (4 : Int32)) = (0 : Int32))))), .val (.ref b16), .val (.int (1 : Int32)), .val (.int (0 : Int32)), .val (.int ((0 : Int32) - (1 : Int32))), .unset, .unset] [(.int (bI (¬ ((p0_1 &&& (2 : Int32)) = (0 : Int32)))))])) _
          refine XS.ifNo X32.here hx rfl (hb hby at_109) rfl ((if0 _ _).trans (teq (bI_f hc38)).2) ?_
          show Steps p.tables e below (T32.setTop (mkF m 112 #[.val (.int p0_0), .val (.int p0_1), .val (.int (bI (¬ ((p0_1 &&& (1 : Int32)) = (0 : Int32))))), .val (.int (bI (¬ ((p0_1 &&& (2 : Int32)) = (0 : Int32))))), .val (.int (bI (¬ ((p0_1 &&& (4 : Int32)) = (0 : Int32))))), .val (.ref b16), .val (.int (1 : Int32)), .val (.int (0 : Int32)), .val (.int ((0 : Int32) - (1 : Int32))), .unset, .unset] [])) _
          refine XS.iconst X32.here hx rfl (hb hby at_112) ?_
          show Steps p.tables e below (T32.setTop (mkF m 113 #[.val (.int p0_0), .val (.int p0_1), .val (.int (bI (¬ ((p0_1 &&& (1 : Int32)) = (0 : Int32))))), .val (.int (bI (¬ ((p0_1 &&& (2 : Int32)) = (0 : Int32))))), .val (.int (bI (¬ ((p0_1 &&& (4 : Int32)) = (0 : Int32))))), .val (.ref b16), .val (.int (1 : Int32)), .val (.int (0 : Int32)), .val (.int ((0 : Int32) - (1 : Int32))), .unset, .unset] [(.int (1 : Int32))])) _
          refine XS.goto X32.here hx rfl (pc0 := 113) (pc' := 117) rfl (hb hby at_113) (by decide) (by decide) ?_
          show Steps p.tables e below (T32.setTop (mkF m 117 #[.val (.int p0_0), .val (.int p0_1), .val (.int (bI (¬ ((p0_1 &&& (1 : Int32)) = (0 : Int32))))), .val (.int (bI (¬ ((p0_1 &&& (2 : Int32)) = (0 : Int32))))), .val (.int (bI (¬ ((p0_1 &&& (4 : Int32)) = (0 : Int32))))), .val (.ref b16), .val (.int (1 : Int32)), .val (.int (0 : Int32)), .val (.int ((0 : Int32) - (1 : Int32))), .unset, .unset] [(.int (1 : Int32))])) _
          refine XS.istore X32.here hx rfl (hb hby at_117) rfl (l' := #[.val (.int p0_0), .val (.int p0_1), .val (.int (bI (¬ ((p0_1 &&& (1 : Int32)) = (0 : Int32))))), .val (.int (bI (¬ ((p0_1 &&& (2 : Int32)) = (0 : Int32))))), .val (.int (bI (¬ ((p0_1 &&& (4 : Int32)) = (0 : Int32))))), .val (.ref b16), .val (.int (1 : Int32)), .val (.int (0 : Int32)), .val (.int ((0 : Int32) - (1 : Int32))), .val (.int (1 : Int32)), .unset]) rfl ?_
          show Steps p.tables e below (T32.setTop (mkF m 119 #[.val (.int p0_0), .val (.int p0_1), .val (.int (bI (¬ ((p0_1 &&& (1 : Int32)) = (0 : Int32))))), .val (.int (bI (¬ ((p0_1 &&& (2 : Int32)) = (0 : Int32))))), .val (.int (bI (¬ ((p0_1 &&& (4 : Int32)) = (0 : Int32))))), .val (.ref b16), .val (.int (1 : Int32)), .val (.int (0 : Int32)), .val (.int ((0 : Int32) - (1 : Int32))), .val (.int (1 : Int32)), .unset] [])) _
          refine XS.iload X32.here hx rfl (hb hby at_119) rfl ?_
          show Steps p.tables e below (T32.setTop (mkF m 121 #[.val (.int p0_0), .val (.int p0_1), .val (.int (bI (¬ ((p0_1 &&& (1 : Int32)) = (0 : Int32))))), .val (.int (bI (¬ ((p0_1 &&& (2 : Int32)) = (0 : Int32))))), .val (.int (bI (¬ ((p0_1 &&& (4 : Int32)) = (0 : Int32))))), .val (.ref b16), .val (.int (1 : Int32)), .val (.int (0 : Int32)), .val (.int ((0 : Int32) - (1 : Int32))), .val (.int (1 : Int32)), .unset] [(.int (bI (¬ ((p0_1 &&& (4 : Int32)) = (0 : Int32)))))])) _
          refine XS.ifYes X32.here hx rfl (pc0 := 121) (pc' := 128) rfl (hb hby at_121) rfl ((if0 _ _).trans (teq (bI_f hc97)).1) (by decide) (by decide) ?_
          show Steps p.tables e below (T32.setTop (mkF m 128 #[.val (.int p0_0), .val (.int p0_1), .val (.int (bI (¬ ((p0_1 &&& (1 : Int32)) = (0 : Int32))))), .val (.int (bI (¬ ((p0_1 &&& (2 : Int32)) = (0 : Int32))))), .val (.int (bI (¬ ((p0_1 &&& (4 : Int32)) = (0 : Int32))))), .val (.ref b16), .val (.int (1 : Int32)), .val (.int (0 : Int32)), .val (.int ((0 : Int32) - (1 : Int32))), .val (.int (1 : Int32)), .unset] [])) _
          refine XS.iconst X32.here hx rfl (hb hby at_128) ?_
          show Steps p.tables e below (T32.setTop (mkF m 129 #[.val (.int p0_0), .val (.int p0_1), .val (.int (bI (¬ ((p0_1 &&& (1 : Int32)) = (0 : Int32))))), .val (.int (bI (¬ ((p0_1 &&& (2 : Int32)) = (0 : Int32))))), .val (.int (bI (¬ ((p0_1 &&& (4 : Int32)) = (0 : Int32))))), .val (.ref b16), .val (.int (1 : Int32)), .val (.int (0 : Int32)), .val (.int ((0 : Int32) - (1 : Int32))), .val (.int (1 : Int32)), .unset] [(.int (0 : Int32))])) _
          refine XS.istore X32.here hx rfl (hb hby at_129) rfl (l' := #[.val (.int p0_0), .val (.int p0_1), .val (.int (bI (¬ ((p0_1 &&& (1 : Int32)) = (0 : Int32))))), .val (.int (bI (¬ ((p0_1 &&& (2 : Int32)) = (0 : Int32))))), .val (.int (bI (¬ ((p0_1 &&& (4 : Int32)) = (0 : Int32))))), .val (.ref b16), .val (.int (1 : Int32)), .val (.int (0 : Int32)), .val (.int ((0 : Int32) - (1 : Int32))), .val (.int (1 : Int32)), .val (.int (0 : Int32))]) rfl ?_
          show Steps p.tables e below (T32.setTop (mkF m 131 #[.val (.int p0_0), .val (.int p0_1), .val (.int (bI (¬ ((p0_1 &&& (1 : Int32)) = (0 : Int32))))), .val (.int (bI (¬ ((p0_1 &&& (2 : Int32)) = (0 : Int32))))), .val (.int (bI (¬ ((p0_1 &&& (4 : Int32)) = (0 : Int32))))), .val (.ref b16), .val (.int (1 : Int32)), .val (.int (0 : Int32)), .val (.int ((0 : Int32) - (1 : Int32))), .val (.int (1 : Int32)), .val (.int (0 : Int32))] [])) _
          refine XS.aload X32.here hx rfl (hb hby at_131) rfl rfl ?_
          show Steps p.tables e below (T32.setTop (mkF m 133 #[.val (.int p0_0), .val (.int p0_1), .val (.int (bI (¬ ((p0_1 &&& (1 : Int32)) = (0 : Int32))))), .val (.int (bI (¬ ((p0_1 &&& (2 : Int32)) = (0 : Int32))))), .val (.int (bI (¬ ((p0_1 &&& (4 : Int32)) = (0 : Int32))))), .val (.ref b16), .val (.int (1 : Int32)), .val (.int (0 : Int32)), .val (.int ((0 : Int32) - (1 : Int32))), .val (.int (1 : Int32)), .val (.int (0 : Int32))] [(.ref b16)])) _
          refine st127.trans ?_
          exact k)
        have f130 := r32_0.keep K127
        have z131 := Nat.le_trans z36 K127.1
        obtain ⟨cq132, kq132, q132a, q132b, q132c⟩ := isOf hZ rfl r127_0
        obtain ⟨_, _, ⟨T132, L132, k132, n132⟩, -, X132, ⟨Lc132, hQ132, l132, y132, z132⟩, st132⟩ := X127.virtualBack hx (y := (⟨"com/example/shieldwall/shieldwall/engine/MoraleState", "battles", "()I"⟩ : MethodName)) (z := (⟨"com/example/shieldwall/shieldwall/engine/MoraleState", "battles", "()I"⟩ : MethodName)) hown (mvT hZ (hW 27 _ rfl)) (mvT hZ (hW 28 _ rfl)) (notFace_of_selects (args := #[]) (mvT hZ (hW 30 _ rfl))) (mvT hZ (hW 30 _ rfl)) (mvT hZ (hW 29 _ rfl)) (by decide) (backOf (W := 0) (rm5 l Z a0 hw [] b16 (0 : Int32) (((0 : Int32) + (1 : Int32)) + (1 : Int32)) T127.heap n0 z131 r127_2 r127_5) hZ (hW 31 _ rfl) (hW 2 _ rfl) (by decide) (by decide)) q132a q132c (g := (mkF m 138 #[.val (.int p0_0), .val (.int p0_1), .val (.int (bI (¬ ((p0_1 &&& (1 : Int32)) = (0 : Int32))))), .val (.int (bI (¬ ((p0_1 &&& (2 : Int32)) = (0 : Int32))))), .val (.int (bI (¬ ((p0_1 &&& (4 : Int32)) = (0 : Int32))))), .val (.ref b16), .val (.int (1 : Int32)), .val (.int (0 : Int32)), .val (.int ((0 : Int32) - (1 : Int32))), .val (.int (1 : Int32)), .val (.int (0 : Int32))] [(.ref b16)])) rfl (by rw [hml]; rfl) (Steps.refl _) (argsL := []) (rest := []) (lenOf pd_2 rfl) rfl (by show 2 * 0 + _ ≤ _; exact Nat.le_of_eq rfl) (hb hby at_138) (fun _ _ => ⟨rfl, rfl, (by decide : 1 + 0 ≤ _), (by decide : 7 + 0 ≤ _)⟩)
        dsimp only [Pt.U, Pt.locs, Pt.cells, Pt.slots] at X132 l132 y132 z132 st132 hQ132
        subst l132 y132 z132
        obtain ⟨rfl, N132q, e132⟩ := hQ132
        have N133 := Fr.app N128 N132q
        have pre134 : ∀ t, Steps p.tables e below (T132.setTop (mkF m 141 #[.val (.int p0_0), .val (.int p0_1), .val (.int (bI (¬ ((p0_1 &&& (1 : Int32)) = (0 : Int32))))), .val (.int (bI (¬ ((p0_1 &&& (2 : Int32)) = (0 : Int32))))), .val (.int (bI (¬ ((p0_1 &&& (4 : Int32)) = (0 : Int32))))), .val (.ref b16), .val (.int (1 : Int32)), .val (.int (0 : Int32)), .val (.int ((0 : Int32) - (1 : Int32))), .val (.int (1 : Int32)), .val (.int (0 : Int32))] [(.int ((0 : Int32) - (((0 : Int32) + (1 : Int32)) + (1 : Int32))))])) t → Steps p.tables e below (s₁.setTop (entryFrame m #[(.int p0_0), (.int p0_1)] maxLocals)) t := fun t k => pre129 t (by
          show Steps p.tables e below (T127.setTop (mkF m 136 #[.val (.int p0_0), .val (.int p0_1), .val (.int (bI (¬ ((p0_1 &&& (1 : Int32)) = (0 : Int32))))), .val (.int (bI (¬ ((p0_1 &&& (2 : Int32)) = (0 : Int32))))), .val (.int (bI (¬ ((p0_1 &&& (4 : Int32)) = (0 : Int32))))), .val (.ref b16), .val (.int (1 : Int32)), .val (.int (0 : Int32)), .val (.int ((0 : Int32) - (1 : Int32))), .val (.int (1 : Int32)), .val (.int (0 : Int32))] [])) _
          refine XS.aload X127.here hx rfl (hb hby at_136) rfl rfl ?_
          show Steps p.tables e below (T127.setTop (mkF m 138 #[.val (.int p0_0), .val (.int p0_1), .val (.int (bI (¬ ((p0_1 &&& (1 : Int32)) = (0 : Int32))))), .val (.int (bI (¬ ((p0_1 &&& (2 : Int32)) = (0 : Int32))))), .val (.int (bI (¬ ((p0_1 &&& (4 : Int32)) = (0 : Int32))))), .val (.ref b16), .val (.int (1 : Int32)), .val (.int (0 : Int32)), .val (.int ((0 : Int32) - (1 : Int32))), .val (.int (1 : Int32)), .val (.int (0 : Int32))] [(.ref b16)])) _
          refine st132.trans ?_
          exact k)
        have hd135 : ((0 : Int32) - (((0 : Int32) + (1 : Int32)) + (1 : Int32))) = (((0 : Int32) - (1 : Int32)) - (1 : Int32)) := by
          decide
        obtain ⟨cq136, kq136, q136a, q136b, q136c⟩ := isOf hZ e132 r127_0
        obtain ⟨_, _, ⟨T136, L136, k136, n136⟩, -, X136, ⟨Lc136, hQ136, l136, y136, z136⟩, st136⟩ := X132.virtualBack hx (y := (⟨"com/example/shieldwall/shieldwall/engine/MoraleState", "lostInARow", "()I"⟩ : MethodName)) (z := (⟨"com/example/shieldwall/shieldwall/engine/MoraleState", "lostInARow", "()I"⟩ : MethodName)) hown (mvT hZ (hW 32 _ rfl)) (mvT hZ (hW 33 _ rfl)) (notFace_of_selects (args := #[]) (mvT hZ (hW 35 _ rfl))) (mvT hZ (hW 35 _ rfl)) (mvT hZ (hW 34 _ rfl)) (by decide) (backOf (W := 0) (rm6 l Z a0 hw [] b16 (((0 : Int32) + (1 : Int32)) + (1 : Int32)) T127.heap n0 z131 r127_6) hZ (hW 36 _ rfl) (hW 2 _ rfl) (by decide) (by decide)) q136a q136c (g := (mkF m 150 #[.val (.int p0_0), .val (.int p0_1), .val (.int (bI (¬ ((p0_1 &&& (1 : Int32)) = (0 : Int32))))), .val (.int (bI (¬ ((p0_1 &&& (2 : Int32)) = (0 : Int32))))), .val (.int (bI (¬ ((p0_1 &&& (4 : Int32)) = (0 : Int32))))), .val (.ref b16), .val (.int (1 : Int32)), .val (.int (0 : Int32)), .val (.int ((0 : Int32) - (1 : Int32))), .val (.int (1 : Int32)), .val (.int (0 : Int32))] [(.ref b16)])) rfl (by rw [hml]; rfl) (Steps.refl _) (argsL := []) (rest := []) (lenOf pd_2 rfl) rfl (by show 2 * 0 + _ ≤ _; exact Nat.le_of_eq rfl) (hb hby at_150) (fun _ _ => ⟨rfl, e132, (by decide : 1 + 0 ≤ _), (by decide : 7 + 0 ≤ _)⟩)
        dsimp only [Pt.U, Pt.locs, Pt.cells, Pt.slots] at X136 l136 y136 z136 st136 hQ136
        subst l136 y136 z136
        obtain ⟨rfl, N136q, e136⟩ := hQ136
        have N137 := Fr.app N133 N136q
        have pre138 : ∀ t, Steps p.tables e below (T136.setTop (mkF m 153 #[.val (.int p0_0), .val (.int p0_1), .val (.int (bI (¬ ((p0_1 &&& (1 : Int32)) = (0 : Int32))))), .val (.int (bI (¬ ((p0_1 &&& (2 : Int32)) = (0 : Int32))))), .val (.int (bI (¬ ((p0_1 &&& (4 : Int32)) = (0 : Int32))))), .val (.ref b16), .val (.int (1 : Int32)), .val (.int (0 : Int32)), .val (.int ((0 : Int32) - (1 : Int32))), .val (.int (1 : Int32)), .val (.int (0 : Int32))] [(.int (((0 : Int32) + (1 : Int32)) + (1 : Int32)))])) t → Steps p.tables e below (s₁.setTop (entryFrame m #[(.int p0_0), (.int p0_1)] maxLocals)) t := fun t k => pre134 t (by
          show Steps p.tables e below (T132.setTop (mkF m 141 #[.val (.int p0_0), .val (.int p0_1), .val (.int (bI (¬ ((p0_1 &&& (1 : Int32)) = (0 : Int32))))), .val (.int (bI (¬ ((p0_1 &&& (2 : Int32)) = (0 : Int32))))), .val (.int (bI (¬ ((p0_1 &&& (4 : Int32)) = (0 : Int32))))), .val (.ref b16), .val (.int (1 : Int32)), .val (.int (0 : Int32)), .val (.int ((0 : Int32) - (1 : Int32))), .val (.int (1 : Int32)), .val (.int (0 : Int32))] [(.int ((0 : Int32) - (((0 : Int32) + (1 : Int32)) + (1 : Int32))))])) _
          refine XS.iload X132.here hx rfl (hb hby at_141) rfl ?_
          show Steps p.tables e below (T132.setTop (mkF m 143 #[.val (.int p0_0), .val (.int p0_1), .val (.int (bI (¬ ((p0_1 &&& (1 : Int32)) = (0 : Int32))))), .val (.int (bI (¬ ((p0_1 &&& (2 : Int32)) = (0 : Int32))))), .val (.int (bI (¬ ((p0_1 &&& (4 : Int32)) = (0 : Int32))))), .val (.ref b16), .val (.int (1 : Int32)), .val (.int (0 : Int32)), .val (.int ((0 : Int32) - (1 : Int32))), .val (.int (1 : Int32)), .val (.int (0 : Int32))] [(.int ((0 : Int32) - (1 : Int32))), (.int ((0 : Int32) - (((0 : Int32) + (1 : Int32)) + (1 : Int32))))])) _
          refine XS.iconst X132.here hx rfl (hb hby at_143) ?_
          show Steps p.tables e below (T132.setTop (mkF m 144 #[.val (.int p0_0), .val (.int p0_1), .val (.int (bI (¬ ((p0_1 &&& (1 : Int32)) = (0 : Int32))))), .val (.int (bI (¬ ((p0_1 &&& (2 : Int32)) = (0 : Int32))))), .val (.int (bI (¬ ((p0_1 &&& (4 : Int32)) = (0 : Int32))))), .val (.ref b16), .val (.int (1 : Int32)), .val (.int (0 : Int32)), .val (.int ((0 : Int32) - (1 : Int32))), .val (.int (1 : Int32)), .val (.int (0 : Int32))] [(.int (1 : Int32)), (.int ((0 : Int32) - (1 : Int32))), (.int ((0 : Int32) - (((0 : Int32) + (1 : Int32)) + (1 : Int32))))])) _
          refine XS.isub X132.here hx rfl (hb hby at_144) rfl ?_
          show Steps p.tables e below (T132.setTop (mkF m 145 #[.val (.int p0_0), .val (.int p0_1), .val (.int (bI (¬ ((p0_1 &&& (1 : Int32)) = (0 : Int32))))), .val (.int (bI (¬ ((p0_1 &&& (2 : Int32)) = (0 : Int32))))), .val (.int (bI (¬ ((p0_1 &&& (4 : Int32)) = (0 : Int32))))), .val (.ref b16), .val (.int (1 : Int32)), .val (.int (0 : Int32)), .val (.int ((0 : Int32) - (1 : Int32))), .val (.int (1 : Int32)), .val (.int (0 : Int32))] [(.int (((0 : Int32) - (1 : Int32)) - (1 : Int32))), (.int ((0 : Int32) - (((0 : Int32) + (1 : Int32)) + (1 : Int32))))])) _
          refine XS.icmpNo X132.here hx rfl (hb hby at_145) rfl (teq hd135).2 ?_
          show Steps p.tables e below (T132.setTop (mkF m 148 #[.val (.int p0_0), .val (.int p0_1), .val (.int (bI (¬ ((p0_1 &&& (1 : Int32)) = (0 : Int32))))), .val (.int (bI (¬ ((p0_1 &&& (2 : Int32)) = (0 : Int32))))), .val (.int (bI (¬ ((p0_1 &&& (4 : Int32)) = (0 : Int32))))), .val (.ref b16), .val (.int (1 : Int32)), .val (.int (0 : Int32)), .val (.int ((0 : Int32) - (1 : Int32))), .val (.int (1 : Int32)), .val (.int (0 : Int32))] [])) _
          refine XS.aload X132.here hx rfl (hb hby at_148) rfl rfl ?_
          show Steps p.tables e below (T132.setTop (mkF m 150 #[.val (.int p0_0), .val (.int p0_1), .val (.int (bI (¬ ((p0_1 &&& (1 : Int32)) = (0 : Int32))))), .val (.int (bI (¬ ((p0_1 &&& (2 : Int32)) = (0 : Int32))))), .val (.int (bI (¬ ((p0_1 &&& (4 : Int32)) = (0 : Int32))))), .val (.ref b16), .val (.int (1 : Int32)), .val (.int (0 : Int32)), .val (.int ((0 : Int32) - (1 : Int32))), .val (.int (1 : Int32)), .val (.int (0 : Int32))] [(.ref b16)])) _
          refine st136.trans ?_
          exact k)
        have hd139 : (((0 : Int32) + (1 : Int32)) + (1 : Int32)) = ((1 : Int32) + (1 : Int32)) := by
          decide
        obtain ⟨cq140, kq140, q140a, q140b, q140c⟩ := isOf hZ e136 r127_0
        obtain ⟨_, _, ⟨T140, L140, k140, n140⟩, -, X140, ⟨Lc140, hQ140, l140, y140, z140⟩, st140⟩ := X136.virtualBack hx (y := (⟨"com/example/shieldwall/shieldwall/engine/MoraleState", "routs", "()I"⟩ : MethodName)) (z := (⟨"com/example/shieldwall/shieldwall/engine/MoraleState", "routs", "()I"⟩ : MethodName)) hown (mvT hZ (hW 37 _ rfl)) (mvT hZ (hW 38 _ rfl)) (notFace_of_selects (args := #[]) (mvT hZ (hW 40 _ rfl))) (mvT hZ (hW 40 _ rfl)) (mvT hZ (hW 39 _ rfl)) (by decide) (backOf (W := 0) (rm7 l Z a0 hw [] b16 (0 : Int32) T127.heap n0 z131 r127_3) hZ (hW 41 _ rfl) (hW 2 _ rfl) (by decide) (by decide)) q140a q140c (g := (mkF m 162 #[.val (.int p0_0), .val (.int p0_1), .val (.int (bI (¬ ((p0_1 &&& (1 : Int32)) = (0 : Int32))))), .val (.int (bI (¬ ((p0_1 &&& (2 : Int32)) = (0 : Int32))))), .val (.int (bI (¬ ((p0_1 &&& (4 : Int32)) = (0 : Int32))))), .val (.ref b16), .val (.int (1 : Int32)), .val (.int (0 : Int32)), .val (.int ((0 : Int32) - (1 : Int32))), .val (.int (1 : Int32)), .val (.int (0 : Int32))] [(.ref b16)])) rfl (by rw [hml]; rfl) (Steps.refl _) (argsL := []) (rest := []) (lenOf pd_2 rfl) rfl (by show 2 * 0 + _ ≤ _; exact Nat.le_of_eq rfl) (hb hby at_162) (fun _ _ => ⟨rfl, e136, (by decide : 1 + 0 ≤ _), (by decide : 7 + 0 ≤ _)⟩)
        dsimp only [Pt.U, Pt.locs, Pt.cells, Pt.slots] at X140 l140 y140 z140 st140 hQ140
        subst l140 y140 z140
        obtain ⟨rfl, N140q, e140⟩ := hQ140
        have N141 := Fr.app N137 N140q
        have pre142 : ∀ t, Steps p.tables e below (T140.setTop (mkF m 165 #[.val (.int p0_0), .val (.int p0_1), .val (.int (bI (¬ ((p0_1 &&& (1 : Int32)) = (0 : Int32))))), .val (.int (bI (¬ ((p0_1 &&& (2 : Int32)) = (0 : Int32))))), .val (.int (bI (¬ ((p0_1 &&& (4 : Int32)) = (0 : Int32))))), .val (.ref b16), .val (.int (1 : Int32)), .val (.int (0 : Int32)), .val (.int ((0 : Int32) - (1 : Int32))), .val (.int (1 : Int32)), .val (.int (0 : Int32))] [(.int (0 : Int32))])) t → Steps p.tables e below (s₁.setTop (entryFrame m #[(.int p0_0), (.int p0_1)] maxLocals)) t := fun t k => pre138 t (by
          show Steps p.tables e below (T136.setTop (mkF m 153 #[.val (.int p0_0), .val (.int p0_1), .val (.int (bI (¬ ((p0_1 &&& (1 : Int32)) = (0 : Int32))))), .val (.int (bI (¬ ((p0_1 &&& (2 : Int32)) = (0 : Int32))))), .val (.int (bI (¬ ((p0_1 &&& (4 : Int32)) = (0 : Int32))))), .val (.ref b16), .val (.int (1 : Int32)), .val (.int (0 : Int32)), .val (.int ((0 : Int32) - (1 : Int32))), .val (.int (1 : Int32)), .val (.int (0 : Int32))] [(.int (((0 : Int32) + (1 : Int32)) + (1 : Int32)))])) _
          refine XS.iload X136.here hx rfl (hb hby at_153) rfl ?_
          show Steps p.tables e below (T136.setTop (mkF m 155 #[.val (.int p0_0), .val (.int p0_1), .val (.int (bI (¬ ((p0_1 &&& (1 : Int32)) = (0 : Int32))))), .val (.int (bI (¬ ((p0_1 &&& (2 : Int32)) = (0 : Int32))))), .val (.int (bI (¬ ((p0_1 &&& (4 : Int32)) = (0 : Int32))))), .val (.ref b16), .val (.int (1 : Int32)), .val (.int (0 : Int32)), .val (.int ((0 : Int32) - (1 : Int32))), .val (.int (1 : Int32)), .val (.int (0 : Int32))] [(.int (1 : Int32)), (.int (((0 : Int32) + (1 : Int32)) + (1 : Int32)))])) _
          refine XS.iconst X136.here hx rfl (hb hby at_155) ?_
          show Steps p.tables e below (T136.setTop (mkF m 156 #[.val (.int p0_0), .val (.int p0_1), .val (.int (bI (¬ ((p0_1 &&& (1 : Int32)) = (0 : Int32))))), .val (.int (bI (¬ ((p0_1 &&& (2 : Int32)) = (0 : Int32))))), .val (.int (bI (¬ ((p0_1 &&& (4 : Int32)) = (0 : Int32))))), .val (.ref b16), .val (.int (1 : Int32)), .val (.int (0 : Int32)), .val (.int ((0 : Int32) - (1 : Int32))), .val (.int (1 : Int32)), .val (.int (0 : Int32))] [(.int (1 : Int32)), (.int (1 : Int32)), (.int (((0 : Int32) + (1 : Int32)) + (1 : Int32)))])) _
          refine XS.iadd X136.here hx rfl (hb hby at_156) rfl ?_
          show Steps p.tables e below (T136.setTop (mkF m 157 #[.val (.int p0_0), .val (.int p0_1), .val (.int (bI (¬ ((p0_1 &&& (1 : Int32)) = (0 : Int32))))), .val (.int (bI (¬ ((p0_1 &&& (2 : Int32)) = (0 : Int32))))), .val (.int (bI (¬ ((p0_1 &&& (4 : Int32)) = (0 : Int32))))), .val (.ref b16), .val (.int (1 : Int32)), .val (.int (0 : Int32)), .val (.int ((0 : Int32) - (1 : Int32))), .val (.int (1 : Int32)), .val (.int (0 : Int32))] [(.int ((1 : Int32) + (1 : Int32))), (.int (((0 : Int32) + (1 : Int32)) + (1 : Int32)))])) _
          refine XS.icmpNo X136.here hx rfl (hb hby at_157) rfl (teq hd139).2 ?_
          show Steps p.tables e below (T136.setTop (mkF m 160 #[.val (.int p0_0), .val (.int p0_1), .val (.int (bI (¬ ((p0_1 &&& (1 : Int32)) = (0 : Int32))))), .val (.int (bI (¬ ((p0_1 &&& (2 : Int32)) = (0 : Int32))))), .val (.int (bI (¬ ((p0_1 &&& (4 : Int32)) = (0 : Int32))))), .val (.ref b16), .val (.int (1 : Int32)), .val (.int (0 : Int32)), .val (.int ((0 : Int32) - (1 : Int32))), .val (.int (1 : Int32)), .val (.int (0 : Int32))] [])) _
          refine XS.aload X136.here hx rfl (hb hby at_160) rfl rfl ?_
          show Steps p.tables e below (T136.setTop (mkF m 162 #[.val (.int p0_0), .val (.int p0_1), .val (.int (bI (¬ ((p0_1 &&& (1 : Int32)) = (0 : Int32))))), .val (.int (bI (¬ ((p0_1 &&& (2 : Int32)) = (0 : Int32))))), .val (.int (bI (¬ ((p0_1 &&& (4 : Int32)) = (0 : Int32))))), .val (.ref b16), .val (.int (1 : Int32)), .val (.int (0 : Int32)), .val (.int ((0 : Int32) - (1 : Int32))), .val (.int (1 : Int32)), .val (.int (0 : Int32))] [(.ref b16)])) _
          refine st140.trans ?_
          exact k)
        obtain ⟨cq143, kq143, q143a, q143b, q143c⟩ := isOf hZ e140 r127_0
        obtain ⟨_, _, ⟨T143, L143, k143, n143⟩, -, X143, ⟨Lc143, hQ143, l143, y143, z143⟩, st143⟩ := X140.virtualBack hx (y := (⟨"com/example/shieldwall/shieldwall/engine/MoraleState", "routing", "()Z"⟩ : MethodName)) (z := (⟨"com/example/shieldwall/shieldwall/engine/MoraleState", "routing", "()Z"⟩ : MethodName)) hown (mvT hZ (hW 44 _ rfl)) (mvT hZ (hW 45 _ rfl)) (notFace_of_selects (args := #[]) (mvT hZ (hW 47 _ rfl))) (mvT hZ (hW 47 _ rfl)) (mvT hZ (hW 46 _ rfl)) (by decide) (backOf (W := 0) (rm8 l Z a0 hw [] b16 (0 : Int32) T127.heap n0 z131 r127_4) hZ (hW 48 _ rfl) (hW 2 _ rfl) (by decide) (by decide)) q143a q143c (g := (mkF m 172 #[.val (.int p0_0), .val (.int p0_1), .val (.int (bI (¬ ((p0_1 &&& (1 : Int32)) = (0 : Int32))))), .val (.int (bI (¬ ((p0_1 &&& (2 : Int32)) = (0 : Int32))))), .val (.int (bI (¬ ((p0_1 &&& (4 : Int32)) = (0 : Int32))))), .val (.ref b16), .val (.int (1 : Int32)), .val (.int (0 : Int32)), .val (.int ((0 : Int32) - (1 : Int32))), .val (.int (1 : Int32)), .val (.int (0 : Int32))] [(.ref b16)])) rfl (by rw [hml]; rfl) (Steps.refl _) (argsL := []) (rest := []) (lenOf pd_3 rfl) rfl (by show 2 * 0 + _ ≤ _; exact Nat.le_of_eq rfl) (hb hby at_172) (fun _ _ => ⟨rfl, e140, (by decide : 1 + 0 ≤ _), (by decide : 7 + 0 ≤ _)⟩)
        dsimp only [Pt.U, Pt.locs, Pt.cells, Pt.slots] at X143 l143 y143 z143 st143 hQ143
        subst l143 y143 z143
        obtain ⟨rfl, N143q, e143⟩ := hQ143
        have N144 := Fr.app N141 N143q
        have pre145 : ∀ t, Steps p.tables e below (T143.setTop (mkF m 175 #[.val (.int p0_0), .val (.int p0_1), .val (.int (bI (¬ ((p0_1 &&& (1 : Int32)) = (0 : Int32))))), .val (.int (bI (¬ ((p0_1 &&& (2 : Int32)) = (0 : Int32))))), .val (.int (bI (¬ ((p0_1 &&& (4 : Int32)) = (0 : Int32))))), .val (.ref b16), .val (.int (1 : Int32)), .val (.int (0 : Int32)), .val (.int ((0 : Int32) - (1 : Int32))), .val (.int (1 : Int32)), .val (.int (0 : Int32))] [(.int (nar .boolean (0 : Int32)))])) t → Steps p.tables e below (s₁.setTop (entryFrame m #[(.int p0_0), (.int p0_1)] maxLocals)) t := fun t k => pre142 t (by
          show Steps p.tables e below (T140.setTop (mkF m 165 #[.val (.int p0_0), .val (.int p0_1), .val (.int (bI (¬ ((p0_1 &&& (1 : Int32)) = (0 : Int32))))), .val (.int (bI (¬ ((p0_1 &&& (2 : Int32)) = (0 : Int32))))), .val (.int (bI (¬ ((p0_1 &&& (4 : Int32)) = (0 : Int32))))), .val (.ref b16), .val (.int (1 : Int32)), .val (.int (0 : Int32)), .val (.int ((0 : Int32) - (1 : Int32))), .val (.int (1 : Int32)), .val (.int (0 : Int32))] [(.int (0 : Int32))])) _
          refine XS.iload X140.here hx rfl (hb hby at_165) rfl ?_
          show Steps p.tables e below (T140.setTop (mkF m 167 #[.val (.int p0_0), .val (.int p0_1), .val (.int (bI (¬ ((p0_1 &&& (1 : Int32)) = (0 : Int32))))), .val (.int (bI (¬ ((p0_1 &&& (2 : Int32)) = (0 : Int32))))), .val (.int (bI (¬ ((p0_1 &&& (4 : Int32)) = (0 : Int32))))), .val (.ref b16), .val (.int (1 : Int32)), .val (.int (0 : Int32)), .val (.int ((0 : Int32) - (1 : Int32))), .val (.int (1 : Int32)), .val (.int (0 : Int32))] [(.int (0 : Int32)), (.int (0 : Int32))])) _
          refine XS.icmpNo X140.here hx rfl (hb hby at_167) rfl (teq (by decide : (0 : Int32) = (0 : Int32))).2 ?_
          show Steps p.tables e below (T140.setTop (mkF m 170 #[.val (.int p0_0), .val (.int p0_1), .val (.int (bI (¬ ((p0_1 &&& (1 : Int32)) = (0 : Int32))))), .val (.int (bI (¬ ((p0_1 &&& (2 : Int32)) = (0 : Int32))))), .val (.int (bI (¬ ((p0_1 &&& (4 : Int32)) = (0 : Int32))))), .val (.ref b16), .val (.int (1 : Int32)), .val (.int (0 : Int32)), .val (.int ((0 : Int32) - (1 : Int32))), .val (.int (1 : Int32)), .val (.int (0 : Int32))] [])) _
          refine XS.aload X140.here hx rfl (hb hby at_170) rfl rfl ?_
          show Steps p.tables e below (T140.setTop (mkF m 172 #[.val (.int p0_0), .val (.int p0_1), .val (.int (bI (¬ ((p0_1 &&& (1 : Int32)) = (0 : Int32))))), .val (.int (bI (¬ ((p0_1 &&& (2 : Int32)) = (0 : Int32))))), .val (.int (bI (¬ ((p0_1 &&& (4 : Int32)) = (0 : Int32))))), .val (.ref b16), .val (.int (1 : Int32)), .val (.int (0 : Int32)), .val (.int ((0 : Int32) - (1 : Int32))), .val (.int (1 : Int32)), .val (.int (0 : Int32))] [(.ref b16)])) _
          refine st143.trans ?_
          exact k)
        have hd146 : (nar .boolean (0 : Int32)) = (bI (¬ ((p0_1 &&& (4 : Int32)) = (0 : Int32)))) := by
          rw [bI_f hc97]
          rfl
        obtain ⟨cq147, kq147, q147a, q147b, q147c⟩ := isOf hZ e143 r127_0
        obtain ⟨_, _, ⟨T147, L147, k147, n147⟩, -, X147, ⟨Lc147, hQ147, l147, y147, z147⟩, st147⟩ := X143.virtualBack hx (y := (⟨"com/example/shieldwall/shieldwall/engine/MoraleState", "startStrength", "()I"⟩ : MethodName)) (z := (⟨"com/example/shieldwall/shieldwall/engine/MoraleState", "startStrength", "()I"⟩ : MethodName)) hown (mvT hZ (hW 51 _ rfl)) (mvT hZ (hW 52 _ rfl)) (notFace_of_selects (args := #[]) (mvT hZ (hW 54 _ rfl))) (mvT hZ (hW 54 _ rfl)) (mvT hZ (hW 53 _ rfl)) (by decide) (backOf (W := 0) (rm9 l Z a0 hw [] b16 p0_0 T127.heap n0 z131 r127_1) hZ (hW 55 _ rfl) (hW 2 _ rfl) (by decide) (by decide)) q147a q147c (g := (mkF m 182 #[.val (.int p0_0), .val (.int p0_1), .val (.int (bI (¬ ((p0_1 &&& (1 : Int32)) = (0 : Int32))))), .val (.int (bI (¬ ((p0_1 &&& (2 : Int32)) = (0 : Int32))))), .val (.int (bI (¬ ((p0_1 &&& (4 : Int32)) = (0 : Int32))))), .val (.ref b16), .val (.int (1 : Int32)), .val (.int (0 : Int32)), .val (.int ((0 : Int32) - (1 : Int32))), .val (.int (1 : Int32)), .val (.int (0 : Int32))] [(.ref b16)])) rfl (by rw [hml]; rfl) (Steps.refl _) (argsL := []) (rest := []) (lenOf pd_2 rfl) rfl (by show 2 * 0 + _ ≤ _; exact Nat.le_of_eq rfl) (hb hby at_182) (fun _ _ => ⟨rfl, e143, (by decide : 1 + 0 ≤ _), (by decide : 7 + 0 ≤ _)⟩)
        dsimp only [Pt.U, Pt.locs, Pt.cells, Pt.slots] at X147 l147 y147 z147 st147 hQ147
        subst l147 y147 z147
        obtain ⟨rfl, N147q, e147⟩ := hQ147
        have N148 := Fr.app N144 N147q
        have pre149 : ∀ t, Steps p.tables e below (T147.setTop (mkF m 185 #[.val (.int p0_0), .val (.int p0_1), .val (.int (bI (¬ ((p0_1 &&& (1 : Int32)) = (0 : Int32))))), .val (.int (bI (¬ ((p0_1 &&& (2 : Int32)) = (0 : Int32))))), .val (.int (bI (¬ ((p0_1 &&& (4 : Int32)) = (0 : Int32))))), .val (.ref b16), .val (.int (1 : Int32)), .val (.int (0 : Int32)), .val (.int ((0 : Int32) - (1 : Int32))), .val (.int (1 : Int32)), .val (.int (0 : Int32))] [(.int p0_0)])) t → Steps p.tables e below (s₁.setTop (entryFrame m #[(.int p0_0), (.int p0_1)] maxLocals)) t := fun t k => pre145 t (by
          show Steps p.tables e below (T143.setTop (mkF m 175 #[.val (.int p0_0), .val (.int p0_1), .val (.int (bI (¬ ((p0_1 &&& (1 : Int32)) = (0 : Int32))))), .val (.int (bI (¬ ((p0_1 &&& (2 : Int32)) = (0 : Int32))))), .val (.int (bI (¬ ((p0_1 &&& (4 : Int32)) = (0 : Int32))))), .val (.ref b16), .val (.int (1 : Int32)), .val (.int (0 : Int32)), .val (.int ((0 : Int32) - (1 : Int32))), .val (.int (1 : Int32)), .val (.int (0 : Int32))] [(.int (nar .boolean (0 : Int32)))])) _
          refine XS.iload X143.here hx rfl (hb hby at_175) rfl ?_
          show Steps p.tables e below (T143.setTop (mkF m 177 #[.val (.int p0_0), .val (.int p0_1), .val (.int (bI (¬ ((p0_1 &&& (1 : Int32)) = (0 : Int32))))), .val (.int (bI (¬ ((p0_1 &&& (2 : Int32)) = (0 : Int32))))), .val (.int (bI (¬ ((p0_1 &&& (4 : Int32)) = (0 : Int32))))), .val (.ref b16), .val (.int (1 : Int32)), .val (.int (0 : Int32)), .val (.int ((0 : Int32) - (1 : Int32))), .val (.int (1 : Int32)), .val (.int (0 : Int32))] [(.int (bI (¬ ((p0_1 &&& (4 : Int32)) = (0 : Int32))))), (.int (nar .boolean (0 : Int32)))])) _
          refine XS.icmpNo X143.here hx rfl (hb hby at_177) rfl (teq hd146).2 ?_
          show Steps p.tables e below (T143.setTop (mkF m 180 #[.val (.int p0_0), .val (.int p0_1), .val (.int (bI (¬ ((p0_1 &&& (1 : Int32)) = (0 : Int32))))), .val (.int (bI (¬ ((p0_1 &&& (2 : Int32)) = (0 : Int32))))), .val (.int (bI (¬ ((p0_1 &&& (4 : Int32)) = (0 : Int32))))), .val (.ref b16), .val (.int (1 : Int32)), .val (.int (0 : Int32)), .val (.int ((0 : Int32) - (1 : Int32))), .val (.int (1 : Int32)), .val (.int (0 : Int32))] [])) _
          refine XS.aload X143.here hx rfl (hb hby at_180) rfl rfl ?_
          show Steps p.tables e below (T143.setTop (mkF m 182 #[.val (.int p0_0), .val (.int p0_1), .val (.int (bI (¬ ((p0_1 &&& (1 : Int32)) = (0 : Int32))))), .val (.int (bI (¬ ((p0_1 &&& (2 : Int32)) = (0 : Int32))))), .val (.int (bI (¬ ((p0_1 &&& (4 : Int32)) = (0 : Int32))))), .val (.ref b16), .val (.int (1 : Int32)), .val (.int (0 : Int32)), .val (.int ((0 : Int32) - (1 : Int32))), .val (.int (1 : Int32)), .val (.int (0 : Int32))] [(.ref b16)])) _
          refine st147.trans ?_
          exact k)
        obtain ⟨fs, hr, hrun, hended, hW, hsame⟩ := X147.leave (v := some (.int (1 : Int32))) (fun h => by rw [Bd.returns] at h; cases h)
        refine ⟨_, _, pre149 _ ?_, hrun, hended, _, _, rfl, ?_, ⟨_, rfl⟩, hW, hsame.mono (by decide) (by decide)⟩
        · show Steps p.tables e below (T147.setTop (mkF m 185 #[.val (.int p0_0), .val (.int p0_1), .val (.int (bI (¬ ((p0_1 &&& (1 : Int32)) = (0 : Int32))))), .val (.int (bI (¬ ((p0_1 &&& (2 : Int32)) = (0 : Int32))))), .val (.int (bI (¬ ((p0_1 &&& (4 : Int32)) = (0 : Int32))))), .val (.ref b16), .val (.int (1 : Int32)), .val (.int (0 : Int32)), .val (.int ((0 : Int32) - (1 : Int32))), .val (.int (1 : Int32)), .val (.int (0 : Int32))] [(.int p0_0)])) _
          refine XS.iloadN X147.here hx rfl (hb hby at_185) rfl ?_
          show Steps p.tables e below (T147.setTop (mkF m 186 #[.val (.int p0_0), .val (.int p0_1), .val (.int (bI (¬ ((p0_1 &&& (1 : Int32)) = (0 : Int32))))), .val (.int (bI (¬ ((p0_1 &&& (2 : Int32)) = (0 : Int32))))), .val (.int (bI (¬ ((p0_1 &&& (4 : Int32)) = (0 : Int32))))), .val (.ref b16), .val (.int (1 : Int32)), .val (.int (0 : Int32)), .val (.int ((0 : Int32) - (1 : Int32))), .val (.int (1 : Int32)), .val (.int (0 : Int32))] [(.int p0_0), (.int p0_0)])) _
          refine XS.icmpNo X147.here hx rfl (hb hby at_186) rfl (teq (rfl : p0_0 = p0_0)).2 ?_
          show Steps p.tables e below (T147.setTop (mkF m 189 #[.val (.int p0_0), .val (.int p0_1), .val (.int (bI (¬ ((p0_1 &&& (1 : Int32)) = (0 : Int32))))), .val (.int (bI (¬ ((p0_1 &&& (2 : Int32)) = (0 : Int32))))), .val (.int (bI (¬ ((p0_1 &&& (4 : Int32)) = (0 : Int32))))), .val (.ref b16), .val (.int (1 : Int32)), .val (.int (0 : Int32)), .val (.int ((0 : Int32) - (1 : Int32))), .val (.int (1 : Int32)), .val (.int (0 : Int32))] [])) _
          refine XS.iconst X147.here hx rfl (hb hby at_189) ?_
          show Steps p.tables e below (T147.setTop (mkF m 190 #[.val (.int p0_0), .val (.int p0_1), .val (.int (bI (¬ ((p0_1 &&& (1 : Int32)) = (0 : Int32))))), .val (.int (bI (¬ ((p0_1 &&& (2 : Int32)) = (0 : Int32))))), .val (.int (bI (¬ ((p0_1 &&& (4 : Int32)) = (0 : Int32))))), .val (.ref b16), .val (.int (1 : Int32)), .val (.int (0 : Int32)), .val (.int ((0 : Int32) - (1 : Int32))), .val (.int (1 : Int32)), .val (.int (0 : Int32))] [(.int (1 : Int32))])) _
          refine XS.goto X147.here hx rfl (pc0 := 190) (pc' := 194) rfl (hb hby at_190) (by decide) (by decide) ?_
          show Steps p.tables e below (T147.setTop (mkF m 194 #[.val (.int p0_0), .val (.int p0_1), .val (.int (bI (¬ ((p0_1 &&& (1 : Int32)) = (0 : Int32))))), .val (.int (bI (¬ ((p0_1 &&& (2 : Int32)) = (0 : Int32))))), .val (.int (bI (¬ ((p0_1 &&& (4 : Int32)) = (0 : Int32))))), .val (.ref b16), .val (.int (1 : Int32)), .val (.int (0 : Int32)), .val (.int ((0 : Int32) - (1 : Int32))), .val (.int (1 : Int32)), .val (.int (0 : Int32))] [(.int (1 : Int32))])) _
          exact retN X147 hx (t := .boolean) Bd.returns (by simp) (hb hby at_194) hr
        · show Q0 Z p0_0 p0_1 h0 n0 _ T147.heap _
          rw [e147]
          exact ⟨rfl, N148⟩
  · by_cases hc151 : ¬ ((p0_1 &&& (2 : Int32)) = (0 : Int32))
    · obtain ⟨cq152, kq152, q152a, q152b, q152c⟩ := isOf hZ rfl r25_0
      obtain ⟨_, _, ⟨T152, L152, k152, n152⟩, -, X152, ⟨Lc152, hQ152, l152, y152, z152⟩, st152⟩ := X25.virtualBack hx (y := (⟨"com/example/shieldwall/shieldwall/engine/MoraleState", "won", "()V"⟩ : MethodName)) (z := (⟨"com/example/shieldwall/shieldwall/engine/MoraleState", "won", "()V"⟩ : MethodName)) hown (mvT hZ (hW 20 _ rfl)) (mvT hZ (hW 21 _ rfl)) (notFace_of_selects (args := #[]) (mvT hZ (hW 23 _ rfl))) (mvT hZ (hW 23 _ rfl)) (mvT hZ (hW 22 _ rfl)) (by decide) (backOf (W := 0) (rm4 l Z a0 hw [] b16 (0 : Int32) p0_0 (0 : Int32) (0 : Int32) (0 : Int32) (0 : Int32) T25.heap n0 z29 r25_3 r25_0 r25_6 r25_1 r25_2 r25_4 r25_5 gz16) hZ (hW 24 _ rfl) (hW 2 _ rfl) (by decide) (by decide)) q152a q152c (g := (mkF m 62 #[.val (.int p0_0), .val (.int p0_1), .val (.int (bI (¬ ((p0_1 &&& (1 : Int32)) = (0 : Int32))))), .val (.int (bI (¬ ((p0_1 &&& (2 : Int32)) = (0 : Int32))))), .val (.int (bI (¬ ((p0_1 &&& (4 : Int32)) = (0 : Int32))))), .val (.ref b16), .unset, .unset, .unset, .unset, .unset] [(.ref b16)])) rfl (by rw [hml]; rfl) (Steps.refl _) (argsL := []) (rest := []) (lenOf pd_1 rfl) rfl (by show 2 * 0 + _ ≤ _; exact Nat.le_of_eq rfl) (hb hby at_62) (fun _ _ => ⟨rfl, rfl, (by decide : 1 + 0 ≤ _), (by decide : 7 + 0 ≤ _)⟩)
      dsimp only [Pt.U, Pt.locs, Pt.cells, Pt.slots] at X152 l152 y152 z152 st152 hQ152
      subst l152 y152 z152
      obtain ⟨rfl, N152q, K152, r152_0, r152_1, r152_2, r152_3, r152_4, r152_5, r152_6⟩ := hQ152
      have N153 := Fr.app N26 N152q
      have pre154 : ∀ t, Steps p.tables e below (T152.setTop (mkF m 65 #[.val (.int p0_0), .val (.int p0_1), .val (.int (bI (¬ ((p0_1 &&& (1 : Int32)) = (0 : Int32))))), .val (.int (bI (¬ ((p0_1 &&& (2 : Int32)) = (0 : Int32))))), .val (.int (bI (¬ ((p0_1 &&& (4 : Int32)) = (0 : Int32))))), .val (.ref b16), .unset, .unset, .unset, .unset, .unset] [])) t → Steps p.tables e below (s₁.setTop (entryFrame m #[(.int p0_0), (.int p0_1)] maxLocals)) t := fun t k => pre27 t (by
        show Steps p.tables e below (T25.setTop (mkF m 45 #[.val (.int p0_0), .val (.int p0_1), .val (.int (bI (¬ ((p0_1 &&& (1 : Int32)) = (0 : Int32))))), .val (.int (bI (¬ ((p0_1 &&& (2 : Int32)) = (0 : Int32))))), .val (.int (bI (¬ ((p0_1 &&& (4 : Int32)) = (0 : Int32))))), .unset, .unset, .unset, .unset, .unset, .unset] [(.ref b16)])) _
        refine XS.astore X25.here hx rfl (hb hby at_45) rfl rfl (l' := #[.val (.int p0_0), .val (.int p0_1), .val (.int (bI (¬ ((p0_1 &&& (1 : Int32)) = (0 : Int32))))), .val (.int (bI (¬ ((p0_1 &&& (2 : Int32)) = (0 : Int32))))), .val (.int (bI (¬ ((p0_1 &&& (4 : Int32)) = (0 : Int32))))), .val (.ref b16), .unset, .unset, .unset, .unset, .unset]) rfl ?_
        show Steps p.tables e below (T25.setTop (mkF m 47 #[.val (.int p0_0), .val (.int p0_1), .val (.int (bI (¬ ((p0_1 &&& (1 : Int32)) = (0 : Int32))))), .val (.int (bI (¬ ((p0_1 &&& (2 : Int32)) = (0 : Int32))))), .val (.int (bI (¬ ((p0_1 &&& (4 : Int32)) = (0 : Int32))))), .val (.ref b16), .unset, .unset, .unset, .unset, .unset] [])) _
        refine XS.iloadN X25.here hx rfl (hb hby at_47) rfl ?_
        show Steps p.tables e below (T25.setTop (mkF m 48 #[.val (.int p0_0), .val (.int p0_1), .val (.int (bI (¬ ((p0_1 &&& (1 : Int32)) = (0 : Int32))))), .val (.int (bI (¬ ((p0_1 &&& (2 : Int32)) = (0 : Int32))))), .val (.int (bI (¬ ((p0_1 &&& (4 : Int32)) = (0 : Int32))))), .val (.ref b16), .unset, .unset, .unset, .unset, .unset] [(.int (bI (¬ ((p0_1 &&& (1 : Int32)) = (0 : Int32)))))])) _
        refine XS.ifYes X25.here hx rfl (pc0 := 48) (pc' := 56) rfl (hb hby at_48) rfl ((if0 _ _).trans (teq (bI_f hc31)).1) (by decide) (by decide) ?_
        show Steps p.tables e below (T25.setTop (mkF m 56 #[.val (.int p0_0), .val (.int p0_1), .val (.int (bI (¬ ((p0_1 &&& (1 : Int32)) = (0 : Int32))))), .val (.int (bI (¬ ((p0_1 &&& (2 : Int32)) = (0 : Int32))))), .val (.int (bI (¬ ((p0_1 &&& (4 : Int32)) = (0 : Int32))))), .val (.ref b16), .unset, .unset, .unset, .unset, .unset] [])) _
        refine XS.iloadN X25.here hx rfl (hb hby at_56) rfl ?_
        show Steps p.tables e below (T25.setTop (mkF m 57 #[.val (.int p0_0), .val (.int p0_1), .val (.int (bI (¬ ((p0_1 &&& (1 : Int32)) = (0 : Int32))))), .val (.int (bI (¬ ((p0_1 &&& (2 : Int32)) = (0 : Int32))))), .val (.int (bI (¬ ((p0_1 &&& (4 : Int32)) = (0 : Int32))))), .val (.ref b16), .unset, .unset, .unset, .unset, .unset] [(.int (bI (¬ ((p0_1 &&& (2 : Int32)) = (0 : Int32)))))])) _
        refine XS.ifNo X25.here hx rfl (hb hby at_57) rfl ((if0 _ _).trans (feq (bI_n hc151)).1) ?_
        show Steps p.tables e below (T25.setTop (mkF m 60 #[.val (.int p0_0), .val (.int p0_1), .val (.int (bI (¬ ((p0_1 &&& (1 : Int32)) = (0 : Int32))))), .val (.int (bI (¬ ((p0_1 &&& (2 : Int32)) = (0 : Int32))))), .val (.int (bI (¬ ((p0_1 &&& (4 : Int32)) = (0 : Int32))))), .val (.ref b16), .unset, .unset, .unset, .unset, .unset] [])) _
        refine XS.aload X25.here hx rfl (hb hby at_60) rfl rfl ?_
        show Steps p.tables e below (T25.setTop (mkF m 62 #[.val (.int p0_0), .val (.int p0_1), .val (.int (bI (¬ ((p0_1 &&& (1 : Int32)) = (0 : Int32))))), .val (.int (bI (¬ ((p0_1 &&& (2 : Int32)) = (0 : Int32))))), .val (.int (bI (¬ ((p0_1 &&& (4 : Int32)) = (0 : Int32))))), .val (.ref b16), .unset, .unset, .unset, .unset, .unset] [(.ref b16)])) _
        refine st152.trans ?_
        exact k)
      have f155 := r25_0.keep K152
      have z156 := Nat.le_trans z29 K152.1
      by_cases hc158 : ¬ ((p0_1 &&& (4 : Int32)) = (0 : Int32))
      · obtain ⟨cq159, kq159, q159a, q159b, q159c⟩ := isOf hZ rfl r152_0
        obtain ⟨_, _, ⟨T159, L159, k159, n159⟩, -, X159, ⟨Lc159, hQ159, l159, y159, z159⟩, st159⟩ := X152.virtualBack hx (y := (⟨"com/example/shieldwall/shieldwall/engine/MoraleState", "routed", "()V"⟩ : MethodName)) (z := (⟨"com/example/shieldwall/shieldwall/engine/MoraleState", "routed", "()V"⟩ : MethodName)) hown (mvT hZ (hW 56 _ rfl)) (mvT hZ (hW 57 _ rfl)) (notFace_of_selects (args := #[]) (mvT hZ (hW 59 _ rfl))) (mvT hZ (hW 59 _ rfl)) (mvT hZ (hW 58 _ rfl)) (by decide) (backOf (W := 0) (rm10 l Z a0 hw [] b16 (0 : Int32) p0_0 (0 : Int32) (0 : Int32) ((0 : Int32) + (1 : Int32)) (0 : Int32) T152.heap n0 z156 r152_3 r152_0 r152_1 r152_2 r152_6 r152_5 r152_4 gz16) hZ (hW 60 _ rfl) (hW 2 _ rfl) (by decide) (by decide)) q159a q159c (g := (mkF m 72 #[.val (.int p0_0), .val (.int p0_1), .val (.int (bI (¬ ((p0_1 &&& (1 : Int32)) = (0 : Int32))))), .val (.int (bI (¬ ((p0_1 &&& (2 : Int32)) = (0 : Int32))))), .val (.int (bI (¬ ((p0_1 &&& (4 : Int32)) = (0 : Int32))))), .val (.ref b16), .unset, .unset, .unset, .unset, .unset] [(.ref b16)])) rfl (by rw [hml]; rfl) (Steps.refl _) (argsL := []) (rest := []) (lenOf pd_1 rfl) rfl (by show 2 * 0 + _ ≤ _; exact Nat.le_of_eq rfl) (hb hby at_72) (fun _ _ => ⟨rfl, rfl, (by decide : 1 + 0 ≤ _), (by decide : 7 + 0 ≤ _)⟩)
        dsimp only [Pt.U, Pt.locs, Pt.cells, Pt.slots] at X159 l159 y159 z159 st159 hQ159
        subst l159 y159 z159
        obtain ⟨rfl, N159q, K159, r159_0, r159_1, r159_2, r159_3, r159_4, r159_5, r159_6⟩ := hQ159
        have N160 := Fr.app N153 N159q
        have pre161 : ∀ t, Steps p.tables e below (T159.setTop (mkF m 75 #[.val (.int p0_0), .val (.int p0_1), .val (.int (bI (¬ ((p0_1 &&& (1 : Int32)) = (0 : Int32))))), .val (.int (bI (¬ ((p0_1 &&& (2 : Int32)) = (0 : Int32))))), .val (.int (bI (¬ ((p0_1 &&& (4 : Int32)) = (0 : Int32))))), .val (.ref b16), .unset, .unset, .unset, .unset, .unset] [])) t → Steps p.tables e below (s₁.setTop (entryFrame m #[(.int p0_0), (.int p0_1)] maxLocals)) t := fun t k => pre154 t (by
          show Steps p.tables e below (T152.setTop (mkF m 65 #[.val (.int p0_0), .val (.int p0_1), .val (.int (bI (¬ ((p0_1 &&& (1 : Int32)) = (0 : Int32))))), .val (.int (bI (¬ ((p0_1 &&& (2 : Int32)) = (0 : Int32))))), .val (.int (bI (¬ ((p0_1 &&& (4 : Int32)) = (0 : Int32))))), .val (.ref b16), .unset, .unset, .unset, .unset, .unset] [])) _
          refine XS.iload X152.here hx rfl (hb hby at_65) rfl ?_
          show Steps p.tables e below (T152.setTop (mkF m 67 #[.val (.int p0_0), .val (.int p0_1), .val (.int (bI (¬ ((p0_1 &&& (1 : Int32)) = (0 : Int32))))), .val (.int (bI (¬ ((p0_1 &&& (2 : Int32)) = (0 : Int32))))), .val (.int (bI (¬ ((p0_1 &&& (4 : Int32)) = (0 : Int32))))), .val (.ref b16), .unset, .unset, .unset, .unset, .unset] [(.int (bI (¬ ((p0_1 &&& (4 : Int32)) = (0 : Int32)))))])) _
          refine XS.ifNo X152.here hx rfl (hb hby at_67) rfl ((if0 _ _).trans (feq (bI_n hc158)).1) ?_
          show Steps p.tables e below (T152.setTop (mkF m 70 #[.val (.int p0_0), .val (.int p0_1), .val (.int (bI (¬ ((p0_1 &&& (1 : Int32)) = (0 : Int32))))), .val (.int (bI (¬ ((p0_1 &&& (2 : Int32)) = (0 : Int32))))), .val (.int (bI (¬ ((p0_1 &&& (4 : Int32)) = (0 : Int32))))), .val (.ref b16), .unset, .unset, .unset, .unset, .unset] [])) _
          refine XS.aload X152.here hx rfl (hb hby at_70) rfl rfl ?_
          show Steps p.tables e below (T152.setTop (mkF m 72 #[.val (.int p0_0), .val (.int p0_1), .val (.int (bI (¬ ((p0_1 &&& (1 : Int32)) = (0 : Int32))))), .val (.int (bI (¬ ((p0_1 &&& (2 : Int32)) = (0 : Int32))))), .val (.int (bI (¬ ((p0_1 &&& (4 : Int32)) = (0 : Int32))))), .val (.ref b16), .unset, .unset, .unset, .unset, .unset] [(.ref b16)])) _
          refine st159.trans ?_
          exact k)
        have f162 := r152_0.keep K159
        have z163 := Nat.le_trans z156 K159.1
        obtain ⟨cq164, kq164, q164a, q164b, q164c⟩ := isOf hZ rfl r159_0
        obtain ⟨_, _, ⟨T164, L164, k164, n164⟩, -, X164, ⟨Lc164, hQ164, l164, y164, z164⟩, st164⟩ := X159.virtualBack hx (y := (⟨"com/example/shieldwall/shieldwall/engine/MoraleState", "lost", "()V"⟩ : MethodName)) (z := (⟨"com/example/shieldwall/shieldwall/engine/MoraleState", "lost", "()V"⟩ : MethodName)) hown (mvT hZ (hW 11 _ rfl)) (mvT hZ (hW 12 _ rfl)) (notFace_of_selects (args := #[]) (mvT hZ (hW 14 _ rfl))) (mvT hZ (hW 14 _ rfl)) (mvT hZ (hW 13 _ rfl)) (by decide) (backOf (W := 0) (rm3 l Z a0 hw [] b16 (0 : Int32) p0_0 (0 : Int32) ((0 : Int32) + (1 : Int32)) ((0 : Int32) - (1 : Int32)) (1 : Int32) T159.heap n0 z163 r159_2 r159_0 r159_1 r159_3 r159_4 r159_5 r159_6 gz16) hZ (hW 15 _ rfl) (hW 2 _ rfl) (by decide) (by decide)) q164a q164c (g := (mkF m 133 #[.val (.int p0_0), .val (.int p0_1), .val (.int (bI (¬ ((p0_1 &&& (1 : Int32)) = (0 : Int32))))), .val (.int (bI (¬ ((p0_1 &&& (2 : Int32)) = (0 : Int32))))), .val (.int (bI (¬ ((p0_1 &&& (4 : Int32)) = (0 : Int32))))), .val (.ref b16), .val (.int (0 : Int32)), .val (.int (1 : Int32)), .val (.int ((1 : Int32) - (0 : Int32))), .val (.int (0 : Int32)), .val (.int (-1 : Int32))] [(.ref b16)])) rfl (by rw [hml]; rfl) (Steps.refl _) (argsL := []) (rest := []) (lenOf pd_1 rfl) rfl (by show 2 * 0 + _ ≤ _; exact Nat.le_of_eq rfl) (hb hby at_133) (fun _ _ => ⟨rfl, rfl, (by decide : 1 + 0 ≤ _), (by decide : 7 + 0 ≤ _)⟩)
        dsimp only [Pt.U, Pt.locs, Pt.cells, Pt.slots] at X164 l164 y164 z164 st164 hQ164
        subst l164 y164 z164
        obtain ⟨rfl, N164q, K164, r164_0, r164_1, r164_2, r164_3, r164_4, r164_5, r164_6⟩ := hQ164
        have N165 := Fr.app N160 N164q
        have pre166 : ∀ t, Steps p.tables e below (T164.setTop (mkF m 136 #[.val (.int p0_0), .val (.int p0_1), .val (.int (bI (¬ ((p0_1 &&& (1 : Int32)) = (0 : Int32))))), .val (.int (bI (¬ ((p0_1 &&& (2 : Int32)) = (0 : Int32))))), .val (.int (bI (¬ ((p0_1 &&& (4 : Int32)) = (0 : Int32))))), .val (.ref b16), .val (.int (0 : Int32)), .val (.int (1 : Int32)), .val (.int ((1 : Int32) - (0 : Int32))), .val (.int (0 : Int32)), .val (.int (-1 : Int32))] [])) t → Steps p.tables e below (s₁.setTop (entryFrame m #[(.int p0_0), (.int p0_1)] maxLocals)) t := fun t k => pre161 t (by
          show Steps p.tables e below (T159.setTop (mkF m 75 #[.val (.int p0_0), .val (.int p0_1), .val (.int (bI (¬ ((p0_1 &&& (1 : Int32)) = (0 : Int32))))), .val (.int (bI (¬ ((p0_1 &&& (2 : Int32)) = (0 : Int32))))), .val (.int (bI (¬ ((p0_1 &&& (4 : Int32)) = (0 : Int32))))), .val (.ref b16), .unset, .unset, .unset, .unset, .unset] [])) _
          refine XS.iloadN X159.here hx rfl (hb hby at_75) rfl ?_
          show Steps p.tables e below (T159.setTop (mkF m 76 #[.val (.int p0_0), .val (.int p0_1), .val (.int (bI (¬ ((p0_1 &&& (1 : Int32)) = (0 : Int32))))), .val (.int (bI (¬ ((p0_1 &&& (2 : Int32)) = (0 : Int32))))), .val (.int (bI (¬ ((p0_1 &&& (4 : Int32)) = (0 : Int32))))), .val (.ref b16), .unset, .unset, .unset, .unset, .unset] [(.int (bI (¬ ((p0_1 &&& (1 : Int32)) = (0 : Int32)))))])) _
          refine XS.ifYes X159.here hx rfl (pc0 := 76) (pc' := 83) rfl (hb hby at_76) rfl ((if0 _ _).trans (teq (bI_f hc31)).1) (by decide) (by decide) ?_
          show Steps p.tables e below (T159.setTop (mkF m 83 #[.val (.int p0_0), .val (.int p0_1), .val (.int (bI (¬ ((p0_1 &&& (1 : Int32)) = (0 : Int32))))), .val (.int (bI (¬ ((p0_1 &&& (2 : Int32)) = (0 : Int32))))), .val (.int (bI (¬ ((p0_1 &&& (4 : Int32)) = (0 : Int32))))), .val (.ref b16), .unset, .unset, .unset, .unset, .unset] [])) _
          refine XS.iconst X159.here hx rfl (hb hby at_83) ?_
          show Steps p.tables e below (T159.setTop (mkF m 84 #[.val (.int p0_0), .val (.int p0_1), .val (.int (bI (¬ ((p0_1 &&& (1 : Int32)) = (0 : Int32))))), .val (.int (bI (¬ ((p0_1 &&& (2 : Int32)) = (0 : Int32))))), .val (.int (bI (¬ ((p0_1 &&& (4 : Int32)) = (0 : Int32))))), .val (.ref b16), .unset, .unset, .unset, .unset, .unset] [(.int (0 : Int32))])) _
          refine XS.istore X159.here hx rfl (hb hby at_84) rfl (l' := #[.val (.int p0_0), .val (.int p0_1), .val (.int (bI (¬ ((p0_1 &&& (1 : Int32)) = (0 : Int32))))), .val (.int (bI (¬ ((p0_1 &&& (2 : Int32)) = (0 : Int32))))), .val (.int (bI (¬ ((p0_1 &&& (4 : Int32)) = (0 : Int32))))), .val (.ref b16), .val (.int (0 : Int32)), .unset, .unset, .unset, .unset]) rfl ?_
          show Steps p.tables e below (T159.setTop (mkF m 86 #[.val (.int p0_0), .val (.int p0_1), .val (.int (bI (¬ ((p0_1 &&& (1 : Int32)) = (0 : Int32))))), .val (.int (bI (¬ ((p0_1 &&& (2 : Int32)) = (0 : Int32))))), .val (.int (bI (¬ ((p0_1 &&& (4 : Int32)) = (0 : Int32))))), .val (.ref b16), .val (.int (0 : Int32)), .unset, .unset, .unset, .unset] [])) _
          refine XS.iloadN X159.here hx rfl (hb hby at_86) rfl ?_
          show Steps p.tables e below (T159.setTop (mkF m 87 #[.val (.int p0_0), .val (.int p0_1), .val (.int (bI (¬ ((p0_1 &&& (1 : Int32)) = (0 : Int32))))), .val (.int (bI (¬ ((p0_1 &&& (2 : Int32)) = (0 : Int32))))), .val (.int (bI (¬ ((p0_1 &&& (4 : Int32)) = (0 : Int32))))), .val (.ref b16), .val (.int (0 : Int32)), .unset, .unset, .unset, .unset] [(.int (bI (¬ ((p0_1 &&& (2 : Int32)) = (0 : Int32)))))])) _
          refine XS.ifNo X159.here hx rfl (hb hby at_87) rfl ((if0 _ _).trans (feq (bI_n hc151)).1) ?_
          show Steps p.tables e below (T159.setTop (mkF m 90 #[.val (.int p0_0), .val (.int p0_1), .val (.int (bI (¬ ((p0_1 &&& (1 : Int32)) = (0 : Int32))))), .val (.int (bI (¬ ((p0_1 &&& (2 : Int32)) = (0 : Int32))))), .val (.int (bI (¬ ((p0_1 &&& (4 : Int32)) = (0 : Int32))))), .val (.ref b16), .val (.int (0 : Int32)), .unset, .unset, .unset, .unset] [])) _
          refine XS.iconst X159.here hx rfl (hb hby at_90) ?_
          show Steps p.tables e below (T159.setTop (mkF m 91 #[.val (.int p0_0), .val (.int p0_1), .val (.int (bI (¬ ((p0_1 &&& (1 : Int32)) = (0 : Int32))))), .val (.int (bI (¬ ((p0_1 &&& (2 : Int32)) = (0 : Int32))))), .val (.int (bI (¬ ((p0_1 &&& (4 : Int32)) = (0 : Int32))))), .val (.ref b16), .val (.int (0 : Int32)), .unset, .unset, .unset, .unset] [(.int (1 : Int32))])) _
          refine XS.goto X159.here hx rfl (pc0 := 91) (pc' := 95) rfl (hb hby at_91) (by decide) (by decide) ?_
          show Steps p.tables e below (T159.setTop (mkF m 95 #[.val (.int p0_0), .val (.int p0_1), .val (.int (bI (¬ ((p0_1 &&& (1 : Int32)) = (0 : Int32))))), .val (.int (bI (¬ ((p0_1 &&& (2 : Int32)) = (0 : Int32))))), .val (.int (bI (¬ ((p0_1 &&& (4 : Int32)) = (0 : Int32))))), .val (.ref b16), .val (.int (0 : Int32)), .unset, .unset, .unset, .unset] [(.int (1 : Int32))])) _
          refine XS.istore X159.here hx rfl (hb hby at_95) rfl (l' := #[.val (.int p0_0), .val (.int p0_1), .val (.int (bI (¬ ((p0_1 &&& (1 : Int32)) = (0 : Int32))))), .val (.int (bI (¬ ((p0_1 &&& (2 : Int32)) = (0 : Int32))))), .val (.int (bI (¬ ((p0_1 &&& (4 : Int32)) = (0 : Int32))))), .val (.ref b16), .val (.int (0 : Int32)), .val (.int (1 : Int32)), .unset, .unset, .unset]) rfl ?_
          show Steps p.tables e below (T159.setTop (mkF m 97 #[.val (.int p0_0), .val (.int p0_1), .val (.int (bI (¬ ((p0_1 &&& (1 : Int32)) = (0 : Int32))))), .val (.int (bI (¬ ((p0_1 &&& (2 : Int32)) = (0 : Int32))))), .val (.int (bI (¬ ((p0_1 &&& (4 : Int32)) = (0 : Int32))))), .val (.ref b16), .val (.int (0 : Int32)), .val (.int (1 : Int32)), .unset, .unset, .unset] [])) _
          refine XS.iload X159.here hx rfl (hb hby at_97) rfl ?_
          show Steps p.tables e below (T159.setTop (mkF m 99 #[.val (.int p0_0), .val (.int p0_1), .val (.int (bI (¬ ((p0_1 &&& (1 : Int32)) = (0 : Int32))))), .val (.int (bI (¬ ((p0_1 &&& (2 : Int32)) = (0 : Int32))))), .val (.int (bI (¬ ((p0_1 &&& (4 : Int32)) = (0 : Int32))))), .val (.ref b16), .val (.int (0 : Int32)), .val (.int (1 : Int32)), .unset, .unset, .unset] [(.int (1 : Int32))])) _
          refine XS.iload X159.here hx rfl (hb hby at_99) rfl ?_
          show Steps p.tables e below (T159.setTop (mkF m 101 #[.val (.int p0_0), .val (.int p0_1), .val (.int (bI (¬ ((p0_1 &&& (1 : Int32)) = (0 : Int32))))), .val (.int (bI (¬ ((p0_1 &&& (2 : Int32)) = (0 : Int32))))), .val (.int (bI (¬ ((p0_1 &&& (4 : Int32)) = (0 : Int32))))), .val (.ref b16), .val (.int (0 : Int32)), .val (.int (1 : Int32)), .unset, .unset, .unset] [(.int (0 : Int32)), (.int (1 : Int32))])) _
          refine XS.isub X159.here hx rfl (hb hby at_101) rfl ?_
          show Steps p.tables e below (T159.setTop (mkF m 102 #[.val (.int p0_0), .val (.int p0_1), .val (.int (bI (¬ ((p0_1 &&& (1 : Int32)) = (0 : Int32))))), .val (.int (bI (¬ ((p0_1 &&& (2 : Int32)) = (0 : Int32))))), .val (.int (bI (¬ ((p0_1 &&& (4 : Int32)) = (0 : Int32))))), .val (.ref b16), .val (.int (0 : Int32)), .val (.int (1 : Int32)), .unset, .unset, .unset] [(.int ((1 : Int32) - (0 : Int32)))])) _
          refine XS.istore X159.here hx rfl (hb hby at_102) rfl (l' := #[.val (.int p0_0), .val (.int p0_1), .val (.int (bI (¬ ((p0_1 &&& (1 : Int32)) = (0 : Int32))))), .val (.int (bI (¬ ((p0_1 &&& (2 : Int32)) = (0 : Int32))))), .val (.int (bI (¬ ((p0_1 &&& (4 : Int32)) = (0 : Int32))))), .val (.ref b16), .val (.int (0 : Int32)), .val (.int (1 : Int32)), .val (.int ((1 : Int32) - (0 : Int32))), .unset, .unset]) rfl ?_
          show Steps p.tables e below (T159.setTop (mkF m 104 #[.val (.int p0_0), .val (.int p0_1), .val (.int (bI (¬ ((p0_1 &&& (1 : Int32)) = (0 : Int32))))), .val (.int (bI (¬ ((p0_1 &&& (2 : Int32)) = (0 : Int32))))), .val (.int (bI (¬ ((p0_1 &&& (4 : Int32)) = (0 : Int32))))), .val (.ref b16), .val (.int (0 : Int32)), .val (.int (1 : Int32)), .val (.int ((1 : Int32) - (0 : Int32))), .unset, .unset] [])) _
          refine XS.iloadN X159.here hx rfl (hb hby at_104) rfl ?_
          show Steps p.tables e below (T159.setTop (mkF m 105 #[.val (.int p0_0), .val (.int p0_1), .val (.int (bI (¬ ((p0_1 &&& (1 : Int32)) = (0 : Int32))))), .val (.int (bI (¬ ((p0_1 &&& (2 : Int32)) = (0 : Int32))))), .val (.int (bI (¬ ((p0_1 &&& (4 : Int32)) = (0 : Int32))))), .val (.ref b16), .val (.int (0 : Int32)), .val (.int (1 : Int32)), .val (.int ((1 : Int32) - (0 : Int32))), .unset, .unset] [(.int (bI (¬ ((p0_1 &&& (1 : Int32)) = (0 : Int32)))))])) _
          refine XS.ifYes X159.here hx rfl (pc0 := 105) (pc' := 116) rfl (hb hby at_105) rfl ((if0 _ _).trans (teq (bI_f hc31)).1) (by decide) (by decide) ?_
          show Steps p.tables e below (T159.setTop (mkF m 116 #[.val (.int p0_0), .val (.int p0_1), .val (.int (bI (¬ ((p0_1 &&& (1 : Int32)) = (0 : Int32))))), .val (.int (bI (¬ ((p0_1 &&& (2 : Int32)) = (0 : Int32))))), .val (.int (bI (¬ ((p0_1 &&& (4 : Int32)) = (0 : Int32))))), .val (.ref b16), .val (.int (0 : Int32)), .val (.int (1 : Int32)), .val (.int ((1 : Int32) - (0 : Int32))), .unset, .unset] [])) _
          refine XS.iconst X159.here hx rfl (hb hby at_116) ?_
          show Steps p.tables e below (T159.setTop (mkF m 117 #[.val (.int p0_0), .val (.int p0_1), .val (.int (bI (¬ ((p0_1 &&& (1 : Int32)) = (0 : Int32))))), .val (.int (bI (¬ ((p0_1 &&& (2 : Int32)) = (0 : Int32))))), .val (.int (bI (¬ ((p0_1 &&& (4 : Int32)) = (0 : Int32))))), .val (.ref b16), .val (.int (0 : Int32)), .val (.int (1 : Int32)), .val (.int ((1 : Int32) - (0 : Int32))), .unset, .unset] [(.int (0 : Int32))])) _
          refine XS.istore X159.here hx rfl (hb hby at_117) rfl (l' := #[.val (.int p0_0), .val (.int p0_1), .val (.int (bI (¬ ((p0_1 &&& (1 : Int32)) = (0 : Int32))))), .val (.int (bI (¬ ((p0_1 &&& (2 : Int32)) = (0 : Int32))))), .val (.int (bI (¬ ((p0_1 &&& (4 : Int32)) = (0 : Int32))))), .val (.ref b16), .val (.int (0 : Int32)), .val (.int (1 : Int32)), .val (.int ((1 : Int32) - (0 : Int32))), .val (.int (0 : Int32)), .unset]) rfl ?_
          show Steps p.tables e below (T159.setTop (mkF m 119 #[.val (.int p0_0), .val (.int p0_1), .val (.int (bI (¬ ((p0_1 &&& (1 : Int32)) = (0 : Int32))))), .val (.int (bI (¬ ((p0_1 &&& (2 : Int32)) = (0 : Int32))))), .val (.int (bI (¬ ((p0_1 &&& (4 : Int32)) = (0 : Int32))))), .val (.ref b16), .val (.int (0 : Int32)), .val (.int (1 : Int32)), .val (.int ((1 : Int32) - (0 : Int32))), .val (.int (0 : Int32)), .unset] [])) _
          refine XS.iload X159.here hx rfl (hb hby at_119) rfl ?_
          show Steps p.tables e below (T159.setTop (mkF m 121 #[.val (.int p0_0), .val (.int p0_1), .val (.int (bI (¬ ((p0_1 &&& (1 : Int32)) = (0 : Int32))))), .val (.int (bI (¬ ((p0_1 &&& (2 : Int32)) = (0 : Int32))))), .val (.int (bI (¬ ((p0_1 &&& (4 : Int32)) = (0 : Int32))))), .val (.ref b16), .val (.int (0 : Int32)), .val (.int (1 : Int32)), .val (.int ((1 : Int32) - (0 : Int32))), .val (.int (0 : Int32)), .unset] [(.int (bI (¬ ((p0_1 &&& (4 : Int32)) = (0 : Int32)))))])) _
          refine XS.ifNo X159.here hx rfl (hb hby at_121) rfl ((if0 _ _).trans (feq (bI_n hc158)).1) ?_
          show Steps p.tables e below (T159.setTop (mkF m 124 #[.val (.int p0_0), .val (.int p0_1), .val (.int (bI (¬ ((p0_1 &&& (1 : Int32)) = (0 : Int32))))), .val (.int (bI (¬ ((p0_1 &&& (2 : Int32)) = (0 : Int32))))), .val (.int (bI (¬ ((p0_1 &&& (4 : Int32)) = (0 : Int32))))), .val (.ref b16), .val (.int (0 : Int32)), .val (.int (1 : Int32)), .val (.int ((1 : Int32) - (0 : Int32))), .val (.int (0 : Int32)), .unset] [])) _
          refine XS.iconst X159.here hx rfl (hb hby at_124) ?_
          show Steps p.tables e below (T159.setTop (mkF m 125 #[.val (.int p0_0), .val (.int p0_1), .val (.int (bI (¬ ((p0_1 &&& (1 : Int32)) = (0 : Int32))))), .val (.int (bI (¬ ((p0_1 &&& (2 : Int32)) = (0 : Int32))))), .val (.int (bI (¬ ((p0_1 &&& (4 : Int32)) = (0 : Int32))))), .val (.ref b16), .val (.int (0 : Int32)), .val (.int (1 : Int32)), .val (.int ((1 : Int32) - (0 : Int32))), .val (.int (0 : Int32)), .unset] [(.int (-1 : Int32))])) _
          refine XS.goto X159.here hx rfl (pc0 := 125) (pc' := 129) rfl (hb hby at_125) (by decide) (by decide) ?_
          show Steps p.tables e below (T159.setTop (mkF m 129 #[.val (.int p0_0), .val (.int p0_1), .val (.int (bI (¬ ((p0_1 &&& (1 : Int32)) = (0 : Int32))))), .val (.int (bI (¬ ((p0_1 &&& (2 : Int32)) = (0 : Int32))))), .val (.int (bI (¬ ((p0_1 &&& (4 : Int32)) = (0 : Int32))))), .val (.ref b16), .val (.int (0 : Int32)), .val (.int (1 : Int32)), .val (.int ((1 : Int32) - (0 : Int32))), .val (.int (0 : Int32)), .unset] [(.int (-1 : Int32))])) _
          refine XS.istore X159.here hx rfl (hb hby at_129) rfl (l' := #[.val (.int p0_0), .val (.int p0_1), .val (.int (bI (¬ ((p0_1 &&& (1 : Int32)) = (0 : Int32))))), .val (.int (bI (¬ ((p0_1 &&& (2 : Int32)) = (0 : Int32))))), .val (.int (bI (¬ ((p0_1 &&& (4 : Int32)) = (0 : Int32))))), .val (.ref b16), .val (.int (0 : Int32)), .val (.int (1 : Int32)), .val (.int ((1 : Int32) - (0 : Int32))), .val (.int (0 : Int32)), .val (.int (-1 : Int32))]) rfl ?_
          show Steps p.tables e below (T159.setTop (mkF m 131 #[.val (.int p0_0), .val (.int p0_1), .val (.int (bI (¬ ((p0_1 &&& (1 : Int32)) = (0 : Int32))))), .val (.int (bI (¬ ((p0_1 &&& (2 : Int32)) = (0 : Int32))))), .val (.int (bI (¬ ((p0_1 &&& (4 : Int32)) = (0 : Int32))))), .val (.ref b16), .val (.int (0 : Int32)), .val (.int (1 : Int32)), .val (.int ((1 : Int32) - (0 : Int32))), .val (.int (0 : Int32)), .val (.int (-1 : Int32))] [])) _
          refine XS.aload X159.here hx rfl (hb hby at_131) rfl rfl ?_
          show Steps p.tables e below (T159.setTop (mkF m 133 #[.val (.int p0_0), .val (.int p0_1), .val (.int (bI (¬ ((p0_1 &&& (1 : Int32)) = (0 : Int32))))), .val (.int (bI (¬ ((p0_1 &&& (2 : Int32)) = (0 : Int32))))), .val (.int (bI (¬ ((p0_1 &&& (4 : Int32)) = (0 : Int32))))), .val (.ref b16), .val (.int (0 : Int32)), .val (.int (1 : Int32)), .val (.int ((1 : Int32) - (0 : Int32))), .val (.int (0 : Int32)), .val (.int (-1 : Int32))] [(.ref b16)])) _
          refine st164.trans ?_
          exact k)
        have f167 := r159_0.keep K164
        have z168 := Nat.le_trans z163 K164.1
        obtain ⟨cq169, kq169, q169a, q169b, q169c⟩ := isOf hZ rfl r164_0
        obtain ⟨_, _, ⟨T169, L169, k169, n169⟩, -, X169, ⟨Lc169, hQ169, l169, y169, z169⟩, st169⟩ := X164.virtualBack hx (y := (⟨"com/example/shieldwall/shieldwall/engine/MoraleState", "battles", "()I"⟩ : MethodName)) (z := (⟨"com/example/shieldwall/shieldwall/engine/MoraleState", "battles", "()I"⟩ : MethodName)) hown (mvT hZ (hW 27 _ rfl)) (mvT hZ (hW 28 _ rfl)) (notFace_of_selects (args := #[]) (mvT hZ (hW 30 _ rfl))) (mvT hZ (hW 30 _ rfl)) (mvT hZ (hW 29 _ rfl)) (by decide) (backOf (W := 0) (rm5 l Z a0 hw [] b16 ((0 : Int32) + (1 : Int32)) ((0 : Int32) + (1 : Int32)) T164.heap n0 z168 r164_2 r164_5) hZ (hW 31 _ rfl) (hW 2 _ rfl) (by decide) (by decide)) q169a q169c (g := (mkF m 138 #[.val (.int p0_0), .val (.int p0_1), .val (.int (bI (¬ ((p0_1 &&& (1 : Int32)) = (0 : Int32))))), .val (.int (bI (¬ ((p0_1 &&& (2 : Int32)) = (0 : Int32))))), .val (.int (bI (¬ ((p0_1 &&& (4 : Int32)) = (0 : Int32))))), .val (.ref b16), .val (.int (0 : Int32)), .val (.int (1 : Int32)), .val (.int ((1 : Int32) - (0 : Int32))), .val (.int (0 : Int32)), .val (.int (-1 : Int32))] [(.ref b16)])) rfl (by rw [hml]; rfl) (Steps.refl _) (argsL := []) (rest := []) (lenOf pd_2 rfl) rfl (by show 2 * 0 + _ ≤ _; exact Nat.le_of_eq rfl) (hb hby at_138) (fun _ _ => ⟨rfl, rfl, (by decide : 1 + 0 ≤ _), (by decide : 7 + 0 ≤ _)⟩)
        dsimp only [Pt.U, Pt.locs, Pt.cells, Pt.slots] at X169 l169 y169 z169 st169 hQ169
        subst l169 y169 z169
        obtain ⟨rfl, N169q, e169⟩ := hQ169
        have N170 := Fr.app N165 N169q
        have pre171 : ∀ t, Steps p.tables e below (T169.setTop (mkF m 141 #[.val (.int p0_0), .val (.int p0_1), .val (.int (bI (¬ ((p0_1 &&& (1 : Int32)) = (0 : Int32))))), .val (.int (bI (¬ ((p0_1 &&& (2 : Int32)) = (0 : Int32))))), .val (.int (bI (¬ ((p0_1 &&& (4 : Int32)) = (0 : Int32))))), .val (.ref b16), .val (.int (0 : Int32)), .val (.int (1 : Int32)), .val (.int ((1 : Int32) - (0 : Int32))), .val (.int (0 : Int32)), .val (.int (-1 : Int32))] [(.int (((0 : Int32) + (1 : Int32)) - ((0 : Int32) + (1 : Int32))))])) t → Steps p.tables e below (s₁.setTop (entryFrame m #[(.int p0_0), (.int p0_1)] maxLocals)) t := fun t k => pre166 t (by
          show Steps p.tables e below (T164.setTop (mkF m 136 #[.val (.int p0_0), .val (.int p0_1), .val (.int (bI (¬ ((p0_1 &&& (1 : Int32)) = (0 : Int32))))), .val (.int (bI (¬ ((p0_1 &&& (2 : Int32)) = (0 : Int32))))), .val (.int (bI (¬ ((p0_1 &&& (4 : Int32)) = (0 : Int32))))), .val (.ref b16), .val (.int (0 : Int32)), .val (.int (1 : Int32)), .val (.int ((1 : Int32) - (0 : Int32))), .val (.int (0 : Int32)), .val (.int (-1 : Int32))] [])) _
          refine XS.aload X164.here hx rfl (hb hby at_136) rfl rfl ?_
          show Steps p.tables e below (T164.setTop (mkF m 138 #[.val (.int p0_0), .val (.int p0_1), .val (.int (bI (¬ ((p0_1 &&& (1 : Int32)) = (0 : Int32))))), .val (.int (bI (¬ ((p0_1 &&& (2 : Int32)) = (0 : Int32))))), .val (.int (bI (¬ ((p0_1 &&& (4 : Int32)) = (0 : Int32))))), .val (.ref b16), .val (.int (0 : Int32)), .val (.int (1 : Int32)), .val (.int ((1 : Int32) - (0 : Int32))), .val (.int (0 : Int32)), .val (.int (-1 : Int32))] [(.ref b16)])) _
          refine st169.trans ?_
          exact k)
        have hd172 : (((0 : Int32) + (1 : Int32)) - ((0 : Int32) + (1 : Int32))) = (((1 : Int32) - (0 : Int32)) - (1 : Int32)) := by
          decide
        obtain ⟨cq173, kq173, q173a, q173b, q173c⟩ := isOf hZ e169 r164_0
        obtain ⟨_, _, ⟨T173, L173, k173, n173⟩, -, X173, ⟨Lc173, hQ173, l173, y173, z173⟩, st173⟩ := X169.virtualBack hx (y := (⟨"com/example/shieldwall/shieldwall/engine/MoraleState", "lostInARow", "()I"⟩ : MethodName)) (z := (⟨"com/example/shieldwall/shieldwall/engine/MoraleState", "lostInARow", "()I"⟩ : MethodName)) hown (mvT hZ (hW 32 _ rfl)) (mvT hZ (hW 33 _ rfl)) (notFace_of_selects (args := #[]) (mvT hZ (hW 35 _ rfl))) (mvT hZ (hW 35 _ rfl)) (mvT hZ (hW 34 _ rfl)) (by decide) (backOf (W := 0) (rm6 l Z a0 hw [] b16 ((0 : Int32) + (1 : Int32)) T164.heap n0 z168 r164_6) hZ (hW 36 _ rfl) (hW 2 _ rfl) (by decide) (by decide)) q173a q173c (g := (mkF m 150 #[.val (.int p0_0), .val (.int p0_1), .val (.int (bI (¬ ((p0_1 &&& (1 : Int32)) = (0 : Int32))))), .val (.int (bI (¬ ((p0_1 &&& (2 : Int32)) = (0 : Int32))))), .val (.int (bI (¬ ((p0_1 &&& (4 : Int32)) = (0 : Int32))))), .val (.ref b16), .val (.int (0 : Int32)), .val (.int (1 : Int32)), .val (.int ((1 : Int32) - (0 : Int32))), .val (.int (0 : Int32)), .val (.int (-1 : Int32))] [(.ref b16)])) rfl (by rw [hml]; rfl) (Steps.refl _) (argsL := []) (rest := []) (lenOf pd_2 rfl) rfl (by show 2 * 0 + _ ≤ _; exact Nat.le_of_eq rfl) (hb hby at_150) (fun _ _ => ⟨rfl, e169, (by decide : 1 + 0 ≤ _), (by decide : 7 + 0 ≤ _)⟩)
        dsimp only [Pt.U, Pt.locs, Pt.cells, Pt.slots] at X173 l173 y173 z173 st173 hQ173
        subst l173 y173 z173
        obtain ⟨rfl, N173q, e173⟩ := hQ173
        have N174 := Fr.app N170 N173q
        have pre175 : ∀ t, Steps p.tables e below (T173.setTop (mkF m 153 #[.val (.int p0_0), .val (.int p0_1), .val (.int (bI (¬ ((p0_1 &&& (1 : Int32)) = (0 : Int32))))), .val (.int (bI (¬ ((p0_1 &&& (2 : Int32)) = (0 : Int32))))), .val (.int (bI (¬ ((p0_1 &&& (4 : Int32)) = (0 : Int32))))), .val (.ref b16), .val (.int (0 : Int32)), .val (.int (1 : Int32)), .val (.int ((1 : Int32) - (0 : Int32))), .val (.int (0 : Int32)), .val (.int (-1 : Int32))] [(.int ((0 : Int32) + (1 : Int32)))])) t → Steps p.tables e below (s₁.setTop (entryFrame m #[(.int p0_0), (.int p0_1)] maxLocals)) t := fun t k => pre171 t (by
          show Steps p.tables e below (T169.setTop (mkF m 141 #[.val (.int p0_0), .val (.int p0_1), .val (.int (bI (¬ ((p0_1 &&& (1 : Int32)) = (0 : Int32))))), .val (.int (bI (¬ ((p0_1 &&& (2 : Int32)) = (0 : Int32))))), .val (.int (bI (¬ ((p0_1 &&& (4 : Int32)) = (0 : Int32))))), .val (.ref b16), .val (.int (0 : Int32)), .val (.int (1 : Int32)), .val (.int ((1 : Int32) - (0 : Int32))), .val (.int (0 : Int32)), .val (.int (-1 : Int32))] [(.int (((0 : Int32) + (1 : Int32)) - ((0 : Int32) + (1 : Int32))))])) _
          refine XS.iload X169.here hx rfl (hb hby at_141) rfl ?_
          show Steps p.tables e below (T169.setTop (mkF m 143 #[.val (.int p0_0), .val (.int p0_1), .val (.int (bI (¬ ((p0_1 &&& (1 : Int32)) = (0 : Int32))))), .val (.int (bI (¬ ((p0_1 &&& (2 : Int32)) = (0 : Int32))))), .val (.int (bI (¬ ((p0_1 &&& (4 : Int32)) = (0 : Int32))))), .val (.ref b16), .val (.int (0 : Int32)), .val (.int (1 : Int32)), .val (.int ((1 : Int32) - (0 : Int32))), .val (.int (0 : Int32)), .val (.int (-1 : Int32))] [(.int ((1 : Int32) - (0 : Int32))), (.int (((0 : Int32) + (1 : Int32)) - ((0 : Int32) + (1 : Int32))))])) _
          refine XS.iconst X169.here hx rfl (hb hby at_143) ?_
          show Steps p.tables e below (T169.setTop (mkF m 144 #[.val (.int p0_0), .val (.int p0_1), .val (.int (bI (¬ ((p0_1 &&& (1 : Int32)) = (0 : Int32))))), .val (.int (bI (¬ ((p0_1 &&& (2 : Int32)) = (0 : Int32))))), .val (.int (bI (¬ ((p0_1 &&& (4 : Int32)) = (0 : Int32))))), .val (.ref b16), .val (.int (0 : Int32)), .val (.int (1 : Int32)), .val (.int ((1 : Int32) - (0 : Int32))), .val (.int (0 : Int32)), .val (.int (-1 : Int32))] [(.int (1 : Int32)), (.int ((1 : Int32) - (0 : Int32))), (.int (((0 : Int32) + (1 : Int32)) - ((0 : Int32) + (1 : Int32))))])) _
          refine XS.isub X169.here hx rfl (hb hby at_144) rfl ?_
          show Steps p.tables e below (T169.setTop (mkF m 145 #[.val (.int p0_0), .val (.int p0_1), .val (.int (bI (¬ ((p0_1 &&& (1 : Int32)) = (0 : Int32))))), .val (.int (bI (¬ ((p0_1 &&& (2 : Int32)) = (0 : Int32))))), .val (.int (bI (¬ ((p0_1 &&& (4 : Int32)) = (0 : Int32))))), .val (.ref b16), .val (.int (0 : Int32)), .val (.int (1 : Int32)), .val (.int ((1 : Int32) - (0 : Int32))), .val (.int (0 : Int32)), .val (.int (-1 : Int32))] [(.int (((1 : Int32) - (0 : Int32)) - (1 : Int32))), (.int (((0 : Int32) + (1 : Int32)) - ((0 : Int32) + (1 : Int32))))])) _
          refine XS.icmpNo X169.here hx rfl (hb hby at_145) rfl (teq hd172).2 ?_
          show Steps p.tables e below (T169.setTop (mkF m 148 #[.val (.int p0_0), .val (.int p0_1), .val (.int (bI (¬ ((p0_1 &&& (1 : Int32)) = (0 : Int32))))), .val (.int (bI (¬ ((p0_1 &&& (2 : Int32)) = (0 : Int32))))), .val (.int (bI (¬ ((p0_1 &&& (4 : Int32)) = (0 : Int32))))), .val (.ref b16), .val (.int (0 : Int32)), .val (.int (1 : Int32)), .val (.int ((1 : Int32) - (0 : Int32))), .val (.int (0 : Int32)), .val (.int (-1 : Int32))] [])) _
          refine XS.aload X169.here hx rfl (hb hby at_148) rfl rfl ?_
          show Steps p.tables e below (T169.setTop (mkF m 150 #[.val (.int p0_0), .val (.int p0_1), .val (.int (bI (¬ ((p0_1 &&& (1 : Int32)) = (0 : Int32))))), .val (.int (bI (¬ ((p0_1 &&& (2 : Int32)) = (0 : Int32))))), .val (.int (bI (¬ ((p0_1 &&& (4 : Int32)) = (0 : Int32))))), .val (.ref b16), .val (.int (0 : Int32)), .val (.int (1 : Int32)), .val (.int ((1 : Int32) - (0 : Int32))), .val (.int (0 : Int32)), .val (.int (-1 : Int32))] [(.ref b16)])) _
          refine st173.trans ?_
          exact k)
        obtain ⟨cq176, kq176, q176a, q176b, q176c⟩ := isOf hZ e173 r164_0
        obtain ⟨_, _, ⟨T176, L176, k176, n176⟩, -, X176, ⟨Lc176, hQ176, l176, y176, z176⟩, st176⟩ := X173.virtualBack hx (y := (⟨"com/example/shieldwall/shieldwall/engine/MoraleState", "routs", "()I"⟩ : MethodName)) (z := (⟨"com/example/shieldwall/shieldwall/engine/MoraleState", "routs", "()I"⟩ : MethodName)) hown (mvT hZ (hW 37 _ rfl)) (mvT hZ (hW 38 _ rfl)) (notFace_of_selects (args := #[]) (mvT hZ (hW 40 _ rfl))) (mvT hZ (hW 40 _ rfl)) (mvT hZ (hW 39 _ rfl)) (by decide) (backOf (W := 0) (rm7 l Z a0 hw [] b16 ((0 : Int32) - (1 : Int32)) T164.heap n0 z168 r164_3) hZ (hW 41 _ rfl) (hW 2 _ rfl) (by decide) (by decide)) q176a q176c (g := (mkF m 162 #[.val (.int p0_0), .val (.int p0_1), .val (.int (bI (¬ ((p0_1 &&& (1 : Int32)) = (0 : Int32))))), .val (.int (bI (¬ ((p0_1 &&& (2 : Int32)) = (0 : Int32))))), .val (.int (bI (¬ ((p0_1 &&& (4 : Int32)) = (0 : Int32))))), .val (.ref b16), .val (.int (0 : Int32)), .val (.int (1 : Int32)), .val (.int ((1 : Int32) - (0 : Int32))), .val (.int (0 : Int32)), .val (.int (-1 : Int32))] [(.ref b16)])) rfl (by rw [hml]; rfl) (Steps.refl _) (argsL := []) (rest := []) (lenOf pd_2 rfl) rfl (by show 2 * 0 + _ ≤ _; exact Nat.le_of_eq rfl) (hb hby at_162) (fun _ _ => ⟨rfl, e173, (by decide : 1 + 0 ≤ _), (by decide : 7 + 0 ≤ _)⟩)
        dsimp only [Pt.U, Pt.locs, Pt.cells, Pt.slots] at X176 l176 y176 z176 st176 hQ176
        subst l176 y176 z176
        obtain ⟨rfl, N176q, e176⟩ := hQ176
        have N177 := Fr.app N174 N176q
        have pre178 : ∀ t, Steps p.tables e below (T176.setTop (mkF m 165 #[.val (.int p0_0), .val (.int p0_1), .val (.int (bI (¬ ((p0_1 &&& (1 : Int32)) = (0 : Int32))))), .val (.int (bI (¬ ((p0_1 &&& (2 : Int32)) = (0 : Int32))))), .val (.int (bI (¬ ((p0_1 &&& (4 : Int32)) = (0 : Int32))))), .val (.ref b16), .val (.int (0 : Int32)), .val (.int (1 : Int32)), .val (.int ((1 : Int32) - (0 : Int32))), .val (.int (0 : Int32)), .val (.int (-1 : Int32))] [(.int ((0 : Int32) - (1 : Int32)))])) t → Steps p.tables e below (s₁.setTop (entryFrame m #[(.int p0_0), (.int p0_1)] maxLocals)) t := fun t k => pre175 t (by
          show Steps p.tables e below (T173.setTop (mkF m 153 #[.val (.int p0_0), .val (.int p0_1), .val (.int (bI (¬ ((p0_1 &&& (1 : Int32)) = (0 : Int32))))), .val (.int (bI (¬ ((p0_1 &&& (2 : Int32)) = (0 : Int32))))), .val (.int (bI (¬ ((p0_1 &&& (4 : Int32)) = (0 : Int32))))), .val (.ref b16), .val (.int (0 : Int32)), .val (.int (1 : Int32)), .val (.int ((1 : Int32) - (0 : Int32))), .val (.int (0 : Int32)), .val (.int (-1 : Int32))] [(.int ((0 : Int32) + (1 : Int32)))])) _
          refine XS.iload X173.here hx rfl (hb hby at_153) rfl ?_
          show Steps p.tables e below (T173.setTop (mkF m 155 #[.val (.int p0_0), .val (.int p0_1), .val (.int (bI (¬ ((p0_1 &&& (1 : Int32)) = (0 : Int32))))), .val (.int (bI (¬ ((p0_1 &&& (2 : Int32)) = (0 : Int32))))), .val (.int (bI (¬ ((p0_1 &&& (4 : Int32)) = (0 : Int32))))), .val (.ref b16), .val (.int (0 : Int32)), .val (.int (1 : Int32)), .val (.int ((1 : Int32) - (0 : Int32))), .val (.int (0 : Int32)), .val (.int (-1 : Int32))] [(.int (0 : Int32)), (.int ((0 : Int32) + (1 : Int32)))])) _
          refine XS.iconst X173.here hx rfl (hb hby at_155) ?_
          show Steps p.tables e below (T173.setTop (mkF m 156 #[.val (.int p0_0), .val (.int p0_1), .val (.int (bI (¬ ((p0_1 &&& (1 : Int32)) = (0 : Int32))))), .val (.int (bI (¬ ((p0_1 &&& (2 : Int32)) = (0 : Int32))))), .val (.int (bI (¬ ((p0_1 &&& (4 : Int32)) = (0 : Int32))))), .val (.ref b16), .val (.int (0 : Int32)), .val (.int (1 : Int32)), .val (.int ((1 : Int32) - (0 : Int32))), .val (.int (0 : Int32)), .val (.int (-1 : Int32))] [(.int (1 : Int32)), (.int (0 : Int32)), (.int ((0 : Int32) + (1 : Int32)))])) _
          refine XS.iadd X173.here hx rfl (hb hby at_156) rfl ?_
          show Steps p.tables e below (T173.setTop (mkF m 157 #[.val (.int p0_0), .val (.int p0_1), .val (.int (bI (¬ ((p0_1 &&& (1 : Int32)) = (0 : Int32))))), .val (.int (bI (¬ ((p0_1 &&& (2 : Int32)) = (0 : Int32))))), .val (.int (bI (¬ ((p0_1 &&& (4 : Int32)) = (0 : Int32))))), .val (.ref b16), .val (.int (0 : Int32)), .val (.int (1 : Int32)), .val (.int ((1 : Int32) - (0 : Int32))), .val (.int (0 : Int32)), .val (.int (-1 : Int32))] [(.int ((0 : Int32) + (1 : Int32))), (.int ((0 : Int32) + (1 : Int32)))])) _
          refine XS.icmpNo X173.here hx rfl (hb hby at_157) rfl (teq (rfl : ((0 : Int32) + (1 : Int32)) = ((0 : Int32) + (1 : Int32)))).2 ?_
          show Steps p.tables e below (T173.setTop (mkF m 160 #[.val (.int p0_0), .val (.int p0_1), .val (.int (bI (¬ ((p0_1 &&& (1 : Int32)) = (0 : Int32))))), .val (.int (bI (¬ ((p0_1 &&& (2 : Int32)) = (0 : Int32))))), .val (.int (bI (¬ ((p0_1 &&& (4 : Int32)) = (0 : Int32))))), .val (.ref b16), .val (.int (0 : Int32)), .val (.int (1 : Int32)), .val (.int ((1 : Int32) - (0 : Int32))), .val (.int (0 : Int32)), .val (.int (-1 : Int32))] [])) _
          refine XS.aload X173.here hx rfl (hb hby at_160) rfl rfl ?_
          show Steps p.tables e below (T173.setTop (mkF m 162 #[.val (.int p0_0), .val (.int p0_1), .val (.int (bI (¬ ((p0_1 &&& (1 : Int32)) = (0 : Int32))))), .val (.int (bI (¬ ((p0_1 &&& (2 : Int32)) = (0 : Int32))))), .val (.int (bI (¬ ((p0_1 &&& (4 : Int32)) = (0 : Int32))))), .val (.ref b16), .val (.int (0 : Int32)), .val (.int (1 : Int32)), .val (.int ((1 : Int32) - (0 : Int32))), .val (.int (0 : Int32)), .val (.int (-1 : Int32))] [(.ref b16)])) _
          refine st176.trans ?_
          exact k)
        have hd179 : ((0 : Int32) - (1 : Int32)) = (-1 : Int32) := by
          decide
        obtain ⟨cq180, kq180, q180a, q180b, q180c⟩ := isOf hZ e176 r164_0
        obtain ⟨_, _, ⟨T180, L180, k180, n180⟩, -, X180, ⟨Lc180, hQ180, l180, y180, z180⟩, st180⟩ := X176.virtualBack hx (y := (⟨"com/example/shieldwall/shieldwall/engine/MoraleState", "routing", "()Z"⟩ : MethodName)) (z := (⟨"com/example/shieldwall/shieldwall/engine/MoraleState", "routing", "()Z"⟩ : MethodName)) hown (mvT hZ (hW 44 _ rfl)) (mvT hZ (hW 45 _ rfl)) (notFace_of_selects (args := #[]) (mvT hZ (hW 47 _ rfl))) (mvT hZ (hW 47 _ rfl)) (mvT hZ (hW 46 _ rfl)) (by decide) (backOf (W := 0) (rm8 l Z a0 hw [] b16 (1 : Int32) T164.heap n0 z168 r164_4) hZ (hW 48 _ rfl) (hW 2 _ rfl) (by decide) (by decide)) q180a q180c (g := (mkF m 172 #[.val (.int p0_0), .val (.int p0_1), .val (.int (bI (¬ ((p0_1 &&& (1 : Int32)) = (0 : Int32))))), .val (.int (bI (¬ ((p0_1 &&& (2 : Int32)) = (0 : Int32))))), .val (.int (bI (¬ ((p0_1 &&& (4 : Int32)) = (0 : Int32))))), .val (.ref b16), .val (.int (0 : Int32)), .val (.int (1 : Int32)), .val (.int ((1 : Int32) - (0 : Int32))), .val (.int (0 : Int32)), .val (.int (-1 : Int32))] [(.ref b16)])) rfl (by rw [hml]; rfl) (Steps.refl _) (argsL := []) (rest := []) (lenOf pd_3 rfl) rfl (by show 2 * 0 + _ ≤ _; exact Nat.le_of_eq rfl) (hb hby at_172) (fun _ _ => ⟨rfl, e176, (by decide : 1 + 0 ≤ _), (by decide : 7 + 0 ≤ _)⟩)
        dsimp only [Pt.U, Pt.locs, Pt.cells, Pt.slots] at X180 l180 y180 z180 st180 hQ180
        subst l180 y180 z180
        obtain ⟨rfl, N180q, e180⟩ := hQ180
        have N181 := Fr.app N177 N180q
        have pre182 : ∀ t, Steps p.tables e below (T180.setTop (mkF m 175 #[.val (.int p0_0), .val (.int p0_1), .val (.int (bI (¬ ((p0_1 &&& (1 : Int32)) = (0 : Int32))))), .val (.int (bI (¬ ((p0_1 &&& (2 : Int32)) = (0 : Int32))))), .val (.int (bI (¬ ((p0_1 &&& (4 : Int32)) = (0 : Int32))))), .val (.ref b16), .val (.int (0 : Int32)), .val (.int (1 : Int32)), .val (.int ((1 : Int32) - (0 : Int32))), .val (.int (0 : Int32)), .val (.int (-1 : Int32))] [(.int (nar .boolean (1 : Int32)))])) t → Steps p.tables e below (s₁.setTop (entryFrame m #[(.int p0_0), (.int p0_1)] maxLocals)) t := fun t k => pre178 t (by
          show Steps p.tables e below (T176.setTop (mkF m 165 #[.val (.int p0_0), .val (.int p0_1), .val (.int (bI (¬ ((p0_1 &&& (1 : Int32)) = (0 : Int32))))), .val (.int (bI (¬ ((p0_1 &&& (2 : Int32)) = (0 : Int32))))), .val (.int (bI (¬ ((p0_1 &&& (4 : Int32)) = (0 : Int32))))), .val (.ref b16), .val (.int (0 : Int32)), .val (.int (1 : Int32)), .val (.int ((1 : Int32) - (0 : Int32))), .val (.int (0 : Int32)), .val (.int (-1 : Int32))] [(.int ((0 : Int32) - (1 : Int32)))])) _
          refine XS.iload X176.here hx rfl (hb hby at_165) rfl ?_
          show Steps p.tables e below (T176.setTop (mkF m 167 #[.val (.int p0_0), .val (.int p0_1), .val (.int (bI (¬ ((p0_1 &&& (1 : Int32)) = (0 : Int32))))), .val (.int (bI (¬ ((p0_1 &&& (2 : Int32)) = (0 : Int32))))), .val (.int (bI (¬ ((p0_1 &&& (4 : Int32)) = (0 : Int32))))), .val (.ref b16), .val (.int (0 : Int32)), .val (.int (1 : Int32)), .val (.int ((1 : Int32) - (0 : Int32))), .val (.int (0 : Int32)), .val (.int (-1 : Int32))] [(.int (-1 : Int32)), (.int ((0 : Int32) - (1 : Int32)))])) _
          refine XS.icmpNo X176.here hx rfl (hb hby at_167) rfl (teq hd179).2 ?_
          show Steps p.tables e below (T176.setTop (mkF m 170 #[.val (.int p0_0), .val (.int p0_1), .val (.int (bI (¬ ((p0_1 &&& (1 : Int32)) = (0 : Int32))))), .val (.int (bI (¬ ((p0_1 &&& (2 : Int32)) = (0 : Int32))))), .val (.int (bI (¬ ((p0_1 &&& (4 : Int32)) = (0 : Int32))))), .val (.ref b16), .val (.int (0 : Int32)), .val (.int (1 : Int32)), .val (.int ((1 : Int32) - (0 : Int32))), .val (.int (0 : Int32)), .val (.int (-1 : Int32))] [])) _
          refine XS.aload X176.here hx rfl (hb hby at_170) rfl rfl ?_
          show Steps p.tables e below (T176.setTop (mkF m 172 #[.val (.int p0_0), .val (.int p0_1), .val (.int (bI (¬ ((p0_1 &&& (1 : Int32)) = (0 : Int32))))), .val (.int (bI (¬ ((p0_1 &&& (2 : Int32)) = (0 : Int32))))), .val (.int (bI (¬ ((p0_1 &&& (4 : Int32)) = (0 : Int32))))), .val (.ref b16), .val (.int (0 : Int32)), .val (.int (1 : Int32)), .val (.int ((1 : Int32) - (0 : Int32))), .val (.int (0 : Int32)), .val (.int (-1 : Int32))] [(.ref b16)])) _
          refine st180.trans ?_
          exact k)
        have hd183 : (nar .boolean (1 : Int32)) = (bI (¬ ((p0_1 &&& (4 : Int32)) = (0 : Int32)))) := by
          rw [bI_t hc158]
          rfl
        obtain ⟨cq184, kq184, q184a, q184b, q184c⟩ := isOf hZ e180 r164_0
        obtain ⟨_, _, ⟨T184, L184, k184, n184⟩, -, X184, ⟨Lc184, hQ184, l184, y184, z184⟩, st184⟩ := X180.virtualBack hx (y := (⟨"com/example/shieldwall/shieldwall/engine/MoraleState", "startStrength", "()I"⟩ : MethodName)) (z := (⟨"com/example/shieldwall/shieldwall/engine/MoraleState", "startStrength", "()I"⟩ : MethodName)) hown (mvT hZ (hW 51 _ rfl)) (mvT hZ (hW 52 _ rfl)) (notFace_of_selects (args := #[]) (mvT hZ (hW 54 _ rfl))) (mvT hZ (hW 54 _ rfl)) (mvT hZ (hW 53 _ rfl)) (by decide) (backOf (W := 0) (rm9 l Z a0 hw [] b16 p0_0 T164.heap n0 z168 r164_1) hZ (hW 55 _ rfl) (hW 2 _ rfl) (by decide) (by decide)) q184a q184c (g := (mkF m 182 #[.val (.int p0_0), .val (.int p0_1), .val (.int (bI (¬ ((p0_1 &&& (1 : Int32)) = (0 : Int32))))), .val (.int (bI (¬ ((p0_1 &&& (2 : Int32)) = (0 : Int32))))), .val (.int (bI (¬ ((p0_1 &&& (4 : Int32)) = (0 : Int32))))), .val (.ref b16), .val (.int (0 : Int32)), .val (.int (1 : Int32)), .val (.int ((1 : Int32) - (0 : Int32))), .val (.int (0 : Int32)), .val (.int (-1 : Int32))] [(.ref b16)])) rfl (by rw [hml]; rfl) (Steps.refl _) (argsL := []) (rest := []) (lenOf pd_2 rfl) rfl (by show 2 * 0 + _ ≤ _; exact Nat.le_of_eq rfl) (hb hby at_182) (fun _ _ => ⟨rfl, e180, (by decide : 1 + 0 ≤ _), (by decide : 7 + 0 ≤ _)⟩)
        dsimp only [Pt.U, Pt.locs, Pt.cells, Pt.slots] at X184 l184 y184 z184 st184 hQ184
        subst l184 y184 z184
        obtain ⟨rfl, N184q, e184⟩ := hQ184
        have N185 := Fr.app N181 N184q
        have pre186 : ∀ t, Steps p.tables e below (T184.setTop (mkF m 185 #[.val (.int p0_0), .val (.int p0_1), .val (.int (bI (¬ ((p0_1 &&& (1 : Int32)) = (0 : Int32))))), .val (.int (bI (¬ ((p0_1 &&& (2 : Int32)) = (0 : Int32))))), .val (.int (bI (¬ ((p0_1 &&& (4 : Int32)) = (0 : Int32))))), .val (.ref b16), .val (.int (0 : Int32)), .val (.int (1 : Int32)), .val (.int ((1 : Int32) - (0 : Int32))), .val (.int (0 : Int32)), .val (.int (-1 : Int32))] [(.int p0_0)])) t → Steps p.tables e below (s₁.setTop (entryFrame m #[(.int p0_0), (.int p0_1)] maxLocals)) t := fun t k => pre182 t (by
          show Steps p.tables e below (T180.setTop (mkF m 175 #[.val (.int p0_0), .val (.int p0_1), .val (.int (bI (¬ ((p0_1 &&& (1 : Int32)) = (0 : Int32))))), .val (.int (bI (¬ ((p0_1 &&& (2 : Int32)) = (0 : Int32))))), .val (.int (bI (¬ ((p0_1 &&& (4 : Int32)) = (0 : Int32))))), .val (.ref b16), .val (.int (0 : Int32)), .val (.int (1 : Int32)), .val (.int ((1 : Int32) - (0 : Int32))), .val (.int (0 : Int32)), .val (.int (-1 : Int32))] [(.int (nar .boolean (1 : Int32)))])) _
          refine XS.iload X180.here hx rfl (hb hby at_175) rfl ?_
          show Steps p.tables e below (T180.setTop (mkF m 177 #[.val (.int p0_0), .val (.int p0_1), .val (.int (bI (¬ ((p0_1 &&& (1 : Int32)) = (0 : Int32))))), .val (.int (bI (¬ ((p0_1 &&& (2 : Int32)) = (0 : Int32))))), .val (.int (bI (¬ ((p0_1 &&& (4 : Int32)) = (0 : Int32))))), .val (.ref b16), .val (.int (0 : Int32)), .val (.int (1 : Int32)), .val (.int ((1 : Int32) - (0 : Int32))), .val (.int (0 : Int32)), .val (.int (-1 : Int32))] [(.int (bI (¬ ((p0_1 &&& (4 : Int32)) = (0 : Int32))))), (.int (nar .boolean (1 : Int32)))])) _
          refine XS.icmpNo X180.here hx rfl (hb hby at_177) rfl (teq hd183).2 ?_
          show Steps p.tables e below (T180.setTop (mkF m 180 #[.val (.int p0_0), .val (.int p0_1), .val (.int (bI (¬ ((p0_1 &&& (1 : Int32)) = (0 : Int32))))), .val (.int (bI (¬ ((p0_1 &&& (2 : Int32)) = (0 : Int32))))), .val (.int (bI (¬ ((p0_1 &&& (4 : Int32)) = (0 : Int32))))), .val (.ref b16), .val (.int (0 : Int32)), .val (.int (1 : Int32)), .val (.int ((1 : Int32) - (0 : Int32))), .val (.int (0 : Int32)), .val (.int (-1 : Int32))] [])) _
          refine XS.aload X180.here hx rfl (hb hby at_180) rfl rfl ?_
          show Steps p.tables e below (T180.setTop (mkF m 182 #[.val (.int p0_0), .val (.int p0_1), .val (.int (bI (¬ ((p0_1 &&& (1 : Int32)) = (0 : Int32))))), .val (.int (bI (¬ ((p0_1 &&& (2 : Int32)) = (0 : Int32))))), .val (.int (bI (¬ ((p0_1 &&& (4 : Int32)) = (0 : Int32))))), .val (.ref b16), .val (.int (0 : Int32)), .val (.int (1 : Int32)), .val (.int ((1 : Int32) - (0 : Int32))), .val (.int (0 : Int32)), .val (.int (-1 : Int32))] [(.ref b16)])) _
          refine st184.trans ?_
          exact k)
        obtain ⟨fs, hr, hrun, hended, hW, hsame⟩ := X184.leave (v := some (.int (1 : Int32))) (fun h => by rw [Bd.returns] at h; cases h)
        refine ⟨_, _, pre186 _ ?_, hrun, hended, _, _, rfl, ?_, ⟨_, rfl⟩, hW, hsame.mono (by decide) (by decide)⟩
        · show Steps p.tables e below (T184.setTop (mkF m 185 #[.val (.int p0_0), .val (.int p0_1), .val (.int (bI (¬ ((p0_1 &&& (1 : Int32)) = (0 : Int32))))), .val (.int (bI (¬ ((p0_1 &&& (2 : Int32)) = (0 : Int32))))), .val (.int (bI (¬ ((p0_1 &&& (4 : Int32)) = (0 : Int32))))), .val (.ref b16), .val (.int (0 : Int32)), .val (.int (1 : Int32)), .val (.int ((1 : Int32) - (0 : Int32))), .val (.int (0 : Int32)), .val (.int (-1 : Int32))] [(.int p0_0)])) _
          refine XS.iloadN X184.here hx rfl (hb hby at_185) rfl ?_
          show Steps p.tables e below (T184.setTop (mkF m 186 #[.val (.int p0_0), .val (.int p0_1), .val (.int (bI (¬ ((p0_1 &&& (1 : Int32)) = (0 : Int32))))), .val (.int (bI (¬ ((p0_1 &&& (2 : Int32)) = (0 : Int32))))), .val (.int (bI (¬ ((p0_1 &&& (4 : Int32)) = (0 : Int32))))), .val (.ref b16), .val (.int (0 : Int32)), .val (.int (1 : Int32)), .val (.int ((1 : Int32) - (0 : Int32))), .val (.int (0 : Int32)), .val (.int (-1 : Int32))] [(.int p0_0), (.int p0_0)])) _
          refine XS.icmpNo X184.here hx rfl (hb hby at_186) rfl (teq (rfl : p0_0 = p0_0)).2 ?_
          show Steps p.tables e below (T184.setTop (mkF m 189 #[.val (.int p0_0), .val (.int p0_1), .val (.int (bI (¬ ((p0_1 &&& (1 : Int32)) = (0 : Int32))))), .val (.int (bI (¬ ((p0_1 &&& (2 : Int32)) = (0 : Int32))))), .val (.int (bI (¬ ((p0_1 &&& (4 : Int32)) = (0 : Int32))))), .val (.ref b16), .val (.int (0 : Int32)), .val (.int (1 : Int32)), .val (.int ((1 : Int32) - (0 : Int32))), .val (.int (0 : Int32)), .val (.int (-1 : Int32))] [])) _
          refine XS.iconst X184.here hx rfl (hb hby at_189) ?_
          show Steps p.tables e below (T184.setTop (mkF m 190 #[.val (.int p0_0), .val (.int p0_1), .val (.int (bI (¬ ((p0_1 &&& (1 : Int32)) = (0 : Int32))))), .val (.int (bI (¬ ((p0_1 &&& (2 : Int32)) = (0 : Int32))))), .val (.int (bI (¬ ((p0_1 &&& (4 : Int32)) = (0 : Int32))))), .val (.ref b16), .val (.int (0 : Int32)), .val (.int (1 : Int32)), .val (.int ((1 : Int32) - (0 : Int32))), .val (.int (0 : Int32)), .val (.int (-1 : Int32))] [(.int (1 : Int32))])) _
          refine XS.goto X184.here hx rfl (pc0 := 190) (pc' := 194) rfl (hb hby at_190) (by decide) (by decide) ?_
          show Steps p.tables e below (T184.setTop (mkF m 194 #[.val (.int p0_0), .val (.int p0_1), .val (.int (bI (¬ ((p0_1 &&& (1 : Int32)) = (0 : Int32))))), .val (.int (bI (¬ ((p0_1 &&& (2 : Int32)) = (0 : Int32))))), .val (.int (bI (¬ ((p0_1 &&& (4 : Int32)) = (0 : Int32))))), .val (.ref b16), .val (.int (0 : Int32)), .val (.int (1 : Int32)), .val (.int ((1 : Int32) - (0 : Int32))), .val (.int (0 : Int32)), .val (.int (-1 : Int32))] [(.int (1 : Int32))])) _
          exact retN X184 hx (t := .boolean) Bd.returns (by simp) (hb hby at_194) hr
        · show Q0 Z p0_0 p0_1 h0 n0 _ T184.heap _
          rw [e184]
          exact ⟨rfl, N185⟩
      · obtain ⟨cq187, kq187, q187a, q187b, q187c⟩ := isOf hZ rfl r152_0
        obtain ⟨_, _, ⟨T187, L187, k187, n187⟩, -, X187, ⟨Lc187, hQ187, l187, y187, z187⟩, st187⟩ := X152.virtualBack hx (y := (⟨"com/example/shieldwall/shieldwall/engine/MoraleState", "lost", "()V"⟩ : MethodName)) (z := (⟨"com/example/shieldwall/shieldwall/engine/MoraleState", "lost", "()V"⟩ : MethodName)) hown (mvT hZ (hW 11 _ rfl)) (mvT hZ (hW 12 _ rfl)) (notFace_of_selects (args := #[]) (mvT hZ (hW 14 _ rfl))) (mvT hZ (hW 14 _ rfl)) (mvT hZ (hW 13 _ rfl)) (by decide) (backOf (W := 0) (rm3 l Z a0 hw [] b16 (0 : Int32) p0_0 (0 : Int32) ((0 : Int32) + (1 : Int32)) (0 : Int32) (0 : Int32) T152.heap n0 z156 r152_2 r152_0 r152_1 r152_6 r152_5 r152_3 r152_4 gz16) hZ (hW 15 _ rfl) (hW 2 _ rfl) (by decide) (by decide)) q187a q187c (g := (mkF m 133 #[.val (.int p0_0), .val (.int p0_1), .val (.int (bI (¬ ((p0_1 &&& (1 : Int32)) = (0 : Int32))))), .val (.int (bI (¬ ((p0_1 &&& (2 : Int32)) = (0 : Int32))))), .val (.int (bI (¬ ((p0_1 &&& (4 : Int32)) = (0 : Int32))))), .val (.ref b16), .val (.int (0 : Int32)), .val (.int (1 : Int32)), .val (.int ((1 : Int32) - (0 : Int32))), .val (.int (0 : Int32)), .val (.int (0 : Int32))] [(.ref b16)])) rfl (by rw [hml]; rfl) (Steps.refl _) (argsL := []) (rest := []) (lenOf pd_1 rfl) rfl (by show 2 * 0 + _ ≤ _; exact Nat.le_of_eq rfl) (hb hby at_133) (fun _ _ => ⟨rfl, rfl, (by decide : 1 + 0 ≤ _), (by decide : 7 + 0 ≤ _)⟩)
        dsimp only [Pt.U, Pt.locs, Pt.cells, Pt.slots] at X187 l187 y187 z187 st187 hQ187
        subst l187 y187 z187
        obtain ⟨rfl, N187q, K187, r187_0, r187_1, r187_2, r187_3, r187_4, r187_5, r187_6⟩ := hQ187
        have N188 := Fr.app N153 N187q
        have pre189 : ∀ t, Steps p.tables e below (T187.setTop (mkF m 136 #[.val (.int p0_0), .val (.int p0_1), .val (.int (bI (¬ ((p0_1 &&& (1 : Int32)) = (0 : Int32))))), .val (.int (bI (¬ ((p0_1 &&& (2 : Int32)) = (0 : Int32))))), .val (.int (bI (¬ ((p0_1 &&& (4 : Int32)) = (0 : Int32))))), .val (.ref b16), .val (.int (0 : Int32)), .val (.int (1 : Int32)), .val (.int ((1 : Int32) - (0 : Int32))), .val (.int (0 : Int32)), .val (.int (0 : Int32))] [])) t → Steps p.tables e below (s₁.setTop (entryFrame m #[(.int p0_0), (.int p0_1)] maxLocals)) t := fun t k => pre154 t (by
          show Steps p.tables e below (T152.setTop (mkF m 65 #[.val (.int p0_0), .val (.int p0_1), .val (.int (bI (¬ ((p0_1 &&& (1 : Int32)) = (0 : Int32))))), .val (.int (bI (¬ ((p0_1 &&& (2 : Int32)) = (0 : Int32))))), .val (.int (bI (¬ ((p0_1 &&& (4 : Int32)) = (0 : Int32))))), .val (.ref b16), .unset, .unset, .unset, .unset, .unset] [])) _
          refine XS.iload X152.here hx rfl (hb hby at_65) rfl ?_
          show Steps p.tables e below (T152.setTop (mkF m 67 #[.val (.int p0_0), .val (.int p0_1), .val (.int (bI (¬ ((p0_1 &&& (1 : Int32)) = (0 : Int32))))), .val (.int (bI (¬ ((p0_1 &&& (2 : Int32)) = (0 : Int32))))), .val (.int (bI (¬ ((p0_1 &&& (4 : Int32)) = (0 : Int32))))), .val (.ref b16), .unset, .unset, .unset, .unset, .unset] [(.int (bI (¬ ((p0_1 &&& (4 : Int32)) = (0 : Int32)))))])) _
          refine XS.ifYes X152.here hx rfl (pc0 := 67) (pc' := 75) rfl (hb hby at_67) rfl ((if0 _ _).trans (teq (bI_f hc158)).1) (by decide) (by decide) ?_
          show Steps p.tables e below (T152.setTop (mkF m 75 #[.val (.int p0_0), .val (.int p0_1), .val (.int (bI (¬ ((p0_1 &&& (1 : Int32)) = (0 : Int32))))), .val (.int (bI (¬ ((p0_1 &&& (2 : Int32)) = (0 : Int32))))), .val (.int (bI (¬ ((p0_1 &&& (4 : Int32)) = (0 : Int32))))), .val (.ref b16), .unset, .unset, .unset, .unset, .unset] [])) _
          refine XS.iloadN X152.here hx rfl (hb hby at_75) rfl ?_
          show Steps p.tables e below (T152.setTop (mkF m 76 #[.val (.int p0_0), .val (.int p0_1), .val (.int (bI (¬ ((p0_1 &&& (1 : Int32)) = (0 : Int32))))), .val (.int (bI (¬ ((p0_1 &&& (2 : Int32)) = (0 : Int32))))), .val (.int (bI (¬ ((p0_1 &&& (4 : Int32)) = (0 : Int32))))), .val (.ref b16), .unset, .unset, .unset, .unset, .unset] [(.int (bI (¬ ((p0_1 &&& (1 : Int32)) = (0 : Int32)))))])) _
          refine XS.ifYes X152.here hx rfl (pc0 := 76) (pc' := 83) rfl (hb hby at_76) rfl ((if0 _ _).trans (teq (bI_f hc31)).1) (by decide) (by decide) ?_
          show Steps p.tables e below (T152.setTop (mkF m 83 #[.val (.int p0_0), .val (.int p0_1), .val (.int (bI (¬ ((p0_1 &&& (1 : Int32)) = (0 : Int32))))), .val (.int (bI (¬ ((p0_1 &&& (2 : Int32)) = (0 : Int32))))), .val (.int (bI (¬ ((p0_1 &&& (4 : Int32)) = (0 : Int32))))), .val (.ref b16), .unset, .unset, .unset, .unset, .unset] [])) _
          refine XS.iconst X152.here hx rfl (hb hby at_83) ?_
          show Steps p.tables e below (T152.setTop (mkF m 84 #[.val (.int p0_0), .val (.int p0_1), .val (.int (bI (¬ ((p0_1 &&& (1 : Int32)) = (0 : Int32))))), .val (.int (bI (¬ ((p0_1 &&& (2 : Int32)) = (0 : Int32))))), .val (.int (bI (¬ ((p0_1 &&& (4 : Int32)) = (0 : Int32))))), .val (.ref b16), .unset, .unset, .unset, .unset, .unset] [(.int (0 : Int32))])) _
          refine XS.istore X152.here hx rfl (hb hby at_84) rfl (l' := #[.val (.int p0_0), .val (.int p0_1), .val (.int (bI (¬ ((p0_1 &&& (1 : Int32)) = (0 : Int32))))), .val (.int (bI (¬ ((p0_1 &&& (2 : Int32)) = (0 : Int32))))), .val (.int (bI (¬ ((p0_1 &&& (4 : Int32)) = (0 : Int32))))), .val (.ref b16), .val (.int (0 : Int32)), .unset, .unset, .unset, .unset]) rfl ?_
          show Steps p.tables e below (T152.setTop (mkF m 86 #[.val (.int p0_0), .val (.int p0_1), .val (.int (bI (¬ ((p0_1 &&& (1 : Int32)) = (0 : Int32))))), .val (.int (bI (¬ ((p0_1 &&& (2 : Int32)) = (0 : Int32))))), .val (.int (bI (¬ ((p0_1 &&& (4 : Int32)) = (0 : Int32))))), .val (.ref b16), .val (.int (0 : Int32)), .unset, .unset, .unset, .unset] [])) _
          refine XS.iloadN X152.here hx rfl (hb hby at_86) rfl ?_
          show Steps p.tables e below (T152.setTop (mkF m 87 #[.val (.int p0_0), .val (.int p0_1), .val (.int (bI (¬ ((p0_1 &&& (1 : Int32)) = (0 : Int32))))), .val (.int (bI (¬ ((p0_1 &&& (2 : Int32)) = (0 : Int32))))), .val (.int (bI (¬ ((p0_1 &&& (4 : Int32)) = (0 : Int32))))), .val (.ref b16), .val (.int (0 : Int32)), .unset, .unset, .unset, .unset] [(.int (bI (¬ ((p0_1 &&& (2 : Int32)) = (0 : Int32)))))])) _
          refine XS.ifNo X152.here hx rfl (hb hby at_87) rfl ((if0 _ _).trans (feq (bI_n hc151)).1) ?_
          show Steps p.tables e below (T152.setTop (mkF m 90 #[.val (.int p0_0), .val (.int p0_1), .val (.int (bI (¬ ((p0_1 &&& (1 : Int32)) = (0 : Int32))))), .val (.int (bI (¬ ((p0_1 &&& (2 : Int32)) = (0 : Int32))))), .val (.int (bI (¬ ((p0_1 &&& (4 : Int32)) = (0 : Int32))))), .val (.ref b16), .val (.int (0 : Int32)), .unset, .unset, .unset, .unset] [])) _
          refine XS.iconst X152.here hx rfl (hb hby at_90) ?_
          show Steps p.tables e below (T152.setTop (mkF m 91 #[.val (.int p0_0), .val (.int p0_1), .val (.int (bI (¬ ((p0_1 &&& (1 : Int32)) = (0 : Int32))))), .val (.int (bI (¬ ((p0_1 &&& (2 : Int32)) = (0 : Int32))))), .val (.int (bI (¬ ((p0_1 &&& (4 : Int32)) = (0 : Int32))))), .val (.ref b16), .val (.int (0 : Int32)), .unset, .unset, .unset, .unset] [(.int (1 : Int32))])) _
          refine XS.goto X152.here hx rfl (pc0 := 91) (pc' := 95) rfl (hb hby at_91) (by decide) (by decide) ?_
          show Steps p.tables e below (T152.setTop (mkF m 95 #[.val (.int p0_0), .val (.int p0_1), .val (.int (bI (¬ ((p0_1 &&& (1 : Int32)) = (0 : Int32))))), .val (.int (bI (¬ ((p0_1 &&& (2 : Int32)) = (0 : Int32))))), .val (.int (bI (¬ ((p0_1 &&& (4 : Int32)) = (0 : Int32))))), .val (.ref b16), .val (.int (0 : Int32)), .unset, .unset, .unset, .unset] [(.int (1 : Int32))])) _
          refine XS.istore X152.here hx rfl (hb hby at_95) rfl (l' := #[.val (.int p0_0), .val (.int p0_1), .val (.int (bI (¬ ((p0_1 &&& (1 : Int32)) = (0 : Int32))))), .val (.int (bI (¬ ((p0_1 &&& (2 : Int32)) = (0 : Int32))))), .val (.int (bI (¬ ((p0_1 &&& (4 : Int32)) = (0 : Int32))))), .val (.ref b16), .val (.int (0 : Int32)), .val (.int (1 : Int32)), .unset, .unset, .unset]) rfl ?_
          show Steps p.tables e below (T152.setTop (mkF m 97 #[.val (.int p0_0), .val (.int p0_1), .val (.int (bI (¬ ((p0_1 &&& (1 : Int32)) = (0 : Int32))))), .val (.int (bI (¬ ((p0_1 &&& (2 : Int32)) = (0 : Int32))))), .val (.int (bI (¬ ((p0_1 &&& (4 : Int32)) = (0 : Int32))))), .val (.ref b16), .val (.int (0 : Int32)), .val (.int (1 : Int32)), .unset, .unset, .unset] [])) _
          refine XS.iload X152.here hx rfl (hb hby at_97) rfl ?_
          show Steps p.tables e below (T152.setTop (mkF m 99 #[.val (.int p0_0), .val (.int p0_1), .val (.int (bI (¬ ((p0_1 &&& (1 : Int32)) = (0 : Int32))))), .val (.int (bI (¬ ((p0_1 &&& (2 : Int32)) = (0 : Int32))))), .val (.int (bI (¬ ((p0_1 &&& (4 : Int32)) = (0 : Int32))))), .val (.ref b16), .val (.int (0 : Int32)), .val (.int (1 : Int32)), .unset, .unset, .unset] [(.int (1 : Int32))])) _
          refine XS.iload X152.here hx rfl (hb hby at_99) rfl ?_
          show Steps p.tables e below (T152.setTop (mkF m 101 #[.val (.int p0_0), .val (.int p0_1), .val (.int (bI (¬ ((p0_1 &&& (1 : Int32)) = (0 : Int32))))), .val (.int (bI (¬ ((p0_1 &&& (2 : Int32)) = (0 : Int32))))), .val (.int (bI (¬ ((p0_1 &&& (4 : Int32)) = (0 : Int32))))), .val (.ref b16), .val (.int (0 : Int32)), .val (.int (1 : Int32)), .unset, .unset, .unset] [(.int (0 : Int32)), (.int (1 : Int32))])) _
          refine XS.isub X152.here hx rfl (hb hby at_101) rfl ?_
          show Steps p.tables e below (T152.setTop (mkF m 102 #[.val (.int p0_0), .val (.int p0_1), .val (.int (bI (¬ ((p0_1 &&& (1 : Int32)) = (0 : Int32))))), .val (.int (bI (¬ ((p0_1 &&& (2 : Int32)) = (0 : Int32))))), .val (.int (bI (¬ ((p0_1 &&& (4 : Int32)) = (0 : Int32))))), .val (.ref b16), .val (.int (0 : Int32)), .val (.int (1 : Int32)), .unset, .unset, .unset] [(.int ((1 : Int32) - (0 : Int32)))])) _
          refine XS.istore X152.here hx rfl (hb hby at_102) rfl (l' := #[.val (.int p0_0), .val (.int p0_1), .val (.int (bI (¬ ((p0_1 &&& (1 : Int32)) = (0 : Int32))))), .val (.int (bI (¬ ((p0_1 &&& (2 : Int32)) = (0 : Int32))))), .val (.int (bI (¬ ((p0_1 &&& (4 : Int32)) = (0 : Int32))))), .val (.ref b16), .val (.int (0 : Int32)), .val (.int (1 : Int32)), .val (.int ((1 : Int32) - (0 : Int32))), .unset, .unset]) rfl ?_
          show Steps p.tables e below (T152.setTop (mkF m 104 #[.val (.int p0_0), .val (.int p0_1), .val (.int (bI (¬ ((p0_1 &&& (1 : Int32)) = (0 : Int32))))), .val (.int (bI (¬ ((p0_1 &&& (2 : Int32)) = (0 : Int32))))), .val (.int (bI (¬ ((p0_1 &&& (4 : Int32)) = (0 : Int32))))), .val (.ref b16), .val (.int (0 : Int32)), .val (.int (1 : Int32)), .val (.int ((1 : Int32) - (0 : Int32))), .unset, .unset] [])) _
          refine XS.iloadN X152.here hx rfl (hb hby at_104) rfl ?_
          show Steps p.tables e below (T152.setTop (mkF m 105 #[.val (.int p0_0), .val (.int p0_1), .val (.int (bI (¬ ((p0_1 &&& (1 : Int32)) = (0 : Int32))))), .val (.int (bI (¬ ((p0_1 &&& (2 : Int32)) = (0 : Int32))))), .val (.int (bI (¬ ((p0_1 &&& (4 : Int32)) = (0 : Int32))))), .val (.ref b16), .val (.int (0 : Int32)), .val (.int (1 : Int32)), .val (.int ((1 : Int32) - (0 : Int32))), .unset, .unset] [(.int (bI (¬ ((p0_1 &&& (1 : Int32)) = (0 : Int32)))))])) _
          refine XS.ifYes X152.here hx rfl (pc0 := 105) (pc' := 116) rfl (hb hby at_105) rfl ((if0 _ _).trans (teq (bI_f hc31)).1) (by decide) (by decide) ?_
          show Steps p.tables e below (T152.setTop (mkF m 116 #[.val (.int p0_0), .val (.int p0_1), .val (.int (bI (¬ ((p0_1 &&& (1 : Int32)) = (0 : Int32))))), .val (.int (bI (¬ ((p0_1 &&& (2 : Int32)) = (0 : Int32))))), .val (.int (bI (¬ ((p0_1 &&& (4 : Int32)) = (0 : Int32))))), .val (.ref b16), .val (.int (0 : Int32)), .val (.int (1 : Int32)), .val (.int ((1 : Int32) - (0 : Int32))), .unset, .unset] [])) _
          refine XS.iconst X152.here hx rfl (hb hby at_116) ?_
          show Steps p.tables e below (T152.setTop (mkF m 117 #[.val (.int p0_0), .val (.int p0_1), .val (.int (bI (¬ ((p0_1 &&& (1 : Int32)) = (0 : Int32))))), .val (.int (bI (¬ ((p0_1 &&& (2 : Int32)) = (0 : Int32))))), .val (.int (bI (¬ ((p0_1 &&& (4 : Int32)) = (0 : Int32))))), .val (.ref b16), .val (.int (0 : Int32)), .val (.int (1 : Int32)), .val (.int ((1 : Int32) - (0 : Int32))), .unset, .unset] [(.int (0 : Int32))])) _
          refine XS.istore X152.here hx rfl (hb hby at_117) rfl (l' := #[.val (.int p0_0), .val (.int p0_1), .val (.int (bI (¬ ((p0_1 &&& (1 : Int32)) = (0 : Int32))))), .val (.int (bI (¬ ((p0_1 &&& (2 : Int32)) = (0 : Int32))))), .val (.int (bI (¬ ((p0_1 &&& (4 : Int32)) = (0 : Int32))))), .val (.ref b16), .val (.int (0 : Int32)), .val (.int (1 : Int32)), .val (.int ((1 : Int32) - (0 : Int32))), .val (.int (0 : Int32)), .unset]) rfl ?_
          show Steps p.tables e below (T152.setTop (mkF m 119 #[.val (.int p0_0), .val (.int p0_1), .val (.int (bI (¬ ((p0_1 &&& (1 : Int32)) = (0 : Int32))))), .val (.int (bI (¬ ((p0_1 &&& (2 : Int32)) = (0 : Int32))))), .val (.int (bI (¬ ((p0_1 &&& (4 : Int32)) = (0 : Int32))))), .val (.ref b16), .val (.int (0 : Int32)), .val (.int (1 : Int32)), .val (.int ((1 : Int32) - (0 : Int32))), .val (.int (0 : Int32)), .unset] [])) _
          refine XS.iload X152.here hx rfl (hb hby at_119) rfl ?_
          show Steps p.tables e below (T152.setTop (mkF m 121 #[.val (.int p0_0), .val (.int p0_1), .val (.int (bI (¬ ((p0_1 &&& (1 : Int32)) = (0 : Int32))))), .val (.int (bI (¬ ((p0_1 &&& (2 : Int32)) = (0 : Int32))))), .val (.int (bI (¬ ((p0_1 &&& (4 : Int32)) = (0 : Int32))))), .val (.ref b16), .val (.int (0 : Int32)), .val (.int (1 : Int32)), .val (.int ((1 : Int32) - (0 : Int32))), .val (.int (0 : Int32)), .unset] [(.int (bI (¬ ((p0_1 &&& (4 : Int32)) = (0 : Int32)))))])) _
          refine XS.ifYes X152.here hx rfl (pc0 := 121) (pc' := 128) rfl (hb hby at_121) rfl ((if0 _ _).trans (teq (bI_f hc158)).1) (by decide) (by decide) ?_
          show Steps p.tables e below (T152.setTop (mkF m 128 #[.val (.int p0_0), .val (.int p0_1), .val (.int (bI (¬ ((p0_1 &&& (1 : Int32)) = (0 : Int32))))), .val (.int (bI (¬ ((p0_1 &&& (2 : Int32)) = (0 : Int32))))), .val (.int (bI (¬ ((p0_1 &&& (4 : Int32)) = (0 : Int32))))), .val (.ref b16), .val (.int (0 : Int32)), .val (.int (1 : Int32)), .val (.int ((1 : Int32) - (0 : Int32))), .val (.int (0 : Int32)), .unset] [])) _
          refine XS.iconst X152.here hx rfl (hb hby at_128) ?_
          show Steps p.tables e below (T152.setTop (mkF m 129 #[.val (.int p0_0), .val (.int p0_1), .val (.int (bI (¬ ((p0_1 &&& (1 : Int32)) = (0 : Int32))))), .val (.int (bI (¬ ((p0_1 &&& (2 : Int32)) = (0 : Int32))))), .val (.int (bI (¬ ((p0_1 &&& (4 : Int32)) = (0 : Int32))))), .val (.ref b16), .val (.int (0 : Int32)), .val (.int (1 : Int32)), .val (.int ((1 : Int32) - (0 : Int32))), .val (.int (0 : Int32)), .unset] [(.int (0 : Int32))])) _
          refine XS.istore X152.here hx rfl (hb hby at_129) rfl (l' := #[.val (.int p0_0), .val (.int p0_1), .val (.int (bI (¬ ((p0_1 &&& (1 : Int32)) = (0 : Int32))))), .val (.int (bI (¬ ((p0_1 &&& (2 : Int32)) = (0 : Int32))))), .val (.int (bI (¬ ((p0_1 &&& (4 : Int32)) = (0 : Int32))))), .val (.ref b16), .val (.int (0 : Int32)), .val (.int (1 : Int32)), .val (.int ((1 : Int32) - (0 : Int32))), .val (.int (0 : Int32)), .val (.int (0 : Int32))]) rfl ?_
          show Steps p.tables e below (T152.setTop (mkF m 131 #[.val (.int p0_0), .val (.int p0_1), .val (.int (bI (¬ ((p0_1 &&& (1 : Int32)) = (0 : Int32))))), .val (.int (bI (¬ ((p0_1 &&& (2 : Int32)) = (0 : Int32))))), .val (.int (bI (¬ ((p0_1 &&& (4 : Int32)) = (0 : Int32))))), .val (.ref b16), .val (.int (0 : Int32)), .val (.int (1 : Int32)), .val (.int ((1 : Int32) - (0 : Int32))), .val (.int (0 : Int32)), .val (.int (0 : Int32))] [])) _
          refine XS.aload X152.here hx rfl (hb hby at_131) rfl rfl ?_
          show Steps p.tables e below (T152.setTop (mkF m 133 #[.val (.int p0_0), .val (.int p0_1), .val (.int (bI (¬ ((p0_1 &&& (1 : Int32)) = (0 : Int32))))), .val (.int (bI (¬ ((p0_1 &&& (2 : Int32)) = (0 : Int32))))), .val (.int (bI (¬ ((p0_1 &&& (4 : Int32)) = (0 : Int32))))), .val (.ref b16), .val (.int (0 : Int32)), .val (.int (1 : Int32)), .val (.int ((1 : Int32) - (0 : Int32))), .val (.int (0 : Int32)), .val (.int (0 : Int32))] [(.ref b16)])) _
          refine st187.trans ?_
          exact k)
        have f190 := r152_0.keep K187
        have z191 := Nat.le_trans z156 K187.1
        obtain ⟨cq192, kq192, q192a, q192b, q192c⟩ := isOf hZ rfl r187_0
        obtain ⟨_, _, ⟨T192, L192, k192, n192⟩, -, X192, ⟨Lc192, hQ192, l192, y192, z192⟩, st192⟩ := X187.virtualBack hx (y := (⟨"com/example/shieldwall/shieldwall/engine/MoraleState", "battles", "()I"⟩ : MethodName)) (z := (⟨"com/example/shieldwall/shieldwall/engine/MoraleState", "battles", "()I"⟩ : MethodName)) hown (mvT hZ (hW 27 _ rfl)) (mvT hZ (hW 28 _ rfl)) (notFace_of_selects (args := #[]) (mvT hZ (hW 30 _ rfl))) (mvT hZ (hW 30 _ rfl)) (mvT hZ (hW 29 _ rfl)) (by decide) (backOf (W := 0) (rm5 l Z a0 hw [] b16 ((0 : Int32) + (1 : Int32)) ((0 : Int32) + (1 : Int32)) T187.heap n0 z191 r187_2 r187_5) hZ (hW 31 _ rfl) (hW 2 _ rfl) (by decide) (by decide)) q192a q192c (g := (mkF m 138 #[.val (.int p0_0), .val (.int p0_1), .val (.int (bI (¬ ((p0_1 &&& (1 : Int32)) = (0 : Int32))))), .val (.int (bI (¬ ((p0_1 &&& (2 : Int32)) = (0 : Int32))))), .val (.int (bI (¬ ((p0_1 &&& (4 : Int32)) = (0 : Int32))))), .val (.ref b16), .val (.int (0 : Int32)), .val (.int (1 : Int32)), .val (.int ((1 : Int32) - (0 : Int32))), .val (.int (0 : Int32)), .val (.int (0 : Int32))] [(.ref b16)])) rfl (by rw [hml]; rfl) (Steps.refl _) (argsL := []) (rest := []) (lenOf pd_2 rfl) rfl (by show 2 * 0 + _ ≤ _; exact Nat.le_of_eq rfl) (hb hby at_138) (fun _ _ => ⟨rfl, rfl, (by decide : 1 + 0 ≤ _), (by decide : 7 + 0 ≤ _)⟩)
        dsimp only [Pt.U, Pt.locs, Pt.cells, Pt.slots] at X192 l192 y192 z192 st192 hQ192
        subst l192 y192 z192
        obtain ⟨rfl, N192q, e192⟩ := hQ192
        have N193 := Fr.app N188 N192q
        have pre194 : ∀ t, Steps p.tables e below (T192.setTop (mkF m 141 #[.val (.int p0_0), .val (.int p0_1), .val (.int (bI (¬ ((p0_1 &&& (1 : Int32)) = (0 : Int32))))), .val (.int (bI (¬ ((p0_1 &&& (2 : Int32)) = (0 : Int32))))), .val (.int (bI (¬ ((p0_1 &&& (4 : Int32)) = (0 : Int32))))), .val (.ref b16), .val (.int (0 : Int32)), .val (.int (1 : Int32)), .val (.int ((1 : Int32) - (0 : Int32))), .val (.int (0 : Int32)), .val (.int (0 : Int32))] [(.int (((0 : Int32) + (1 : Int32)) - ((0 : Int32) + (1 : Int32))))])) t → Steps p.tables e below (s₁.setTop (entryFrame m #[(.int p0_0), (.int p0_1)] maxLocals)) t := fun t k => pre189 t (by
          show Steps p.tables e below (T187.setTop (mkF m 136 #[.val (.int p0_0), .val (.int p0_1), .val (.int (bI (¬ ((p0_1 &&& (1 : Int32)) = (0 : Int32))))), .val (.int (bI (¬ ((p0_1 &&& (2 : Int32)) = (0 : Int32))))), .val (.int (bI (¬ ((p0_1 &&& (4 : Int32)) = (0 : Int32))))), .val (.ref b16), .val (.int (0 : Int32)), .val (.int (1 : Int32)), .val (.int ((1 : Int32) - (0 : Int32))), .val (.int (0 : Int32)), .val (.int (0 : Int32))] [])) _
          refine XS.aload X187.here hx rfl (hb hby at_136) rfl rfl ?_
          show Steps p.tables e below (T187.setTop (mkF m 138 #[.val (.int p0_0), .val (.int p0_1), .val (.int (bI (¬ ((p0_1 &&& (1 : Int32)) = (0 : Int32))))), .val (.int (bI (¬ ((p0_1 &&& (2 : Int32)) = (0 : Int32))))), .val (.int (bI (¬ ((p0_1 &&& (4 : Int32)) = (0 : Int32))))), .val (.ref b16), .val (.int (0 : Int32)), .val (.int (1 : Int32)), .val (.int ((1 : Int32) - (0 : Int32))), .val (.int (0 : Int32)), .val (.int (0 : Int32))] [(.ref b16)])) _
          refine st192.trans ?_
          exact k)
        have hd195 : (((0 : Int32) + (1 : Int32)) - ((0 : Int32) + (1 : Int32))) = (((1 : Int32) - (0 : Int32)) - (1 : Int32)) := by
          decide
        obtain ⟨cq196, kq196, q196a, q196b, q196c⟩ := isOf hZ e192 r187_0
        obtain ⟨_, _, ⟨T196, L196, k196, n196⟩, -, X196, ⟨Lc196, hQ196, l196, y196, z196⟩, st196⟩ := X192.virtualBack hx (y := (⟨"com/example/shieldwall/shieldwall/engine/MoraleState", "lostInARow", "()I"⟩ : MethodName)) (z := (⟨"com/example/shieldwall/shieldwall/engine/MoraleState", "lostInARow", "()I"⟩ : MethodName)) hown (mvT hZ (hW 32 _ rfl)) (mvT hZ (hW 33 _ rfl)) (notFace_of_selects (args := #[]) (mvT hZ (hW 35 _ rfl))) (mvT hZ (hW 35 _ rfl)) (mvT hZ (hW 34 _ rfl)) (by decide) (backOf (W := 0) (rm6 l Z a0 hw [] b16 ((0 : Int32) + (1 : Int32)) T187.heap n0 z191 r187_6) hZ (hW 36 _ rfl) (hW 2 _ rfl) (by decide) (by decide)) q196a q196c (g := (mkF m 150 #[.val (.int p0_0), .val (.int p0_1), .val (.int (bI (¬ ((p0_1 &&& (1 : Int32)) = (0 : Int32))))), .val (.int (bI (¬ ((p0_1 &&& (2 : Int32)) = (0 : Int32))))), .val (.int (bI (¬ ((p0_1 &&& (4 : Int32)) = (0 : Int32))))), .val (.ref b16), .val (.int (0 : Int32)), .val (.int (1 : Int32)), .val (.int ((1 : Int32) - (0 : Int32))), .val (.int (0 : Int32)), .val (.int (0 : Int32))] [(.ref b16)])) rfl (by rw [hml]; rfl) (Steps.refl _) (argsL := []) (rest := []) (lenOf pd_2 rfl) rfl (by show 2 * 0 + _ ≤ _; exact Nat.le_of_eq rfl) (hb hby at_150) (fun _ _ => ⟨rfl, e192, (by decide : 1 + 0 ≤ _), (by decide : 7 + 0 ≤ _)⟩)
        dsimp only [Pt.U, Pt.locs, Pt.cells, Pt.slots] at X196 l196 y196 z196 st196 hQ196
        subst l196 y196 z196
        obtain ⟨rfl, N196q, e196⟩ := hQ196
        have N197 := Fr.app N193 N196q
        have pre198 : ∀ t, Steps p.tables e below (T196.setTop (mkF m 153 #[.val (.int p0_0), .val (.int p0_1), .val (.int (bI (¬ ((p0_1 &&& (1 : Int32)) = (0 : Int32))))), .val (.int (bI (¬ ((p0_1 &&& (2 : Int32)) = (0 : Int32))))), .val (.int (bI (¬ ((p0_1 &&& (4 : Int32)) = (0 : Int32))))), .val (.ref b16), .val (.int (0 : Int32)), .val (.int (1 : Int32)), .val (.int ((1 : Int32) - (0 : Int32))), .val (.int (0 : Int32)), .val (.int (0 : Int32))] [(.int ((0 : Int32) + (1 : Int32)))])) t → Steps p.tables e below (s₁.setTop (entryFrame m #[(.int p0_0), (.int p0_1)] maxLocals)) t := fun t k => pre194 t (by
          show Steps p.tables e below (T192.setTop (mkF m 141 #[.val (.int p0_0), .val (.int p0_1), .val (.int (bI (¬ ((p0_1 &&& (1 : Int32)) = (0 : Int32))))), .val (.int (bI (¬ ((p0_1 &&& (2 : Int32)) = (0 : Int32))))), .val (.int (bI (¬ ((p0_1 &&& (4 : Int32)) = (0 : Int32))))), .val (.ref b16), .val (.int (0 : Int32)), .val (.int (1 : Int32)), .val (.int ((1 : Int32) - (0 : Int32))), .val (.int (0 : Int32)), .val (.int (0 : Int32))] [(.int (((0 : Int32) + (1 : Int32)) - ((0 : Int32) + (1 : Int32))))])) _
          refine XS.iload X192.here hx rfl (hb hby at_141) rfl ?_
          show Steps p.tables e below (T192.setTop (mkF m 143 #[.val (.int p0_0), .val (.int p0_1), .val (.int (bI (¬ ((p0_1 &&& (1 : Int32)) = (0 : Int32))))), .val (.int (bI (¬ ((p0_1 &&& (2 : Int32)) = (0 : Int32))))), .val (.int (bI (¬ ((p0_1 &&& (4 : Int32)) = (0 : Int32))))), .val (.ref b16), .val (.int (0 : Int32)), .val (.int (1 : Int32)), .val (.int ((1 : Int32) - (0 : Int32))), .val (.int (0 : Int32)), .val (.int (0 : Int32))] [(.int ((1 : Int32) - (0 : Int32))), (.int (((0 : Int32) + (1 : Int32)) - ((0 : Int32) + (1 : Int32))))])) _
          refine XS.iconst X192.here hx rfl (hb hby at_143) ?_
          show Steps p.tables e below (T192.setTop (mkF m 144 #[.val (.int p0_0), .val (.int p0_1), .val (.int (bI (¬ ((p0_1 &&& (1 : Int32)) = (0 : Int32))))), .val (.int (bI (¬ ((p0_1 &&& (2 : Int32)) = (0 : Int32))))), .val (.int (bI (¬ ((p0_1 &&& (4 : Int32)) = (0 : Int32))))), .val (.ref b16), .val (.int (0 : Int32)), .val (.int (1 : Int32)), .val (.int ((1 : Int32) - (0 : Int32))), .val (.int (0 : Int32)), .val (.int (0 : Int32))] [(.int (1 : Int32)), (.int ((1 : Int32) - (0 : Int32))), (.int (((0 : Int32) + (1 : Int32)) - ((0 : Int32) + (1 : Int32))))])) _
          refine XS.isub X192.here hx rfl (hb hby at_144) rfl ?_
          show Steps p.tables e below (T192.setTop (mkF m 145 #[.val (.int p0_0), .val (.int p0_1), .val (.int (bI (¬ ((p0_1 &&& (1 : Int32)) = (0 : Int32))))), .val (.int (bI (¬ ((p0_1 &&& (2 : Int32)) = (0 : Int32))))), .val (.int (bI (¬ ((p0_1 &&& (4 : Int32)) = (0 : Int32))))), .val (.ref b16), .val (.int (0 : Int32)), .val (.int (1 : Int32)), .val (.int ((1 : Int32) - (0 : Int32))), .val (.int (0 : Int32)), .val (.int (0 : Int32))] [(.int (((1 : Int32) - (0 : Int32)) - (1 : Int32))), (.int (((0 : Int32) + (1 : Int32)) - ((0 : Int32) + (1 : Int32))))])) _
          refine XS.icmpNo X192.here hx rfl (hb hby at_145) rfl (teq hd195).2 ?_
          show Steps p.tables e below (T192.setTop (mkF m 148 #[.val (.int p0_0), .val (.int p0_1), .val (.int (bI (¬ ((p0_1 &&& (1 : Int32)) = (0 : Int32))))), .val (.int (bI (¬ ((p0_1 &&& (2 : Int32)) = (0 : Int32))))), .val (.int (bI (¬ ((p0_1 &&& (4 : Int32)) = (0 : Int32))))), .val (.ref b16), .val (.int (0 : Int32)), .val (.int (1 : Int32)), .val (.int ((1 : Int32) - (0 : Int32))), .val (.int (0 : Int32)), .val (.int (0 : Int32))] [])) _
          refine XS.aload X192.here hx rfl (hb hby at_148) rfl rfl ?_
          show Steps p.tables e below (T192.setTop (mkF m 150 #[.val (.int p0_0), .val (.int p0_1), .val (.int (bI (¬ ((p0_1 &&& (1 : Int32)) = (0 : Int32))))), .val (.int (bI (¬ ((p0_1 &&& (2 : Int32)) = (0 : Int32))))), .val (.int (bI (¬ ((p0_1 &&& (4 : Int32)) = (0 : Int32))))), .val (.ref b16), .val (.int (0 : Int32)), .val (.int (1 : Int32)), .val (.int ((1 : Int32) - (0 : Int32))), .val (.int (0 : Int32)), .val (.int (0 : Int32))] [(.ref b16)])) _
          refine st196.trans ?_
          exact k)
        obtain ⟨cq199, kq199, q199a, q199b, q199c⟩ := isOf hZ e196 r187_0
        obtain ⟨_, _, ⟨T199, L199, k199, n199⟩, -, X199, ⟨Lc199, hQ199, l199, y199, z199⟩, st199⟩ := X196.virtualBack hx (y := (⟨"com/example/shieldwall/shieldwall/engine/MoraleState", "routs", "()I"⟩ : MethodName)) (z := (⟨"com/example/shieldwall/shieldwall/engine/MoraleState", "routs", "()I"⟩ : MethodName)) hown (mvT hZ (hW 37 _ rfl)) (mvT hZ (hW 38 _ rfl)) (notFace_of_selects (args := #[]) (mvT hZ (hW 40 _ rfl))) (mvT hZ (hW 40 _ rfl)) (mvT hZ (hW 39 _ rfl)) (by decide) (backOf (W := 0) (rm7 l Z a0 hw [] b16 (0 : Int32) T187.heap n0 z191 r187_3) hZ (hW 41 _ rfl) (hW 2 _ rfl) (by decide) (by decide)) q199a q199c (g := (mkF m 162 #[.val (.int p0_0), .val (.int p0_1), .val (.int (bI (¬ ((p0_1 &&& (1 : Int32)) = (0 : Int32))))), .val (.int (bI (¬ ((p0_1 &&& (2 : Int32)) = (0 : Int32))))), .val (.int (bI (¬ ((p0_1 &&& (4 : Int32)) = (0 : Int32))))), .val (.ref b16), .val (.int (0 : Int32)), .val (.int (1 : Int32)), .val (.int ((1 : Int32) - (0 : Int32))), .val (.int (0 : Int32)), .val (.int (0 : Int32))] [(.ref b16)])) rfl (by rw [hml]; rfl) (Steps.refl _) (argsL := []) (rest := []) (lenOf pd_2 rfl) rfl (by show 2 * 0 + _ ≤ _; exact Nat.le_of_eq rfl) (hb hby at_162) (fun _ _ => ⟨rfl, e196, (by decide : 1 + 0 ≤ _), (by decide : 7 + 0 ≤ _)⟩)
        dsimp only [Pt.U, Pt.locs, Pt.cells, Pt.slots] at X199 l199 y199 z199 st199 hQ199
        subst l199 y199 z199
        obtain ⟨rfl, N199q, e199⟩ := hQ199
        have N200 := Fr.app N197 N199q
        have pre201 : ∀ t, Steps p.tables e below (T199.setTop (mkF m 165 #[.val (.int p0_0), .val (.int p0_1), .val (.int (bI (¬ ((p0_1 &&& (1 : Int32)) = (0 : Int32))))), .val (.int (bI (¬ ((p0_1 &&& (2 : Int32)) = (0 : Int32))))), .val (.int (bI (¬ ((p0_1 &&& (4 : Int32)) = (0 : Int32))))), .val (.ref b16), .val (.int (0 : Int32)), .val (.int (1 : Int32)), .val (.int ((1 : Int32) - (0 : Int32))), .val (.int (0 : Int32)), .val (.int (0 : Int32))] [(.int (0 : Int32))])) t → Steps p.tables e below (s₁.setTop (entryFrame m #[(.int p0_0), (.int p0_1)] maxLocals)) t := fun t k => pre198 t (by
          show Steps p.tables e below (T196.setTop (mkF m 153 #[.val (.int p0_0), .val (.int p0_1), .val (.int (bI (¬ ((p0_1 &&& (1 : Int32)) = (0 : Int32))))), .val (.int (bI (¬ ((p0_1 &&& (2 : Int32)) = (0 : Int32))))), .val (.int (bI (¬ ((p0_1 &&& (4 : Int32)) = (0 : Int32))))), .val (.ref b16), .val (.int (0 : Int32)), .val (.int (1 : Int32)), .val (.int ((1 : Int32) - (0 : Int32))), .val (.int (0 : Int32)), .val (.int (0 : Int32))] [(.int ((0 : Int32) + (1 : Int32)))])) _
          refine XS.iload X196.here hx rfl (hb hby at_153) rfl ?_
          show Steps p.tables e below (T196.setTop (mkF m 155 #[.val (.int p0_0), .val (.int p0_1), .val (.int (bI (¬ ((p0_1 &&& (1 : Int32)) = (0 : Int32))))), .val (.int (bI (¬ ((p0_1 &&& (2 : Int32)) = (0 : Int32))))), .val (.int (bI (¬ ((p0_1 &&& (4 : Int32)) = (0 : Int32))))), .val (.ref b16), .val (.int (0 : Int32)), .val (.int (1 : Int32)), .val (.int ((1 : Int32) - (0 : Int32))), .val (.int (0 : Int32)), .val (.int (0 : Int32))] [(.int (0 : Int32)), (.int ((0 : Int32) + (1 : Int32)))])) _
          refine XS.iconst X196.here hx rfl (hb hby at_155) ?_
          show Steps p.tables e below (T196.setTop (mkF m 156 #[.val (.int p0_0), .val (.int p0_1), .val (.int (bI (¬ ((p0_1 &&& (1 : Int32)) = (0 : Int32))))), .val (.int (bI (¬ ((p0_1 &&& (2 : Int32)) = (0 : Int32))))), .val (.int (bI (¬ ((p0_1 &&& (4 : Int32)) = (0 : Int32))))), .val (.ref b16), .val (.int (0 : Int32)), .val (.int (1 : Int32)), .val (.int ((1 : Int32) - (0 : Int32))), .val (.int (0 : Int32)), .val (.int (0 : Int32))] [(.int (1 : Int32)), (.int (0 : Int32)), (.int ((0 : Int32) + (1 : Int32)))])) _
          refine XS.iadd X196.here hx rfl (hb hby at_156) rfl ?_
          show Steps p.tables e below (T196.setTop (mkF m 157 #[.val (.int p0_0), .val (.int p0_1), .val (.int (bI (¬ ((p0_1 &&& (1 : Int32)) = (0 : Int32))))), .val (.int (bI (¬ ((p0_1 &&& (2 : Int32)) = (0 : Int32))))), .val (.int (bI (¬ ((p0_1 &&& (4 : Int32)) = (0 : Int32))))), .val (.ref b16), .val (.int (0 : Int32)), .val (.int (1 : Int32)), .val (.int ((1 : Int32) - (0 : Int32))), .val (.int (0 : Int32)), .val (.int (0 : Int32))] [(.int ((0 : Int32) + (1 : Int32))), (.int ((0 : Int32) + (1 : Int32)))])) _
          refine XS.icmpNo X196.here hx rfl (hb hby at_157) rfl (teq (rfl : ((0 : Int32) + (1 : Int32)) = ((0 : Int32) + (1 : Int32)))).2 ?_
          show Steps p.tables e below (T196.setTop (mkF m 160 #[.val (.int p0_0), .val (.int p0_1), .val (.int (bI (¬ ((p0_1 &&& (1 : Int32)) = (0 : Int32))))), .val (.int (bI (¬ ((p0_1 &&& (2 : Int32)) = (0 : Int32))))), .val (.int (bI (¬ ((p0_1 &&& (4 : Int32)) = (0 : Int32))))), .val (.ref b16), .val (.int (0 : Int32)), .val (.int (1 : Int32)), .val (.int ((1 : Int32) - (0 : Int32))), .val (.int (0 : Int32)), .val (.int (0 : Int32))] [])) _
          refine XS.aload X196.here hx rfl (hb hby at_160) rfl rfl ?_
          show Steps p.tables e below (T196.setTop (mkF m 162 #[.val (.int p0_0), .val (.int p0_1), .val (.int (bI (¬ ((p0_1 &&& (1 : Int32)) = (0 : Int32))))), .val (.int (bI (¬ ((p0_1 &&& (2 : Int32)) = (0 : Int32))))), .val (.int (bI (¬ ((p0_1 &&& (4 : Int32)) = (0 : Int32))))), .val (.ref b16), .val (.int (0 : Int32)), .val (.int (1 : Int32)), .val (.int ((1 : Int32) - (0 : Int32))), .val (.int (0 : Int32)), .val (.int (0 : Int32))] [(.ref b16)])) _
          refine st199.trans ?_
          exact k)
        obtain ⟨cq202, kq202, q202a, q202b, q202c⟩ := isOf hZ e199 r187_0
        obtain ⟨_, _, ⟨T202, L202, k202, n202⟩, -, X202, ⟨Lc202, hQ202, l202, y202, z202⟩, st202⟩ := X199.virtualBack hx (y := (⟨"com/example/shieldwall/shieldwall/engine/MoraleState", "routing", "()Z"⟩ : MethodName)) (z := (⟨"com/example/shieldwall/shieldwall/engine/MoraleState", "routing", "()Z"⟩ : MethodName)) hown (mvT hZ (hW 44 _ rfl)) (mvT hZ (hW 45 _ rfl)) (notFace_of_selects (args := #[]) (mvT hZ (hW 47 _ rfl))) (mvT hZ (hW 47 _ rfl)) (mvT hZ (hW 46 _ rfl)) (by decide) (backOf (W := 0) (rm8 l Z a0 hw [] b16 (0 : Int32) T187.heap n0 z191 r187_4) hZ (hW 48 _ rfl) (hW 2 _ rfl) (by decide) (by decide)) q202a q202c (g := (mkF m 172 #[.val (.int p0_0), .val (.int p0_1), .val (.int (bI (¬ ((p0_1 &&& (1 : Int32)) = (0 : Int32))))), .val (.int (bI (¬ ((p0_1 &&& (2 : Int32)) = (0 : Int32))))), .val (.int (bI (¬ ((p0_1 &&& (4 : Int32)) = (0 : Int32))))), .val (.ref b16), .val (.int (0 : Int32)), .val (.int (1 : Int32)), .val (.int ((1 : Int32) - (0 : Int32))), .val (.int (0 : Int32)), .val (.int (0 : Int32))] [(.ref b16)])) rfl (by rw [hml]; rfl) (Steps.refl _) (argsL := []) (rest := []) (lenOf pd_3 rfl) rfl (by show 2 * 0 + _ ≤ _; exact Nat.le_of_eq rfl) (hb hby at_172) (fun _ _ => ⟨rfl, e199, (by decide : 1 + 0 ≤ _), (by decide : 7 + 0 ≤ _)⟩)
        dsimp only [Pt.U, Pt.locs, Pt.cells, Pt.slots] at X202 l202 y202 z202 st202 hQ202
        subst l202 y202 z202
        obtain ⟨rfl, N202q, e202⟩ := hQ202
        have N203 := Fr.app N200 N202q
        have pre204 : ∀ t, Steps p.tables e below (T202.setTop (mkF m 175 #[.val (.int p0_0), .val (.int p0_1), .val (.int (bI (¬ ((p0_1 &&& (1 : Int32)) = (0 : Int32))))), .val (.int (bI (¬ ((p0_1 &&& (2 : Int32)) = (0 : Int32))))), .val (.int (bI (¬ ((p0_1 &&& (4 : Int32)) = (0 : Int32))))), .val (.ref b16), .val (.int (0 : Int32)), .val (.int (1 : Int32)), .val (.int ((1 : Int32) - (0 : Int32))), .val (.int (0 : Int32)), .val (.int (0 : Int32))] [(.int (nar .boolean (0 : Int32)))])) t → Steps p.tables e below (s₁.setTop (entryFrame m #[(.int p0_0), (.int p0_1)] maxLocals)) t := fun t k => pre201 t (by
          show Steps p.tables e below (T199.setTop (mkF m 165 #[.val (.int p0_0), .val (.int p0_1), .val (.int (bI (¬ ((p0_1 &&& (1 : Int32)) = (0 : Int32))))), .val (.int (bI (¬ ((p0_1 &&& (2 : Int32)) = (0 : Int32))))), .val (.int (bI (¬ ((p0_1 &&& (4 : Int32)) = (0 : Int32))))), .val (.ref b16), .val (.int (0 : Int32)), .val (.int (1 : Int32)), .val (.int ((1 : Int32) - (0 : Int32))), .val (.int (0 : Int32)), .val (.int (0 : Int32))] [(.int (0 : Int32))])) _
          refine XS.iload X199.here hx rfl (hb hby at_165) rfl ?_
          show Steps p.tables e below (T199.setTop (mkF m 167 #[.val (.int p0_0), .val (.int p0_1), .val (.int (bI (¬ ((p0_1 &&& (1 : Int32)) = (0 : Int32))))), .val (.int (bI (¬ ((p0_1 &&& (2 : Int32)) = (0 : Int32))))), .val (.int (bI (¬ ((p0_1 &&& (4 : Int32)) = (0 : Int32))))), .val (.ref b16), .val (.int (0 : Int32)), .val (.int (1 : Int32)), .val (.int ((1 : Int32) - (0 : Int32))), .val (.int (0 : Int32)), .val (.int (0 : Int32))] [(.int (0 : Int32)), (.int (0 : Int32))])) _
          refine XS.icmpNo X199.here hx rfl (hb hby at_167) rfl (teq (by decide : (0 : Int32) = (0 : Int32))).2 ?_
          show Steps p.tables e below (T199.setTop (mkF m 170 #[.val (.int p0_0), .val (.int p0_1), .val (.int (bI (¬ ((p0_1 &&& (1 : Int32)) = (0 : Int32))))), .val (.int (bI (¬ ((p0_1 &&& (2 : Int32)) = (0 : Int32))))), .val (.int (bI (¬ ((p0_1 &&& (4 : Int32)) = (0 : Int32))))), .val (.ref b16), .val (.int (0 : Int32)), .val (.int (1 : Int32)), .val (.int ((1 : Int32) - (0 : Int32))), .val (.int (0 : Int32)), .val (.int (0 : Int32))] [])) _
          refine XS.aload X199.here hx rfl (hb hby at_170) rfl rfl ?_
          show Steps p.tables e below (T199.setTop (mkF m 172 #[.val (.int p0_0), .val (.int p0_1), .val (.int (bI (¬ ((p0_1 &&& (1 : Int32)) = (0 : Int32))))), .val (.int (bI (¬ ((p0_1 &&& (2 : Int32)) = (0 : Int32))))), .val (.int (bI (¬ ((p0_1 &&& (4 : Int32)) = (0 : Int32))))), .val (.ref b16), .val (.int (0 : Int32)), .val (.int (1 : Int32)), .val (.int ((1 : Int32) - (0 : Int32))), .val (.int (0 : Int32)), .val (.int (0 : Int32))] [(.ref b16)])) _
          refine st202.trans ?_
          exact k)
        have hd205 : (nar .boolean (0 : Int32)) = (bI (¬ ((p0_1 &&& (4 : Int32)) = (0 : Int32)))) := by
          rw [bI_f hc158]
          rfl
        obtain ⟨cq206, kq206, q206a, q206b, q206c⟩ := isOf hZ e202 r187_0
        obtain ⟨_, _, ⟨T206, L206, k206, n206⟩, -, X206, ⟨Lc206, hQ206, l206, y206, z206⟩, st206⟩ := X202.virtualBack hx (y := (⟨"com/example/shieldwall/shieldwall/engine/MoraleState", "startStrength", "()I"⟩ : MethodName)) (z := (⟨"com/example/shieldwall/shieldwall/engine/MoraleState", "startStrength", "()I"⟩ : MethodName)) hown (mvT hZ (hW 51 _ rfl)) (mvT hZ (hW 52 _ rfl)) (notFace_of_selects (args := #[]) (mvT hZ (hW 54 _ rfl))) (mvT hZ (hW 54 _ rfl)) (mvT hZ (hW 53 _ rfl)) (by decide) (backOf (W := 0) (rm9 l Z a0 hw [] b16 p0_0 T187.heap n0 z191 r187_1) hZ (hW 55 _ rfl) (hW 2 _ rfl) (by decide) (by decide)) q206a q206c (g := (mkF m 182 #[.val (.int p0_0), .val (.int p0_1), .val (.int (bI (¬ ((p0_1 &&& (1 : Int32)) = (0 : Int32))))), .val (.int (bI (¬ ((p0_1 &&& (2 : Int32)) = (0 : Int32))))), .val (.int (bI (¬ ((p0_1 &&& (4 : Int32)) = (0 : Int32))))), .val (.ref b16), .val (.int (0 : Int32)), .val (.int (1 : Int32)), .val (.int ((1 : Int32) - (0 : Int32))), .val (.int (0 : Int32)), .val (.int (0 : Int32))] [(.ref b16)])) rfl (by rw [hml]; rfl) (Steps.refl _) (argsL := []) (rest := []) (lenOf pd_2 rfl) rfl (by show 2 * 0 + _ ≤ _; exact Nat.le_of_eq rfl) (hb hby at_182) (fun _ _ => ⟨rfl, e202, (by decide : 1 + 0 ≤ _), (by decide : 7 + 0 ≤ _)⟩)
        dsimp only [Pt.U, Pt.locs, Pt.cells, Pt.slots] at X206 l206 y206 z206 st206 hQ206
        subst l206 y206 z206
        obtain ⟨rfl, N206q, e206⟩ := hQ206
        have N207 := Fr.app N203 N206q
        have pre208 : ∀ t, Steps p.tables e below (T206.setTop (mkF m 185 #[.val (.int p0_0), .val (.int p0_1), .val (.int (bI (¬ ((p0_1 &&& (1 : Int32)) = (0 : Int32))))), .val (.int (bI (¬ ((p0_1 &&& (2 : Int32)) = (0 : Int32))))), .val (.int (bI (¬ ((p0_1 &&& (4 : Int32)) = (0 : Int32))))), .val (.ref b16), .val (.int (0 : Int32)), .val (.int (1 : Int32)), .val (.int ((1 : Int32) - (0 : Int32))), .val (.int (0 : Int32)), .val (.int (0 : Int32))] [(.int p0_0)])) t → Steps p.tables e below (s₁.setTop (entryFrame m #[(.int p0_0), (.int p0_1)] maxLocals)) t := fun t k => pre204 t (by
          show Steps p.tables e below (T202.setTop (mkF m 175 #[.val (.int p0_0), .val (.int p0_1), .val (.int (bI (¬ ((p0_1 &&& (1 : Int32)) = (0 : Int32))))), .val (.int (bI (¬ ((p0_1 &&& (2 : Int32)) = (0 : Int32))))), .val (.int (bI (¬ ((p0_1 &&& (4 : Int32)) = (0 : Int32))))), .val (.ref b16), .val (.int (0 : Int32)), .val (.int (1 : Int32)), .val (.int ((1 : Int32) - (0 : Int32))), .val (.int (0 : Int32)), .val (.int (0 : Int32))] [(.int (nar .boolean (0 : Int32)))])) _
          refine XS.iload X202.here hx rfl (hb hby at_175) rfl ?_
          show Steps p.tables e below (T202.setTop (mkF m 177 #[.val (.int p0_0), .val (.int p0_1), .val (.int (bI (¬ ((p0_1 &&& (1 : Int32)) = (0 : Int32))))), .val (.int (bI (¬ ((p0_1 &&& (2 : Int32)) = (0 : Int32))))), .val (.int (bI (¬ ((p0_1 &&& (4 : Int32)) = (0 : Int32))))), .val (.ref b16), .val (.int (0 : Int32)), .val (.int (1 : Int32)), .val (.int ((1 : Int32) - (0 : Int32))), .val (.int (0 : Int32)), .val (.int (0 : Int32))] [(.int (bI (¬ ((p0_1 &&& (4 : Int32)) = (0 : Int32))))), (.int (nar .boolean (0 : Int32)))])) _
          refine XS.icmpNo X202.here hx rfl (hb hby at_177) rfl (teq hd205).2 ?_
          show Steps p.tables e below (T202.setTop (mkF m 180 #[.val (.int p0_0), .val (.int p0_1), .val (.int (bI (¬ ((p0_1 &&& (1 : Int32)) = (0 : Int32))))), .val (.int (bI (¬ ((p0_1 &&& (2 : Int32)) = (0 : Int32))))), .val (.int (bI (¬ ((p0_1 &&& (4 : Int32)) = (0 : Int32))))), .val (.ref b16), .val (.int (0 : Int32)), .val (.int (1 : Int32)), .val (.int ((1 : Int32) - (0 : Int32))), .val (.int (0 : Int32)), .val (.int (0 : Int32))] [])) _
          refine XS.aload X202.here hx rfl (hb hby at_180) rfl rfl ?_
          show Steps p.tables e below (T202.setTop (mkF m 182 #[.val (.int p0_0), .val (.int p0_1), .val (.int (bI (¬ ((p0_1 &&& (1 : Int32)) = (0 : Int32))))), .val (.int (bI (¬ ((p0_1 &&& (2 : Int32)) = (0 : Int32))))), .val (.int (bI (¬ ((p0_1 &&& (4 : Int32)) = (0 : Int32))))), .val (.ref b16), .val (.int (0 : Int32)), .val (.int (1 : Int32)), .val (.int ((1 : Int32) - (0 : Int32))), .val (.int (0 : Int32)), .val (.int (0 : Int32))] [(.ref b16)])) _
          refine st206.trans ?_
          exact k)
        obtain ⟨fs, hr, hrun, hended, hW, hsame⟩ := X206.leave (v := some (.int (1 : Int32))) (fun h => by rw [Bd.returns] at h; cases h)
        refine ⟨_, _, pre208 _ ?_, hrun, hended, _, _, rfl, ?_, ⟨_, rfl⟩, hW, hsame.mono (by decide) (by decide)⟩
        · show Steps p.tables e below (T206.setTop (mkF m 185 #[.val (.int p0_0), .val (.int p0_1), .val (.int (bI (¬ ((p0_1 &&& (1 : Int32)) = (0 : Int32))))), .val (.int (bI (¬ ((p0_1 &&& (2 : Int32)) = (0 : Int32))))), .val (.int (bI (¬ ((p0_1 &&& (4 : Int32)) = (0 : Int32))))), .val (.ref b16), .val (.int (0 : Int32)), .val (.int (1 : Int32)), .val (.int ((1 : Int32) - (0 : Int32))), .val (.int (0 : Int32)), .val (.int (0 : Int32))] [(.int p0_0)])) _
          refine XS.iloadN X206.here hx rfl (hb hby at_185) rfl ?_
          show Steps p.tables e below (T206.setTop (mkF m 186 #[.val (.int p0_0), .val (.int p0_1), .val (.int (bI (¬ ((p0_1 &&& (1 : Int32)) = (0 : Int32))))), .val (.int (bI (¬ ((p0_1 &&& (2 : Int32)) = (0 : Int32))))), .val (.int (bI (¬ ((p0_1 &&& (4 : Int32)) = (0 : Int32))))), .val (.ref b16), .val (.int (0 : Int32)), .val (.int (1 : Int32)), .val (.int ((1 : Int32) - (0 : Int32))), .val (.int (0 : Int32)), .val (.int (0 : Int32))] [(.int p0_0), (.int p0_0)])) _
          refine XS.icmpNo X206.here hx rfl (hb hby at_186) rfl (teq (rfl : p0_0 = p0_0)).2 ?_
          show Steps p.tables e below (T206.setTop (mkF m 189 #[.val (.int p0_0), .val (.int p0_1), .val (.int (bI (¬ ((p0_1 &&& (1 : Int32)) = (0 : Int32))))), .val (.int (bI (¬ ((p0_1 &&& (2 : Int32)) = (0 : Int32))))), .val (.int (bI (¬ ((p0_1 &&& (4 : Int32)) = (0 : Int32))))), .val (.ref b16), .val (.int (0 : Int32)), .val (.int (1 : Int32)), .val (.int ((1 : Int32) - (0 : Int32))), .val (.int (0 : Int32)), .val (.int (0 : Int32))] [])) _
          refine XS.iconst X206.here hx rfl (hb hby at_189) ?_
          show Steps p.tables e below (T206.setTop (mkF m 190 #[.val (.int p0_0), .val (.int p0_1), .val (.int (bI (¬ ((p0_1 &&& (1 : Int32)) = (0 : Int32))))), .val (.int (bI (¬ ((p0_1 &&& (2 : Int32)) = (0 : Int32))))), .val (.int (bI (¬ ((p0_1 &&& (4 : Int32)) = (0 : Int32))))), .val (.ref b16), .val (.int (0 : Int32)), .val (.int (1 : Int32)), .val (.int ((1 : Int32) - (0 : Int32))), .val (.int (0 : Int32)), .val (.int (0 : Int32))] [(.int (1 : Int32))])) _
          refine XS.goto X206.here hx rfl (pc0 := 190) (pc' := 194) rfl (hb hby at_190) (by decide) (by decide) ?_
          show Steps p.tables e below (T206.setTop (mkF m 194 #[.val (.int p0_0), .val (.int p0_1), .val (.int (bI (¬ ((p0_1 &&& (1 : Int32)) = (0 : Int32))))), .val (.int (bI (¬ ((p0_1 &&& (2 : Int32)) = (0 : Int32))))), .val (.int (bI (¬ ((p0_1 &&& (4 : Int32)) = (0 : Int32))))), .val (.ref b16), .val (.int (0 : Int32)), .val (.int (1 : Int32)), .val (.int ((1 : Int32) - (0 : Int32))), .val (.int (0 : Int32)), .val (.int (0 : Int32))] [(.int (1 : Int32))])) _
          exact retN X206 hx (t := .boolean) Bd.returns (by simp) (hb hby at_194) hr
        · show Q0 Z p0_0 p0_1 h0 n0 _ T206.heap _
          rw [e206]
          exact ⟨rfl, N207⟩
    · by_cases hc210 : ¬ ((p0_1 &&& (4 : Int32)) = (0 : Int32))
      · obtain ⟨cq211, kq211, q211a, q211b, q211c⟩ := isOf hZ rfl r25_0
        obtain ⟨_, _, ⟨T211, L211, k211, n211⟩, -, X211, ⟨Lc211, hQ211, l211, y211, z211⟩, st211⟩ := X25.virtualBack hx (y := (⟨"com/example/shieldwall/shieldwall/engine/MoraleState", "routed", "()V"⟩ : MethodName)) (z := (⟨"com/example/shieldwall/shieldwall/engine/MoraleState", "routed", "()V"⟩ : MethodName)) hown (mvT hZ (hW 56 _ rfl)) (mvT hZ (hW 57 _ rfl)) (notFace_of_selects (args := #[]) (mvT hZ (hW 59 _ rfl))) (mvT hZ (hW 59 _ rfl)) (mvT hZ (hW 58 _ rfl)) (by decide) (backOf (W := 0) (rm10 l Z a0 hw [] b16 (0 : Int32) p0_0 (0 : Int32) (0 : Int32) (0 : Int32) (0 : Int32) T25.heap n0 z29 r25_4 r25_0 r25_6 r25_1 r25_2 r25_3 r25_5 gz16) hZ (hW 60 _ rfl) (hW 2 _ rfl) (by decide) (by decide)) q211a q211c (g := (mkF m 72 #[.val (.int p0_0), .val (.int p0_1), .val (.int (bI (¬ ((p0_1 &&& (1 : Int32)) = (0 : Int32))))), .val (.int (bI (¬ ((p0_1 &&& (2 : Int32)) = (0 : Int32))))), .val (.int (bI (¬ ((p0_1 &&& (4 : Int32)) = (0 : Int32))))), .val (.ref b16), .unset, .unset, .unset, .unset, .unset] [(.ref b16)])) rfl (by rw [hml]; rfl) (Steps.refl _) (argsL := []) (rest := []) (lenOf pd_1 rfl) rfl (by show 2 * 0 + _ ≤ _; exact Nat.le_of_eq rfl) (hb hby at_72) (fun _ _ => ⟨rfl, rfl, (by decide : 1 + 0 ≤ _), (by decide : 7 + 0 ≤ _)⟩)
        dsimp only [Pt.U, Pt.locs, Pt.cells, Pt.slots] at X211 l211 y211 z211 st211 hQ211
        subst l211 y211 z211
        obtain ⟨rfl, N211q, K211, r211_0, r211_1, r211_2, r211_3, r211_4, r211_5, r211_6⟩ := hQ211
        have N212 := Fr.app N26 N211q
        have pre213 : ∀ t, Steps p.tables e below (T211.setTop (mkF m 75 #[.val (.int p0_0), .val (.int p0_1), .val (.int (bI (¬ ((p0_1 &&& (1 : Int32)) = (0 : Int32))))), .val (.int (bI (¬ ((p0_1 &&& (2 : Int32)) = (0 : Int32))))), .val (.int (bI (¬ ((p0_1 &&& (4 : Int32)) = (0 : Int32))))), .val (.ref b16), .unset, .unset, .unset, .unset, .unset] [])) t → Steps p.tables e below (s₁.setTop (entryFrame m #[(.int p0_0), (.int p0_1)] maxLocals)) t := fun t k => pre27 t (by
          show Steps p.tables e below (T25.setTop (mkF m 45 #[.val (.int p0_0), .val (.int p0_1), .val (.int (bI (¬ ((p0_1 &&& (1 : Int32)) = (0 : Int32))))), .val (.int (bI (¬ ((p0_1 &&& (2 : Int32)) = (0 : Int32))))), .val (.int (bI (¬ ((p0_1 &&& (4 : Int32)) = (0 : Int32))))), .unset, .unset, .unset, .unset, .unset, .unset] [(.ref b16)])) _
          refine XS.astore X25.here hx rfl (hb hby at_45) rfl rfl (l' := #[.val (.int p0_0), .val (.int p0_1), .val (.int (bI (¬ ((p0_1 &&& (1 : Int32)) = (0 : Int32))))), .val (.int (bI (¬ ((p0_1 &&& (2 : Int32)) = (0 : Int32))))), .val (.int (bI (¬ ((p0_1 &&& (4 : Int32)) = (0 : Int32))))), .val (.ref b16), .unset, .unset, .unset, .unset, .unset]) rfl ?_
          show Steps p.tables e below (T25.setTop (mkF m 47 #[.val (.int p0_0), .val (.int p0_1), .val (.int (bI (¬ ((p0_1 &&& (1 : Int32)) = (0 : Int32))))), .val (.int (bI (¬ ((p0_1 &&& (2 : Int32)) = (0 : Int32))))), .val (.int (bI (¬ ((p0_1 &&& (4 : Int32)) = (0 : Int32))))), .val (.ref b16), .unset, .unset, .unset, .unset, .unset] [])) _
          refine XS.iloadN X25.here hx rfl (hb hby at_47) rfl ?_
          show Steps p.tables e below (T25.setTop (mkF m 48 #[.val (.int p0_0), .val (.int p0_1), .val (.int (bI (¬ ((p0_1 &&& (1 : Int32)) = (0 : Int32))))), .val (.int (bI (¬ ((p0_1 &&& (2 : Int32)) = (0 : Int32))))), .val (.int (bI (¬ ((p0_1 &&& (4 : Int32)) = (0 : Int32))))), .val (.ref b16), .unset, .unset, .unset, .unset, .unset] [(.int (bI (¬ ((p0_1 &&& (1 : Int32)) = (0 : Int32)))))])) _
          refine XS.ifYes X25.here hx rfl (pc0 := 48) (pc' := 56) rfl (hb hby at_48) rfl ((if0 _ _).trans (teq (bI_f hc31)).1) (by decide) (by decide) ?_
          show Steps p.tables e below (T25.setTop (mkF m 56 #[.val (.int p0_0), .val (.int p0_1), .val (.int (bI (¬ ((p0_1 &&& (1 : Int32)) = (0 : Int32))))), .val (.int (bI (¬ ((p0_1 &&& (2 : Int32)) = (0 : Int32))))), .val (.int (bI (¬ ((p0_1 &&& (4 : Int32)) = (0 : Int32))))), .val (.ref b16), .unset, .unset, .unset, .unset, .unset] [])) _
          refine XS.iloadN X25.here hx rfl (hb hby at_56) rfl ?_
          show Steps p.tables e below (T25.setTop (mkF m 57 #[.val (.int p0_0), .val (.int p0_1), .val (.int (bI (¬ ((p0_1 &&& (1 : Int32)) = (0 : Int32))))), .val (.int (bI (¬ ((p0_1 &&& (2 : Int32)) = (0 : Int32))))), .val (.int (bI (¬ ((p0_1 &&& (4 : Int32)) = (0 : Int32))))), .val (.ref b16), .unset, .unset, .unset, .unset, .unset] [(.int (bI (¬ ((p0_1 &&& (2 : Int32)) = (0 : Int32)))))])) _
          refine XS.ifYes X25.here hx rfl (pc0 := 57) (pc' := 65) rfl (hb hby at_57) rfl ((if0 _ _).trans (teq (bI_f hc151)).1) (by decide) (by decide) ?_
          show Steps p.tables e below (T25.setTop (mkF m 65 #[.val (.int p0_0), .val (.int p0_1), .val (.int (bI (¬ ((p0_1 &&& (1 : Int32)) = (0 : Int32))))), .val (.int (bI (¬ ((p0_1 &&& (2 : Int32)) = (0 : Int32))))), .val (.int (bI (¬ ((p0_1 &&& (4 : Int32)) = (0 : Int32))))), .val (.ref b16), .unset, .unset, .unset, .unset, .unset] [])) _
          refine XS.iload X25.here hx rfl (hb hby at_65) rfl ?_
          show Steps p.tables e below (T25.setTop (mkF m 67 #[.val (.int p0_0), .val (.int p0_1), .val (.int (bI (¬ ((p0_1 &&& (1 : Int32)) = (0 : Int32))))), .val (.int (bI (¬ ((p0_1 &&& (2 : Int32)) = (0 : Int32))))), .val (.int (bI (¬ ((p0_1 &&& (4 : Int32)) = (0 : Int32))))), .val (.ref b16), .unset, .unset, .unset, .unset, .unset] [(.int (bI (¬ ((p0_1 &&& (4 : Int32)) = (0 : Int32)))))])) _
          refine XS.ifNo X25.here hx rfl (hb hby at_67) rfl ((if0 _ _).trans (feq (bI_n hc210)).1) ?_
          show Steps p.tables e below (T25.setTop (mkF m 70 #[.val (.int p0_0), .val (.int p0_1), .val (.int (bI (¬ ((p0_1 &&& (1 : Int32)) = (0 : Int32))))), .val (.int (bI (¬ ((p0_1 &&& (2 : Int32)) = (0 : Int32))))), .val (.int (bI (¬ ((p0_1 &&& (4 : Int32)) = (0 : Int32))))), .val (.ref b16), .unset, .unset, .unset, .unset, .unset] [])) _
          refine XS.aload X25.here hx rfl (hb hby at_70) rfl rfl ?_
          show Steps p.tables e below (T25.setTop (mkF m 72 #[.val (.int p0_0), .val (.int p0_1), .val (.int (bI (¬ ((p0_1 &&& (1 : Int32)) = (0 : Int32))))), .val (.int (bI (¬ ((p0_1 &&& (2 : Int32)) = (0 : Int32))))), .val (.int (bI (¬ ((p0_1 &&& (4 : Int32)) = (0 : Int32))))), .val (.ref b16), .unset, .unset, .unset, .unset, .unset] [(.ref b16)])) _
          refine st211.trans ?_
          exact k)
        have f214 := r25_0.keep K211
        have z215 := Nat.le_trans z29 K211.1
        obtain ⟨cq216, kq216, q216a, q216b, q216c⟩ := isOf hZ rfl r211_0
        obtain ⟨_, _, ⟨T216, L216, k216, n216⟩, -, X216, ⟨Lc216, hQ216, l216, y216, z216⟩, st216⟩ := X211.virtualBack hx (y := (⟨"com/example/shieldwall/shieldwall/engine/MoraleState", "lost", "()V"⟩ : MethodName)) (z := (⟨"com/example/shieldwall/shieldwall/engine/MoraleState", "lost", "()V"⟩ : MethodName)) hown (mvT hZ (hW 11 _ rfl)) (mvT hZ (hW 12 _ rfl)) (notFace_of_selects (args := #[]) (mvT hZ (hW 14 _ rfl))) (mvT hZ (hW 14 _ rfl)) (mvT hZ (hW 13 _ rfl)) (by decide) (backOf (W := 0) (rm3 l Z a0 hw [] b16 (0 : Int32) p0_0 (0 : Int32) (0 : Int32) ((0 : Int32) - (1 : Int32)) (1 : Int32) T211.heap n0 z215 r211_2 r211_0 r211_1 r211_3 r211_4 r211_5 r211_6 gz16) hZ (hW 15 _ rfl) (hW 2 _ rfl) (by decide) (by decide)) q216a q216c (g := (mkF m 133 #[.val (.int p0_0), .val (.int p0_1), .val (.int (bI (¬ ((p0_1 &&& (1 : Int32)) = (0 : Int32))))), .val (.int (bI (¬ ((p0_1 &&& (2 : Int32)) = (0 : Int32))))), .val (.int (bI (¬ ((p0_1 &&& (4 : Int32)) = (0 : Int32))))), .val (.ref b16), .val (.int (0 : Int32)), .val (.int (0 : Int32)), .val (.int ((0 : Int32) - (0 : Int32))), .val (.int (0 : Int32)), .val (.int (-1 : Int32))] [(.ref b16)])) rfl (by rw [hml]; rfl) (Steps.refl _) (argsL := []) (rest := []) (lenOf pd_1 rfl) rfl (by show 2 * 0 + _ ≤ _; exact Nat.le_of_eq rfl) (hb hby at_133) (fun _ _ => ⟨rfl, rfl, (by decide : 1 + 0 ≤ _), (by decide : 7 + 0 ≤ _)⟩)
        dsimp only [Pt.U, Pt.locs, Pt.cells, Pt.slots] at X216 l216 y216 z216 st216 hQ216
        subst l216 y216 z216
        obtain ⟨rfl, N216q, K216, r216_0, r216_1, r216_2, r216_3, r216_4, r216_5, r216_6⟩ := hQ216
        have N217 := Fr.app N212 N216q
        have pre218 : ∀ t, Steps p.tables e below (T216.setTop (mkF m 136 #[.val (.int p0_0), .val (.int p0_1), .val (.int (bI (¬ ((p0_1 &&& (1 : Int32)) = (0 : Int32))))), .val (.int (bI (¬ ((p0_1 &&& (2 : Int32)) = (0 : Int32))))), .val (.int (bI (¬ ((p0_1 &&& (4 : Int32)) = (0 : Int32))))), .val (.ref b16), .val (.int (0 : Int32)), .val (.int (0 : Int32)), .val (.int ((0 : Int32) - (0 : Int32))), .val (.int (0 : Int32)), .val (.int (-1 : Int32))] [])) t → Steps p.tables e below (s₁.setTop (entryFrame m #[(.int p0_0), (.int p0_1)] maxLocals)) t := fun t k => pre213 t (by
          show Steps p.tables e below (T211.setTop (mkF m 75 #[.val (.int p0_0), .val (.int p0_1), .val (.int (bI (¬ ((p0_1 &&& (1 : Int32)) = (0 : Int32))))), .val (.int (bI (¬ ((p0_1 &&& (2 : Int32)) = (0 : Int32))))), .val (.int (bI (¬ ((p0_1 &&& (4 : Int32)) = (0 : Int32))))), .val (.ref b16), .unset, .unset, .unset, .unset, .unset] [])) _
          refine XS.iloadN X211.here hx rfl (hb hby at_75) rfl ?_
          show Steps p.tables e below (T211.setTop (mkF m 76 #[.val (.int p0_0), .val (.int p0_1), .val (.int (bI (¬ ((p0_1 &&& (1 : Int32)) = (0 : Int32))))), .val (.int (bI (¬ ((p0_1 &&& (2 : Int32)) = (0 : Int32))))), .val (.int (bI (¬ ((p0_1 &&& (4 : Int32)) = (0 : Int32))))), .val (.ref b16), .unset, .unset, .unset, .unset, .unset] [(.int (bI (¬ ((p0_1 &&& (1 : Int32)) = (0 : Int32)))))])) _
          refine XS.ifYes X211.here hx rfl (pc0 := 76) (pc' := 83) rfl (hb hby at_76) rfl ((if0 _ _).trans (teq (bI_f hc31)).1) (by decide) (by decide) ?_
          show Steps p.tables e below (T211.setTop (mkF m 83 #[.val (.int p0_0), .val (.int p0_1), .val (.int (bI (¬ ((p0_1 &&& (1 : Int32)) = (0 : Int32))))), .val (.int (bI (¬ ((p0_1 &&& (2 : Int32)) = (0 : Int32))))), .val (.int (bI (¬ ((p0_1 &&& (4 : Int32)) = (0 : Int32))))), .val (.ref b16), .unset, .unset, .unset, .unset, .unset] [])) _
          refine XS.iconst X211.here hx rfl (hb hby at_83) ?_
          show Steps p.tables e below (T211.setTop (mkF m 84 #[.val (.int p0_0), .val (.int p0_1), .val (.int (bI (¬ ((p0_1 &&& (1 : Int32)) = (0 : Int32))))), .val (.int (bI (¬ ((p0_1 &&& (2 : Int32)) = (0 : Int32))))), .val (.int (bI (¬ ((p0_1 &&& (4 : Int32)) = (0 : Int32))))), .val (.ref b16), .unset, .unset, .unset, .unset, .unset] [(.int (0 : Int32))])) _
          refine XS.istore X211.here hx rfl (hb hby at_84) rfl (l' := #[.val (.int p0_0), .val (.int p0_1), .val (.int (bI (¬ ((p0_1 &&& (1 : Int32)) = (0 : Int32))))), .val (.int (bI (¬ ((p0_1 &&& (2 : Int32)) = (0 : Int32))))), .val (.int (bI (¬ ((p0_1 &&& (4 : Int32)) = (0 : Int32))))), .val (.ref b16), .val (.int (0 : Int32)), .unset, .unset, .unset, .unset]) rfl ?_
          show Steps p.tables e below (T211.setTop (mkF m 86 #[.val (.int p0_0), .val (.int p0_1), .val (.int (bI (¬ ((p0_1 &&& (1 : Int32)) = (0 : Int32))))), .val (.int (bI (¬ ((p0_1 &&& (2 : Int32)) = (0 : Int32))))), .val (.int (bI (¬ ((p0_1 &&& (4 : Int32)) = (0 : Int32))))), .val (.ref b16), .val (.int (0 : Int32)), .unset, .unset, .unset, .unset] [])) _
          refine XS.iloadN X211.here hx rfl (hb hby at_86) rfl ?_
          show Steps p.tables e below (T211.setTop (mkF m 87 #[.val (.int p0_0), .val (.int p0_1), .val (.int (bI (¬ ((p0_1 &&& (1 : Int32)) = (0 : Int32))))), .val (.int (bI (¬ ((p0_1 &&& (2 : Int32)) = (0 : Int32))))), .val (.int (bI (¬ ((p0_1 &&& (4 : Int32)) = (0 : Int32))))), .val (.ref b16), .val (.int (0 : Int32)), .unset, .unset, .unset, .unset] [(.int (bI (¬ ((p0_1 &&& (2 : Int32)) = (0 : Int32)))))])) _
          refine XS.ifYes X211.here hx rfl (pc0 := 87) (pc' := 94) rfl (hb hby at_87) rfl ((if0 _ _).trans (teq (bI_f hc151)).1) (by decide) (by decide) ?_
          show Steps p.tables e below (T211.setTop (mkF m 94 #[.val (.int p0_0), .val (.int p0_1), .val (.int (bI (¬ ((p0_1 &&& (1 : Int32)) = (0 : Int32))))), .val (.int (bI (¬ ((p0_1 &&& (2 : Int32)) = (0 : Int32))))), .val (.int (bI (¬ ((p0_1 &&& (4 : Int32)) = (0 : Int32))))), .val (.ref b16), .val (.int (0 : Int32)), .unset, .unset, .unset, .unset] [])) _
          refine XS.iconst X211.here hx rfl (hb hby at_94) ?_
          show Steps p.tables e below (T211.setTop (mkF m 95 #[.val (.int p0_0), .val (.int p0_1), .val (.int (bI (¬ ((p0_1 &&& (1 : Int32)) = (0 : Int32))))), .val (.int (bI (¬ ((p0_1 &&& (2 : Int32)) = (0 : Int32))))), .val (.int (bI (¬ ((p0_1 &&& (4 : Int32)) = (0 : Int32))))), .val (.ref b16), .val (.int (0 : Int32)), .unset, .unset, .unset, .unset] [(.int (0 : Int32))])) _
          refine XS.istore X211.here hx rfl (hb hby at_95) rfl (l' := #[.val (.int p0_0), .val (.int p0_1), .val (.int (bI (¬ ((p0_1 &&& (1 : Int32)) = (0 : Int32))))), .val (.int (bI (¬ ((p0_1 &&& (2 : Int32)) = (0 : Int32))))), .val (.int (bI (¬ ((p0_1 &&& (4 : Int32)) = (0 : Int32))))), .val (.ref b16), .val (.int (0 : Int32)), .val (.int (0 : Int32)), .unset, .unset, .unset]) rfl ?_
          show Steps p.tables e below (T211.setTop (mkF m 97 #[.val (.int p0_0), .val (.int p0_1), .val (.int (bI (¬ ((p0_1 &&& (1 : Int32)) = (0 : Int32))))), .val (.int (bI (¬ ((p0_1 &&& (2 : Int32)) = (0 : Int32))))), .val (.int (bI (¬ ((p0_1 &&& (4 : Int32)) = (0 : Int32))))), .val (.ref b16), .val (.int (0 : Int32)), .val (.int (0 : Int32)), .unset, .unset, .unset] [])) _
          refine XS.iload X211.here hx rfl (hb hby at_97) rfl ?_
          show Steps p.tables e below (T211.setTop (mkF m 99 #[.val (.int p0_0), .val (.int p0_1), .val (.int (bI (¬ ((p0_1 &&& (1 : Int32)) = (0 : Int32))))), .val (.int (bI (¬ ((p0_1 &&& (2 : Int32)) = (0 : Int32))))), .val (.int (bI (¬ ((p0_1 &&& (4 : Int32)) = (0 : Int32))))), .val (.ref b16), .val (.int (0 : Int32)), .val (.int (0 : Int32)), .unset, .unset, .unset] [(.int (0 : Int32))])) _
          refine XS.iload X211.here hx rfl (hb hby at_99) rfl ?_
          show Steps p.tables e below (T211.setTop (mkF m 101 #[.val (.int p0_0), .val (.int p0_1), .val (.int (bI (¬ ((p0_1 &&& (1 : Int32)) = (0 : Int32))))), .val (.int (bI (¬ ((p0_1 &&& (2 : Int32)) = (0 : Int32))))), .val (.int (bI (¬ ((p0_1 &&& (4 : Int32)) = (0 : Int32))))), .val (.ref b16), .val (.int (0 : Int32)), .val (.int (0 : Int32)), .unset, .unset, .unset] [(.int (0 : Int32)), (.int (0 : Int32))])) _
          refine XS.isub X211.here hx rfl (hb hby at_101) rfl ?_
          show Steps p.tables e below (T211.setTop (mkF m 102 #[.val (.int p0_0), .val (.int p0_1), .val (.int (bI (¬ ((p0_1 &&& (1 : Int32)) = (0 : Int32))))), .val (.int (bI (¬ ((p0_1 &&& (2 : Int32)) = (0 : Int32))))), .val (.int (bI (¬ ((p0_1 &&& (4 : Int32)) = (0 : Int32))))), .val (.ref b16), .val (.int (0 : Int32)), .val (.int (0 : Int32)), .unset, .unset, .unset] [(.int ((0 : Int32) - (0 : Int32)))])) _
          refine XS.istore X211.here hx rfl (hb hby at_102) rfl (l' := #[.val (.int p0_0), .val (.int p0_1), .val (.int (bI (¬ ((p0_1 &&& (1 : Int32)) = (0 : Int32))))), .val (.int (bI (¬ ((p0_1 &&& (2 : Int32)) = (0 : Int32))))), .val (.int (bI (¬ ((p0_1 &&& (4 : Int32)) = (0 : Int32))))), .val (.ref b16), .val (.int (0 : Int32)), .val (.int (0 : Int32)), .val (.int ((0 : Int32) - (0 : Int32))), .unset, .unset]) rfl ?_
          show Steps p.tables e below (T211.setTop (mkF m 104 #[.val (.int p0_0), .val (.int p0_1), .val (.int (bI (¬ ((p0_1 &&& (1 : Int32)) = (0 : Int32))))), .val (.int (bI (¬ ((p0_1 &&& (2 : Int32)) = (0 : Int32))))), .val (.int (bI (¬ ((p0_1 &&& (4 : Int32)) = (0 : Int32))))), .val (.ref b16), .val (.int (0 : Int32)), .val (.int (0 : Int32)), .val (.int ((0 : Int32) - (0 : Int32))), .unset, .unset] [])) _
          refine XS.iloadN X211.here hx rfl (hb hby at_104) rfl ?_
          show Steps p.tables e below (T211.setTop (mkF m 105 #[.val (.int p0_0), .val (.int p0_1), .val (.int (bI (¬ ((p0_1 &&& (1 : Int32)) = (0 : Int32))))), .val (.int (bI (¬ ((p0_1 &&& (2 : Int32)) = (0 : Int32))))), .val (.int (bI (¬ ((p0_1 &&& (4 : Int32)) = (0 : Int32))))), .val (.ref b16), .val (.int (0 : Int32)), .val (.int (0 : Int32)), .val (.int ((0 : Int32) - (0 : Int32))), .unset, .unset] [(.int (bI (¬ ((p0_1 &&& (1 : Int32)) = (0 : Int32)))))])) _
          refine XS.ifYes X211.here hx rfl (pc0 := 105) (pc' := 116) rfl (hb hby at_105) rfl ((if0 _ _).trans (teq (bI_f hc31)).1) (by decide) (by decide) ?_
          show Steps p.tables e below (T211.setTop (mkF m 116 #[.val (.int p0_0), .val (.int p0_1), .val (.int (bI (¬ ((p0_1 &&& (1 : Int32)) = (0 : Int32))))), .val (.int (bI (¬ ((p0_1 &&& (2 : Int32)) = (0 : Int32))))), .val (.int (bI (¬ ((p0_1 &&& (4 : Int32)) = (0 : Int32))))), .val (.ref b16), .val (.int (0 : Int32)), .val (.int (0 : Int32)), .val (.int ((0 : Int32) - (0 : Int32))), .unset, .unset] [])) _
          refine XS.iconst X211.here hx rfl (hb hby at_116) ?_
          show Steps p.tables e below (T211.setTop (mkF m 117 #[.val (.int p0_0), .val (.int p0_1), .val (.int (bI (¬ ((p0_1 &&& (1 : Int32)) = (0 : Int32))))), .val (.int (bI (¬ ((p0_1 &&& (2 : Int32)) = (0 : Int32))))), .val (.int (bI (¬ ((p0_1 &&& (4 : Int32)) = (0 : Int32))))), .val (.ref b16), .val (.int (0 : Int32)), .val (.int (0 : Int32)), .val (.int ((0 : Int32) - (0 : Int32))), .unset, .unset] [(.int (0 : Int32))])) _
          refine XS.istore X211.here hx rfl (hb hby at_117) rfl (l' := #[.val (.int p0_0), .val (.int p0_1), .val (.int (bI (¬ ((p0_1 &&& (1 : Int32)) = (0 : Int32))))), .val (.int (bI (¬ ((p0_1 &&& (2 : Int32)) = (0 : Int32))))), .val (.int (bI (¬ ((p0_1 &&& (4 : Int32)) = (0 : Int32))))), .val (.ref b16), .val (.int (0 : Int32)), .val (.int (0 : Int32)), .val (.int ((0 : Int32) - (0 : Int32))), .val (.int (0 : Int32)), .unset]) rfl ?_
          show Steps p.tables e below (T211.setTop (mkF m 119 #[.val (.int p0_0), .val (.int p0_1), .val (.int (bI (¬ ((p0_1 &&& (1 : Int32)) = (0 : Int32))))), .val (.int (bI (¬ ((p0_1 &&& (2 : Int32)) = (0 : Int32))))), .val (.int (bI (¬ ((p0_1 &&& (4 : Int32)) = (0 : Int32))))), .val (.ref b16), .val (.int (0 : Int32)), .val (.int (0 : Int32)), .val (.int ((0 : Int32) - (0 : Int32))), .val (.int (0 : Int32)), .unset] [])) _
          refine XS.iload X211.here hx rfl (hb hby at_119) rfl ?_
          show Steps p.tables e below (T211.setTop (mkF m 121 #[.val (.int p0_0), .val (.int p0_1), .val (.int (bI (¬ ((p0_1 &&& (1 : Int32)) = (0 : Int32))))), .val (.int (bI (¬ ((p0_1 &&& (2 : Int32)) = (0 : Int32))))), .val (.int (bI (¬ ((p0_1 &&& (4 : Int32)) = (0 : Int32))))), .val (.ref b16), .val (.int (0 : Int32)), .val (.int (0 : Int32)), .val (.int ((0 : Int32) - (0 : Int32))), .val (.int (0 : Int32)), .unset] [(.int (bI (¬ ((p0_1 &&& (4 : Int32)) = (0 : Int32)))))])) _
          refine XS.ifNo X211.here hx rfl (hb hby at_121) rfl ((if0 _ _).trans (feq (bI_n hc210)).1) ?_
          show Steps p.tables e below (T211.setTop (mkF m 124 #[.val (.int p0_0), .val (.int p0_1), .val (.int (bI (¬ ((p0_1 &&& (1 : Int32)) = (0 : Int32))))), .val (.int (bI (¬ ((p0_1 &&& (2 : Int32)) = (0 : Int32))))), .val (.int (bI (¬ ((p0_1 &&& (4 : Int32)) = (0 : Int32))))), .val (.ref b16), .val (.int (0 : Int32)), .val (.int (0 : Int32)), .val (.int ((0 : Int32) - (0 : Int32))), .val (.int (0 : Int32)), .unset] [])) _
          refine XS.iconst X211.here hx rfl (hb hby at_124) ?_
          show Steps p.tables e below (T211.setTop (mkF m 125 #[.val (.int p0_0), .val (.int p0_1), .val (.int (bI (¬ ((p0_1 &&& (1 : Int32)) = (0 : Int32))))), .val (.int (bI (¬ ((p0_1 &&& (2 : Int32)) = (0 : Int32))))), .val (.int (bI (¬ ((p0_1 &&& (4 : Int32)) = (0 : Int32))))), .val (.ref b16), .val (.int (0 : Int32)), .val (.int (0 : Int32)), .val (.int ((0 : Int32) - (0 : Int32))), .val (.int (0 : Int32)), .unset] [(.int (-1 : Int32))])) _
          refine XS.goto X211.here hx rfl (pc0 := 125) (pc' := 129) rfl (hb hby at_125) (by decide) (by decide) ?_
          show Steps p.tables e below (T211.setTop (mkF m 129 #[.val (.int p0_0), .val (.int p0_1), .val (.int (bI (¬ ((p0_1 &&& (1 : Int32)) = (0 : Int32))))), .val (.int (bI (¬ ((p0_1 &&& (2 : Int32)) = (0 : Int32))))), .val (.int (bI (¬ ((p0_1 &&& (4 : Int32)) = (0 : Int32))))), .val (.ref b16), .val (.int (0 : Int32)), .val (.int (0 : Int32)), .val (.int ((0 : Int32) - (0 : Int32))), .val (.int (0 : Int32)), .unset] [(.int (-1 : Int32))])) _
          refine XS.istore X211.here hx rfl (hb hby at_129) rfl (l' := #[.val (.int p0_0), .val (.int p0_1), .val (.int (bI (¬ ((p0_1 &&& (1 : Int32)) = (0 : Int32))))), .val (.int (bI (¬ ((p0_1 &&& (2 : Int32)) = (0 : Int32))))), .val (.int (bI (¬ ((p0_1 &&& (4 : Int32)) = (0 : Int32))))), .val (.ref b16), .val (.int (0 : Int32)), .val (.int (0 : Int32)), .val (.int ((0 : Int32) - (0 : Int32))), .val (.int (0 : Int32)), .val (.int (-1 : Int32))]) rfl ?_
          show Steps p.tables e below (T211.setTop (mkF m 131 #[.val (.int p0_0), .val (.int p0_1), .val (.int (bI (¬ ((p0_1 &&& (1 : Int32)) = (0 : Int32))))), .val (.int (bI (¬ ((p0_1 &&& (2 : Int32)) = (0 : Int32))))), .val (.int (bI (¬ ((p0_1 &&& (4 : Int32)) = (0 : Int32))))), .val (.ref b16), .val (.int (0 : Int32)), .val (.int (0 : Int32)), .val (.int ((0 : Int32) - (0 : Int32))), .val (.int (0 : Int32)), .val (.int (-1 : Int32))] [])) _
          refine XS.aload X211.here hx rfl (hb hby at_131) rfl rfl ?_
          show Steps p.tables e below (T211.setTop (mkF m 133 #[.val (.int p0_0), .val (.int p0_1), .val (.int (bI (¬ ((p0_1 &&& (1 : Int32)) = (0 : Int32))))), .val (.int (bI (¬ ((p0_1 &&& (2 : Int32)) = (0 : Int32))))), .val (.int (bI (¬ ((p0_1 &&& (4 : Int32)) = (0 : Int32))))), .val (.ref b16), .val (.int (0 : Int32)), .val (.int (0 : Int32)), .val (.int ((0 : Int32) - (0 : Int32))), .val (.int (0 : Int32)), .val (.int (-1 : Int32))] [(.ref b16)])) _
          refine st216.trans ?_
          exact k)
        have f219 := r211_0.keep K216
        have z220 := Nat.le_trans z215 K216.1
        obtain ⟨cq221, kq221, q221a, q221b, q221c⟩ := isOf hZ rfl r216_0
        obtain ⟨_, _, ⟨T221, L221, k221, n221⟩, -, X221, ⟨Lc221, hQ221, l221, y221, z221⟩, st221⟩ := X216.virtualBack hx (y := (⟨"com/example/shieldwall/shieldwall/engine/MoraleState", "battles", "()I"⟩ : MethodName)) (z := (⟨"com/example/shieldwall/shieldwall/engine/MoraleState", "battles", "()I"⟩ : MethodName)) hown (mvT hZ (hW 27 _ rfl)) (mvT hZ (hW 28 _ rfl)) (notFace_of_selects (args := #[]) (mvT hZ (hW 30 _ rfl))) (mvT hZ (hW 30 _ rfl)) (mvT hZ (hW 29 _ rfl)) (by decide) (backOf (W := 0) (rm5 l Z a0 hw [] b16 (0 : Int32) ((0 : Int32) + (1 : Int32)) T216.heap n0 z220 r216_2 r216_5) hZ (hW 31 _ rfl) (hW 2 _ rfl) (by decide) (by decide)) q221a q221c (g := (mkF m 138 #[.val (.int p0_0), .val (.int p0_1), .val (.int (bI (¬ ((p0_1 &&& (1 : Int32)) = (0 : Int32))))), .val (.int (bI (¬ ((p0_1 &&& (2 : Int32)) = (0 : Int32))))), .val (.int (bI (¬ ((p0_1 &&& (4 : Int32)) = (0 : Int32))))), .val (.ref b16), .val (.int (0 : Int32)), .val (.int (0 : Int32)), .val (.int ((0 : Int32) - (0 : Int32))), .val (.int (0 : Int32)), .val (.int (-1 : Int32))] [(.ref b16)])) rfl (by rw [hml]; rfl) (Steps.refl _) (argsL := []) (rest := []) (lenOf pd_2 rfl) rfl (by show 2 * 0 + _ ≤ _; exact Nat.le_of_eq rfl) (hb hby at_138) (fun _ _ => ⟨rfl, rfl, (by decide : 1 + 0 ≤ _), (by decide : 7 + 0 ≤ _)⟩)
        dsimp only [Pt.U, Pt.locs, Pt.cells, Pt.slots] at X221 l221 y221 z221 st221 hQ221
        subst l221 y221 z221
        obtain ⟨rfl, N221q, e221⟩ := hQ221
        have N222 := Fr.app N217 N221q
        have pre223 : ∀ t, Steps p.tables e below (T221.setTop (mkF m 141 #[.val (.int p0_0), .val (.int p0_1), .val (.int (bI (¬ ((p0_1 &&& (1 : Int32)) = (0 : Int32))))), .val (.int (bI (¬ ((p0_1 &&& (2 : Int32)) = (0 : Int32))))), .val (.int (bI (¬ ((p0_1 &&& (4 : Int32)) = (0 : Int32))))), .val (.ref b16), .val (.int (0 : Int32)), .val (.int (0 : Int32)), .val (.int ((0 : Int32) - (0 : Int32))), .val (.int (0 : Int32)), .val (.int (-1 : Int32))] [(.int ((0 : Int32) - ((0 : Int32) + (1 : Int32))))])) t → Steps p.tables e below (s₁.setTop (entryFrame m #[(.int p0_0), (.int p0_1)] maxLocals)) t := fun t k => pre218 t (by
          show Steps p.tables e below (T216.setTop (mkF m 136 #[.val (.int p0_0), .val (.int p0_1), .val (.int (bI (¬ ((p0_1 &&& (1 : Int32)) = (0 : Int32))))), .val (.int (bI (¬ ((p0_1 &&& (2 : Int32)) = (0 : Int32))))), .val (.int (bI (¬ ((p0_1 &&& (4 : Int32)) = (0 : Int32))))), .val (.ref b16), .val (.int (0 : Int32)), .val (.int (0 : Int32)), .val (.int ((0 : Int32) - (0 : Int32))), .val (.int (0 : Int32)), .val (.int (-1 : Int32))] [])) _
          refine XS.aload X216.here hx rfl (hb hby at_136) rfl rfl ?_
          show Steps p.tables e below (T216.setTop (mkF m 138 #[.val (.int p0_0), .val (.int p0_1), .val (.int (bI (¬ ((p0_1 &&& (1 : Int32)) = (0 : Int32))))), .val (.int (bI (¬ ((p0_1 &&& (2 : Int32)) = (0 : Int32))))), .val (.int (bI (¬ ((p0_1 &&& (4 : Int32)) = (0 : Int32))))), .val (.ref b16), .val (.int (0 : Int32)), .val (.int (0 : Int32)), .val (.int ((0 : Int32) - (0 : Int32))), .val (.int (0 : Int32)), .val (.int (-1 : Int32))] [(.ref b16)])) _
          refine st221.trans ?_
          exact k)
        have hd224 : ((0 : Int32) - ((0 : Int32) + (1 : Int32))) = (((0 : Int32) - (0 : Int32)) - (1 : Int32)) := by
          decide
        obtain ⟨cq225, kq225, q225a, q225b, q225c⟩ := isOf hZ e221 r216_0
        obtain ⟨_, _, ⟨T225, L225, k225, n225⟩, -, X225, ⟨Lc225, hQ225, l225, y225, z225⟩, st225⟩ := X221.virtualBack hx (y := (⟨"com/example/shieldwall/shieldwall/engine/MoraleState", "lostInARow", "()I"⟩ : MethodName)) (z := (⟨"com/example/shieldwall/shieldwall/engine/MoraleState", "lostInARow", "()I"⟩ : MethodName)) hown (mvT hZ (hW 32 _ rfl)) (mvT hZ (hW 33 _ rfl)) (notFace_of_selects (args := #[]) (mvT hZ (hW 35 _ rfl))) (mvT hZ (hW 35 _ rfl)) (mvT hZ (hW 34 _ rfl)) (by decide) (backOf (W := 0) (rm6 l Z a0 hw [] b16 ((0 : Int32) + (1 : Int32)) T216.heap n0 z220 r216_6) hZ (hW 36 _ rfl) (hW 2 _ rfl) (by decide) (by decide)) q225a q225c (g := (mkF m 150 #[.val (.int p0_0), .val (.int p0_1), .val (.int (bI (¬ ((p0_1 &&& (1 : Int32)) = (0 : Int32))))), .val (.int (bI (¬ ((p0_1 &&& (2 : Int32)) = (0 : Int32))))), .val (.int (bI (¬ ((p0_1 &&& (4 : Int32)) = (0 : Int32))))), .val (.ref b16), .val (.int (0 : Int32)), .val (.int (0 : Int32)), .val (.int ((0 : Int32) - (0 : Int32))), .val (.int (0 : Int32)), .val (.int (-1 : Int32))] [(.ref b16)])) rfl (by rw [hml]; rfl) (Steps.refl _) (argsL := []) (rest := []) (lenOf pd_2 rfl) rfl (by show 2 * 0 + _ ≤ _; exact Nat.le_of_eq rfl) (hb hby at_150) (fun _ _ => ⟨rfl, e221, (by decide : 1 + 0 ≤ _), (by decide : 7 + 0 ≤ _)⟩)
        dsimp only [Pt.U, Pt.locs, Pt.cells, Pt.slots] at X225 l225 y225 z225 st225 hQ225
        subst l225 y225 z225
        obtain ⟨rfl, N225q, e225⟩ := hQ225
        have N226 := Fr.app N222 N225q
        have pre227 : ∀ t, Steps p.tables e below (T225.setTop (mkF m 153 #[.val (.int p0_0), .val (.int p0_1), .val (.int (bI (¬ ((p0_1 &&& (1 : Int32)) = (0 : Int32))))), .val (.int (bI (¬ ((p0_1 &&& (2 : Int32)) = (0 : Int32))))), .val (.int (bI (¬ ((p0_1 &&& (4 : Int32)) = (0 : Int32))))), .val (.ref b16), .val (.int (0 : Int32)), .val (.int (0 : Int32)), .val (.int ((0 : Int32) - (0 : Int32))), .val (.int (0 : Int32)), .val (.int (-1 : Int32))] [(.int ((0 : Int32) + (1 : Int32)))])) t → Steps p.tables e below (s₁.setTop (entryFrame m #[(.int p0_0), (.int p0_1)] maxLocals)) t := fun t k => pre223 t (by
          show Steps p.tables e below (T221.setTop (mkF m 141 #[.val (.int p0_0), .val (.int p0_1), .val (.int (bI (¬ ((p0_1 &&& (1 : Int32)) = (0 : Int32))))), .val (.int (bI (¬ ((p0_1 &&& (2 : Int32)) = (0 : Int32))))), .val (.int (bI (¬ ((p0_1 &&& (4 : Int32)) = (0 : Int32))))), .val (.ref b16), .val (.int (0 : Int32)), .val (.int (0 : Int32)), .val (.int ((0 : Int32) - (0 : Int32))), .val (.int (0 : Int32)), .val (.int (-1 : Int32))] [(.int ((0 : Int32) - ((0 : Int32) + (1 : Int32))))])) _
          refine XS.iload X221.here hx rfl (hb hby at_141) rfl ?_
          show Steps p.tables e below (T221.setTop (mkF m 143 #[.val (.int p0_0), .val (.int p0_1), .val (.int (bI (¬ ((p0_1 &&& (1 : Int32)) = (0 : Int32))))), .val (.int (bI (¬ ((p0_1 &&& (2 : Int32)) = (0 : Int32))))), .val (.int (bI (¬ ((p0_1 &&& (4 : Int32)) = (0 : Int32))))), .val (.ref b16), .val (.int (0 : Int32)), .val (.int (0 : Int32)), .val (.int ((0 : Int32) - (0 : Int32))), .val (.int (0 : Int32)), .val (.int (-1 : Int32))] [(.int ((0 : Int32) - (0 : Int32))), (.int ((0 : Int32) - ((0 : Int32) + (1 : Int32))))])) _
          refine XS.iconst X221.here hx rfl (hb hby at_143) ?_
          show Steps p.tables e below (T221.setTop (mkF m 144 #[.val (.int p0_0), .val (.int p0_1), .val (.int (bI (¬ ((p0_1 &&& (1 : Int32)) = (0 : Int32))))), .val (.int (bI (¬ ((p0_1 &&& (2 : Int32)) = (0 : Int32))))), .val (.int (bI (¬ ((p0_1 &&& (4 : Int32)) = (0 : Int32))))), .val (.ref b16), .val (.int (0 : Int32)), .val (.int (0 : Int32)), .val (.int ((0 : Int32) - (0 : Int32))), .val (.int (0 : Int32)), .val (.int (-1 : Int32))] [(.int (1 : Int32)), (.int ((0 : Int32) - (0 : Int32))), (.int ((0 : Int32) - ((0 : Int32) + (1 : Int32))))])) _
          refine XS.isub X221.here hx rfl (hb hby at_144) rfl ?_
          show Steps p.tables e below (T221.setTop (mkF m 145 #[.val (.int p0_0), .val (.int p0_1), .val (.int (bI (¬ ((p0_1 &&& (1 : Int32)) = (0 : Int32))))), .val (.int (bI (¬ ((p0_1 &&& (2 : Int32)) = (0 : Int32))))), .val (.int (bI (¬ ((p0_1 &&& (4 : Int32)) = (0 : Int32))))), .val (.ref b16), .val (.int (0 : Int32)), .val (.int (0 : Int32)), .val (.int ((0 : Int32) - (0 : Int32))), .val (.int (0 : Int32)), .val (.int (-1 : Int32))] [(.int (((0 : Int32) - (0 : Int32)) - (1 : Int32))), (.int ((0 : Int32) - ((0 : Int32) + (1 : Int32))))])) _
          refine XS.icmpNo X221.here hx rfl (hb hby at_145) rfl (teq hd224).2 ?_
          show Steps p.tables e below (T221.setTop (mkF m 148 #[.val (.int p0_0), .val (.int p0_1), .val (.int (bI (¬ ((p0_1 &&& (1 : Int32)) = (0 : Int32))))), .val (.int (bI (¬ ((p0_1 &&& (2 : Int32)) = (0 : Int32))))), .val (.int (bI (¬ ((p0_1 &&& (4 : Int32)) = (0 : Int32))))), .val (.ref b16), .val (.int (0 : Int32)), .val (.int (0 : Int32)), .val (.int ((0 : Int32) - (0 : Int32))), .val (.int (0 : Int32)), .val (.int (-1 : Int32))] [])) _
          refine XS.aload X221.here hx rfl (hb hby at_148) rfl rfl ?_
          show Steps p.tables e below (T221.setTop (mkF m 150 #[.val (.int p0_0), .val (.int p0_1), .val (.int (bI (¬ ((p0_1 &&& (1 : Int32)) = (0 : Int32))))), .val (.int (bI (¬ ((p0_1 &&& (2 : Int32)) = (0 : Int32))))), .val (.int (bI (¬ ((p0_1 &&& (4 : Int32)) = (0 : Int32))))), .val (.ref b16), .val (.int (0 : Int32)), .val (.int (0 : Int32)), .val (.int ((0 : Int32) - (0 : Int32))), .val (.int (0 : Int32)), .val (.int (-1 : Int32))] [(.ref b16)])) _
          refine st225.trans ?_
          exact k)
        obtain ⟨cq228, kq228, q228a, q228b, q228c⟩ := isOf hZ e225 r216_0
        obtain ⟨_, _, ⟨T228, L228, k228, n228⟩, -, X228, ⟨Lc228, hQ228, l228, y228, z228⟩, st228⟩ := X225.virtualBack hx (y := (⟨"com/example/shieldwall/shieldwall/engine/MoraleState", "routs", "()I"⟩ : MethodName)) (z := (⟨"com/example/shieldwall/shieldwall/engine/MoraleState", "routs", "()I"⟩ : MethodName)) hown (mvT hZ (hW 37 _ rfl)) (mvT hZ (hW 38 _ rfl)) (notFace_of_selects (args := #[]) (mvT hZ (hW 40 _ rfl))) (mvT hZ (hW 40 _ rfl)) (mvT hZ (hW 39 _ rfl)) (by decide) (backOf (W := 0) (rm7 l Z a0 hw [] b16 ((0 : Int32) - (1 : Int32)) T216.heap n0 z220 r216_3) hZ (hW 41 _ rfl) (hW 2 _ rfl) (by decide) (by decide)) q228a q228c (g := (mkF m 162 #[.val (.int p0_0), .val (.int p0_1), .val (.int (bI (¬ ((p0_1 &&& (1 : Int32)) = (0 : Int32))))), .val (.int (bI (¬ ((p0_1 &&& (2 : Int32)) = (0 : Int32))))), .val (.int (bI (¬ ((p0_1 &&& (4 : Int32)) = (0 : Int32))))), .val (.ref b16), .val (.int (0 : Int32)), .val (.int (0 : Int32)), .val (.int ((0 : Int32) - (0 : Int32))), .val (.int (0 : Int32)), .val (.int (-1 : Int32))] [(.ref b16)])) rfl (by rw [hml]; rfl) (Steps.refl _) (argsL := []) (rest := []) (lenOf pd_2 rfl) rfl (by show 2 * 0 + _ ≤ _; exact Nat.le_of_eq rfl) (hb hby at_162) (fun _ _ => ⟨rfl, e225, (by decide : 1 + 0 ≤ _), (by decide : 7 + 0 ≤ _)⟩)
        dsimp only [Pt.U, Pt.locs, Pt.cells, Pt.slots] at X228 l228 y228 z228 st228 hQ228
        subst l228 y228 z228
        obtain ⟨rfl, N228q, e228⟩ := hQ228
        have N229 := Fr.app N226 N228q
        have pre230 : ∀ t, Steps p.tables e below (T228.setTop (mkF m 165 #[.val (.int p0_0), .val (.int p0_1), .val (.int (bI (¬ ((p0_1 &&& (1 : Int32)) = (0 : Int32))))), .val (.int (bI (¬ ((p0_1 &&& (2 : Int32)) = (0 : Int32))))), .val (.int (bI (¬ ((p0_1 &&& (4 : Int32)) = (0 : Int32))))), .val (.ref b16), .val (.int (0 : Int32)), .val (.int (0 : Int32)), .val (.int ((0 : Int32) - (0 : Int32))), .val (.int (0 : Int32)), .val (.int (-1 : Int32))] [(.int ((0 : Int32) - (1 : Int32)))])) t → Steps p.tables e below (s₁.setTop (entryFrame m #[(.int p0_0), (.int p0_1)] maxLocals)) t := fun t k => pre227 t (by
          show Steps p.tables e below (T225.setTop (mkF m 153 #[.val (.int p0_0), .val (.int p0_1), .val (.int (bI (¬ ((p0_1 &&& (1 : Int32)) = (0 : Int32))))), .val (.int (bI (¬ ((p0_1 &&& (2 : Int32)) = (0 : Int32))))), .val (.int (bI (¬ ((p0_1 &&& (4 : Int32)) = (0 : Int32))))), .val (.ref b16), .val (.int (0 : Int32)), .val (.int (0 : Int32)), .val (.int ((0 : Int32) - (0 : Int32))), .val (.int (0 : Int32)), .val (.int (-1 : Int32))] [(.int ((0 : Int32) + (1 : Int32)))])) _
          refine XS.iload X225.here hx rfl (hb hby at_153) rfl ?_
          show Steps p.tables e below (T225.setTop (mkF m 155 #[.val (.int p0_0), .val (.int p0_1), .val (.int (bI (¬ ((p0_1 &&& (1 : Int32)) = (0 : Int32))))), .val (.int (bI (¬ ((p0_1 &&& (2 : Int32)) = (0 : Int32))))), .val (.int (bI (¬ ((p0_1 &&& (4 : Int32)) = (0 : Int32))))), .val (.ref b16), .val (.int (0 : Int32)), .val (.int (0 : Int32)), .val (.int ((0 : Int32) - (0 : Int32))), .val (.int (0 : Int32)), .val (.int (-1 : Int32))] [(.int (0 : Int32)), (.int ((0 : Int32) + (1 : Int32)))])) _
          refine XS.iconst X225.here hx rfl (hb hby at_155) ?_
          show Steps p.tables e below (T225.setTop (mkF m 156 #[.val (.int p0_0), .val (.int p0_1), .val (.int (bI (¬ ((p0_1 &&& (1 : Int32)) = (0 : Int32))))), .val (.int (bI (¬ ((p0_1 &&& (2 : Int32)) = (0 : Int32))))), .val (.int (bI (¬ ((p0_1 &&& (4 : Int32)) = (0 : Int32))))), .val (.ref b16), .val (.int (0 : Int32)), .val (.int (0 : Int32)), .val (.int ((0 : Int32) - (0 : Int32))), .val (.int (0 : Int32)), .val (.int (-1 : Int32))] [(.int (1 : Int32)), (.int (0 : Int32)), (.int ((0 : Int32) + (1 : Int32)))])) _
          refine XS.iadd X225.here hx rfl (hb hby at_156) rfl ?_
          show Steps p.tables e below (T225.setTop (mkF m 157 #[.val (.int p0_0), .val (.int p0_1), .val (.int (bI (¬ ((p0_1 &&& (1 : Int32)) = (0 : Int32))))), .val (.int (bI (¬ ((p0_1 &&& (2 : Int32)) = (0 : Int32))))), .val (.int (bI (¬ ((p0_1 &&& (4 : Int32)) = (0 : Int32))))), .val (.ref b16), .val (.int (0 : Int32)), .val (.int (0 : Int32)), .val (.int ((0 : Int32) - (0 : Int32))), .val (.int (0 : Int32)), .val (.int (-1 : Int32))] [(.int ((0 : Int32) + (1 : Int32))), (.int ((0 : Int32) + (1 : Int32)))])) _
          refine XS.icmpNo X225.here hx rfl (hb hby at_157) rfl (teq (rfl : ((0 : Int32) + (1 : Int32)) = ((0 : Int32) + (1 : Int32)))).2 ?_
          show Steps p.tables e below (T225.setTop (mkF m 160 #[.val (.int p0_0), .val (.int p0_1), .val (.int (bI (¬ ((p0_1 &&& (1 : Int32)) = (0 : Int32))))), .val (.int (bI (¬ ((p0_1 &&& (2 : Int32)) = (0 : Int32))))), .val (.int (bI (¬ ((p0_1 &&& (4 : Int32)) = (0 : Int32))))), .val (.ref b16), .val (.int (0 : Int32)), .val (.int (0 : Int32)), .val (.int ((0 : Int32) - (0 : Int32))), .val (.int (0 : Int32)), .val (.int (-1 : Int32))] [])) _
          refine XS.aload X225.here hx rfl (hb hby at_160) rfl rfl ?_
          show Steps p.tables e below (T225.setTop (mkF m 162 #[.val (.int p0_0), .val (.int p0_1), .val (.int (bI (¬ ((p0_1 &&& (1 : Int32)) = (0 : Int32))))), .val (.int (bI (¬ ((p0_1 &&& (2 : Int32)) = (0 : Int32))))), .val (.int (bI (¬ ((p0_1 &&& (4 : Int32)) = (0 : Int32))))), .val (.ref b16), .val (.int (0 : Int32)), .val (.int (0 : Int32)), .val (.int ((0 : Int32) - (0 : Int32))), .val (.int (0 : Int32)), .val (.int (-1 : Int32))] [(.ref b16)])) _
          refine st228.trans ?_
          exact k)
        have hd231 : ((0 : Int32) - (1 : Int32)) = (-1 : Int32) := by
          decide
        obtain ⟨cq232, kq232, q232a, q232b, q232c⟩ := isOf hZ e228 r216_0
        obtain ⟨_, _, ⟨T232, L232, k232, n232⟩, -, X232, ⟨Lc232, hQ232, l232, y232, z232⟩, st232⟩ := X228.virtualBack hx (y := (⟨"com/example/shieldwall/shieldwall/engine/MoraleState", "routing", "()Z"⟩ : MethodName)) (z := (⟨"com/example/shieldwall/shieldwall/engine/MoraleState", "routing", "()Z"⟩ : MethodName)) hown (mvT hZ (hW 44 _ rfl)) (mvT hZ (hW 45 _ rfl)) (notFace_of_selects (args := #[]) (mvT hZ (hW 47 _ rfl))) (mvT hZ (hW 47 _ rfl)) (mvT hZ (hW 46 _ rfl)) (by decide) (backOf (W := 0) (rm8 l Z a0 hw [] b16 (1 : Int32) T216.heap n0 z220 r216_4) hZ (hW 48 _ rfl) (hW 2 _ rfl) (by decide) (by decide)) q232a q232c (g := (mkF m 172 #[.val (.int p0_0), .val (.int p0_1), .val (.int (bI (¬ ((p0_1 &&& (1 : Int32)) = (0 : Int32))))), .val (.int (bI (¬ ((p0_1 &&& (2 : Int32)) = (0 : Int32))))), .val (.int (bI (¬ ((p0_1 &&& (4 : Int32)) = (0 : Int32))))), .val (.ref b16), .val (.int (0 : Int32)), .val (.int (0 : Int32)), .val (.int ((0 : Int32) - (0 : Int32))), .val (.int (0 : Int32)), .val (.int (-1 : Int32))] [(.ref b16)])) rfl (by rw [hml]; rfl) (Steps.refl _) (argsL := []) (rest := []) (lenOf pd_3 rfl) rfl (by show 2 * 0 + _ ≤ _; exact Nat.le_of_eq rfl) (hb hby at_172) (fun _ _ => ⟨rfl, e228, (by decide : 1 + 0 ≤ _), (by decide : 7 + 0 ≤ _)⟩)
        dsimp only [Pt.U, Pt.locs, Pt.cells, Pt.slots] at X232 l232 y232 z232 st232 hQ232
        subst l232 y232 z232
        obtain ⟨rfl, N232q, e232⟩ := hQ232
        have N233 := Fr.app N229 N232q
        have pre234 : ∀ t, Steps p.tables e below (T232.setTop (mkF m 175 #[.val (.int p0_0), .val (.int p0_1), .val (.int (bI (¬ ((p0_1 &&& (1 : Int32)) = (0 : Int32))))), .val (.int (bI (¬ ((p0_1 &&& (2 : Int32)) = (0 : Int32))))), .val (.int (bI (¬ ((p0_1 &&& (4 : Int32)) = (0 : Int32))))), .val (.ref b16), .val (.int (0 : Int32)), .val (.int (0 : Int32)), .val (.int ((0 : Int32) - (0 : Int32))), .val (.int (0 : Int32)), .val (.int (-1 : Int32))] [(.int (nar .boolean (1 : Int32)))])) t → Steps p.tables e below (s₁.setTop (entryFrame m #[(.int p0_0), (.int p0_1)] maxLocals)) t := fun t k => pre230 t (by
          show Steps p.tables e below (T228.setTop (mkF m 165 #[.val (.int p0_0), .val (.int p0_1), .val (.int (bI (¬ ((p0_1 &&& (1 : Int32)) = (0 : Int32))))), .val (.int (bI (¬ ((p0_1 &&& (2 : Int32)) = (0 : Int32))))), .val (.int (bI (¬ ((p0_1 &&& (4 : Int32)) = (0 : Int32))))), .val (.ref b16), .val (.int (0 : Int32)), .val (.int (0 : Int32)), .val (.int ((0 : Int32) - (0 : Int32))), .val (.int (0 : Int32)), .val (.int (-1 : Int32))] [(.int ((0 : Int32) - (1 : Int32)))])) _
          refine XS.iload X228.here hx rfl (hb hby at_165) rfl ?_
          show Steps p.tables e below (T228.setTop (mkF m 167 #[.val (.int p0_0), .val (.int p0_1), .val (.int (bI (¬ ((p0_1 &&& (1 : Int32)) = (0 : Int32))))), .val (.int (bI (¬ ((p0_1 &&& (2 : Int32)) = (0 : Int32))))), .val (.int (bI (¬ ((p0_1 &&& (4 : Int32)) = (0 : Int32))))), .val (.ref b16), .val (.int (0 : Int32)), .val (.int (0 : Int32)), .val (.int ((0 : Int32) - (0 : Int32))), .val (.int (0 : Int32)), .val (.int (-1 : Int32))] [(.int (-1 : Int32)), (.int ((0 : Int32) - (1 : Int32)))])) _
          refine XS.icmpNo X228.here hx rfl (hb hby at_167) rfl (teq hd231).2 ?_
          show Steps p.tables e below (T228.setTop (mkF m 170 #[.val (.int p0_0), .val (.int p0_1), .val (.int (bI (¬ ((p0_1 &&& (1 : Int32)) = (0 : Int32))))), .val (.int (bI (¬ ((p0_1 &&& (2 : Int32)) = (0 : Int32))))), .val (.int (bI (¬ ((p0_1 &&& (4 : Int32)) = (0 : Int32))))), .val (.ref b16), .val (.int (0 : Int32)), .val (.int (0 : Int32)), .val (.int ((0 : Int32) - (0 : Int32))), .val (.int (0 : Int32)), .val (.int (-1 : Int32))] [])) _
          refine XS.aload X228.here hx rfl (hb hby at_170) rfl rfl ?_
          show Steps p.tables e below (T228.setTop (mkF m 172 #[.val (.int p0_0), .val (.int p0_1), .val (.int (bI (¬ ((p0_1 &&& (1 : Int32)) = (0 : Int32))))), .val (.int (bI (¬ ((p0_1 &&& (2 : Int32)) = (0 : Int32))))), .val (.int (bI (¬ ((p0_1 &&& (4 : Int32)) = (0 : Int32))))), .val (.ref b16), .val (.int (0 : Int32)), .val (.int (0 : Int32)), .val (.int ((0 : Int32) - (0 : Int32))), .val (.int (0 : Int32)), .val (.int (-1 : Int32))] [(.ref b16)])) _
          refine st232.trans ?_
          exact k)
        have hd235 : (nar .boolean (1 : Int32)) = (bI (¬ ((p0_1 &&& (4 : Int32)) = (0 : Int32)))) := by
          rw [bI_t hc210]
          rfl
        obtain ⟨cq236, kq236, q236a, q236b, q236c⟩ := isOf hZ e232 r216_0
        obtain ⟨_, _, ⟨T236, L236, k236, n236⟩, -, X236, ⟨Lc236, hQ236, l236, y236, z236⟩, st236⟩ := X232.virtualBack hx (y := (⟨"com/example/shieldwall/shieldwall/engine/MoraleState", "startStrength", "()I"⟩ : MethodName)) (z := (⟨"com/example/shieldwall/shieldwall/engine/MoraleState", "startStrength", "()I"⟩ : MethodName)) hown (mvT hZ (hW 51 _ rfl)) (mvT hZ (hW 52 _ rfl)) (notFace_of_selects (args := #[]) (mvT hZ (hW 54 _ rfl))) (mvT hZ (hW 54 _ rfl)) (mvT hZ (hW 53 _ rfl)) (by decide) (backOf (W := 0) (rm9 l Z a0 hw [] b16 p0_0 T216.heap n0 z220 r216_1) hZ (hW 55 _ rfl) (hW 2 _ rfl) (by decide) (by decide)) q236a q236c (g := (mkF m 182 #[.val (.int p0_0), .val (.int p0_1), .val (.int (bI (¬ ((p0_1 &&& (1 : Int32)) = (0 : Int32))))), .val (.int (bI (¬ ((p0_1 &&& (2 : Int32)) = (0 : Int32))))), .val (.int (bI (¬ ((p0_1 &&& (4 : Int32)) = (0 : Int32))))), .val (.ref b16), .val (.int (0 : Int32)), .val (.int (0 : Int32)), .val (.int ((0 : Int32) - (0 : Int32))), .val (.int (0 : Int32)), .val (.int (-1 : Int32))] [(.ref b16)])) rfl (by rw [hml]; rfl) (Steps.refl _) (argsL := []) (rest := []) (lenOf pd_2 rfl) rfl (by show 2 * 0 + _ ≤ _; exact Nat.le_of_eq rfl) (hb hby at_182) (fun _ _ => ⟨rfl, e232, (by decide : 1 + 0 ≤ _), (by decide : 7 + 0 ≤ _)⟩)
        dsimp only [Pt.U, Pt.locs, Pt.cells, Pt.slots] at X236 l236 y236 z236 st236 hQ236
        subst l236 y236 z236
        obtain ⟨rfl, N236q, e236⟩ := hQ236
        have N237 := Fr.app N233 N236q
        have pre238 : ∀ t, Steps p.tables e below (T236.setTop (mkF m 185 #[.val (.int p0_0), .val (.int p0_1), .val (.int (bI (¬ ((p0_1 &&& (1 : Int32)) = (0 : Int32))))), .val (.int (bI (¬ ((p0_1 &&& (2 : Int32)) = (0 : Int32))))), .val (.int (bI (¬ ((p0_1 &&& (4 : Int32)) = (0 : Int32))))), .val (.ref b16), .val (.int (0 : Int32)), .val (.int (0 : Int32)), .val (.int ((0 : Int32) - (0 : Int32))), .val (.int (0 : Int32)), .val (.int (-1 : Int32))] [(.int p0_0)])) t → Steps p.tables e below (s₁.setTop (entryFrame m #[(.int p0_0), (.int p0_1)] maxLocals)) t := fun t k => pre234 t (by
          show Steps p.tables e below (T232.setTop (mkF m 175 #[.val (.int p0_0), .val (.int p0_1), .val (.int (bI (¬ ((p0_1 &&& (1 : Int32)) = (0 : Int32))))), .val (.int (bI (¬ ((p0_1 &&& (2 : Int32)) = (0 : Int32))))), .val (.int (bI (¬ ((p0_1 &&& (4 : Int32)) = (0 : Int32))))), .val (.ref b16), .val (.int (0 : Int32)), .val (.int (0 : Int32)), .val (.int ((0 : Int32) - (0 : Int32))), .val (.int (0 : Int32)), .val (.int (-1 : Int32))] [(.int (nar .boolean (1 : Int32)))])) _
          refine XS.iload X232.here hx rfl (hb hby at_175) rfl ?_
          show Steps p.tables e below (T232.setTop (mkF m 177 #[.val (.int p0_0), .val (.int p0_1), .val (.int (bI (¬ ((p0_1 &&& (1 : Int32)) = (0 : Int32))))), .val (.int (bI (¬ ((p0_1 &&& (2 : Int32)) = (0 : Int32))))), .val (.int (bI (¬ ((p0_1 &&& (4 : Int32)) = (0 : Int32))))), .val (.ref b16), .val (.int (0 : Int32)), .val (.int (0 : Int32)), .val (.int ((0 : Int32) - (0 : Int32))), .val (.int (0 : Int32)), .val (.int (-1 : Int32))] [(.int (bI (¬ ((p0_1 &&& (4 : Int32)) = (0 : Int32))))), (.int (nar .boolean (1 : Int32)))])) _
          refine XS.icmpNo X232.here hx rfl (hb hby at_177) rfl (teq hd235).2 ?_
          show Steps p.tables e below (T232.setTop (mkF m 180 #[.val (.int p0_0), .val (.int p0_1), .val (.int (bI (¬ ((p0_1 &&& (1 : Int32)) = (0 : Int32))))), .val (.int (bI (¬ ((p0_1 &&& (2 : Int32)) = (0 : Int32))))), .val (.int (bI (¬ ((p0_1 &&& (4 : Int32)) = (0 : Int32))))), .val (.ref b16), .val (.int (0 : Int32)), .val (.int (0 : Int32)), .val (.int ((0 : Int32) - (0 : Int32))), .val (.int (0 : Int32)), .val (.int (-1 : Int32))] [])) _
          refine XS.aload X232.here hx rfl (hb hby at_180) rfl rfl ?_
          show Steps p.tables e below (T232.setTop (mkF m 182 #[.val (.int p0_0), .val (.int p0_1), .val (.int (bI (¬ ((p0_1 &&& (1 : Int32)) = (0 : Int32))))), .val (.int (bI (¬ ((p0_1 &&& (2 : Int32)) = (0 : Int32))))), .val (.int (bI (¬ ((p0_1 &&& (4 : Int32)) = (0 : Int32))))), .val (.ref b16), .val (.int (0 : Int32)), .val (.int (0 : Int32)), .val (.int ((0 : Int32) - (0 : Int32))), .val (.int (0 : Int32)), .val (.int (-1 : Int32))] [(.ref b16)])) _
          refine st236.trans ?_
          exact k)
        obtain ⟨fs, hr, hrun, hended, hW, hsame⟩ := X236.leave (v := some (.int (1 : Int32))) (fun h => by rw [Bd.returns] at h; cases h)
        refine ⟨_, _, pre238 _ ?_, hrun, hended, _, _, rfl, ?_, ⟨_, rfl⟩, hW, hsame.mono (by decide) (by decide)⟩
        · show Steps p.tables e below (T236.setTop (mkF m 185 #[.val (.int p0_0), .val (.int p0_1), .val (.int (bI (¬ ((p0_1 &&& (1 : Int32)) = (0 : Int32))))), .val (.int (bI (¬ ((p0_1 &&& (2 : Int32)) = (0 : Int32))))), .val (.int (bI (¬ ((p0_1 &&& (4 : Int32)) = (0 : Int32))))), .val (.ref b16), .val (.int (0 : Int32)), .val (.int (0 : Int32)), .val (.int ((0 : Int32) - (0 : Int32))), .val (.int (0 : Int32)), .val (.int (-1 : Int32))] [(.int p0_0)])) _
          refine XS.iloadN X236.here hx rfl (hb hby at_185) rfl ?_
          show Steps p.tables e below (T236.setTop (mkF m 186 #[.val (.int p0_0), .val (.int p0_1), .val (.int (bI (¬ ((p0_1 &&& (1 : Int32)) = (0 : Int32))))), .val (.int (bI (¬ ((p0_1 &&& (2 : Int32)) = (0 : Int32))))), .val (.int (bI (¬ ((p0_1 &&& (4 : Int32)) = (0 : Int32))))), .val (.ref b16), .val (.int (0 : Int32)), .val (.int (0 : Int32)), .val (.int ((0 : Int32) - (0 : Int32))), .val (.int (0 : Int32)), .val (.int (-1 : Int32))] [(.int p0_0), (.int p0_0)])) _
          refine XS.icmpNo X236.here hx rfl (hb hby at_186) rfl (teq (rfl : p0_0 = p0_0)).2 ?_
          show Steps p.tables e below (T236.setTop (mkF m 189 #[.val (.int p0_0), .val (.int p0_1), .val (.int (bI (¬ ((p0_1 &&& (1 : Int32)) = (0 : Int32))))), .val (.int (bI (¬ ((p0_1 &&& (2 : Int32)) = (0 : Int32))))), .val (.int (bI (¬ ((p0_1 &&& (4 : Int32)) = (0 : Int32))))), .val (.ref b16), .val (.int (0 : Int32)), .val (.int (0 : Int32)), .val (.int ((0 : Int32) - (0 : Int32))), .val (.int (0 : Int32)), .val (.int (-1 : Int32))] [])) _
          refine XS.iconst X236.here hx rfl (hb hby at_189) ?_
          show Steps p.tables e below (T236.setTop (mkF m 190 #[.val (.int p0_0), .val (.int p0_1), .val (.int (bI (¬ ((p0_1 &&& (1 : Int32)) = (0 : Int32))))), .val (.int (bI (¬ ((p0_1 &&& (2 : Int32)) = (0 : Int32))))), .val (.int (bI (¬ ((p0_1 &&& (4 : Int32)) = (0 : Int32))))), .val (.ref b16), .val (.int (0 : Int32)), .val (.int (0 : Int32)), .val (.int ((0 : Int32) - (0 : Int32))), .val (.int (0 : Int32)), .val (.int (-1 : Int32))] [(.int (1 : Int32))])) _
          refine XS.goto X236.here hx rfl (pc0 := 190) (pc' := 194) rfl (hb hby at_190) (by decide) (by decide) ?_
          show Steps p.tables e below (T236.setTop (mkF m 194 #[.val (.int p0_0), .val (.int p0_1), .val (.int (bI (¬ ((p0_1 &&& (1 : Int32)) = (0 : Int32))))), .val (.int (bI (¬ ((p0_1 &&& (2 : Int32)) = (0 : Int32))))), .val (.int (bI (¬ ((p0_1 &&& (4 : Int32)) = (0 : Int32))))), .val (.ref b16), .val (.int (0 : Int32)), .val (.int (0 : Int32)), .val (.int ((0 : Int32) - (0 : Int32))), .val (.int (0 : Int32)), .val (.int (-1 : Int32))] [(.int (1 : Int32))])) _
          exact retN X236 hx (t := .boolean) Bd.returns (by simp) (hb hby at_194) hr
        · show Q0 Z p0_0 p0_1 h0 n0 _ T236.heap _
          rw [e236]
          exact ⟨rfl, N237⟩
      · obtain ⟨cq239, kq239, q239a, q239b, q239c⟩ := isOf hZ rfl r25_0
        obtain ⟨_, _, ⟨T239, L239, k239, n239⟩, -, X239, ⟨Lc239, hQ239, l239, y239, z239⟩, st239⟩ := X25.virtualBack hx (y := (⟨"com/example/shieldwall/shieldwall/engine/MoraleState", "lost", "()V"⟩ : MethodName)) (z := (⟨"com/example/shieldwall/shieldwall/engine/MoraleState", "lost", "()V"⟩ : MethodName)) hown (mvT hZ (hW 11 _ rfl)) (mvT hZ (hW 12 _ rfl)) (notFace_of_selects (args := #[]) (mvT hZ (hW 14 _ rfl))) (mvT hZ (hW 14 _ rfl)) (mvT hZ (hW 13 _ rfl)) (by decide) (backOf (W := 0) (rm3 l Z a0 hw [] b16 (0 : Int32) p0_0 (0 : Int32) (0 : Int32) (0 : Int32) (0 : Int32) T25.heap n0 z29 r25_1 r25_0 r25_6 r25_2 r25_3 r25_4 r25_5 gz16) hZ (hW 15 _ rfl) (hW 2 _ rfl) (by decide) (by decide)) q239a q239c (g := (mkF m 133 #[.val (.int p0_0), .val (.int p0_1), .val (.int (bI (¬ ((p0_1 &&& (1 : Int32)) = (0 : Int32))))), .val (.int (bI (¬ ((p0_1 &&& (2 : Int32)) = (0 : Int32))))), .val (.int (bI (¬ ((p0_1 &&& (4 : Int32)) = (0 : Int32))))), .val (.ref b16), .val (.int (0 : Int32)), .val (.int (0 : Int32)), .val (.int ((0 : Int32) - (0 : Int32))), .val (.int (0 : Int32)), .val (.int (0 : Int32))] [(.ref b16)])) rfl (by rw [hml]; rfl) (Steps.refl _) (argsL := []) (rest := []) (lenOf pd_1 rfl) rfl (by show 2 * 0 + _ ≤ _; exact Nat.le_of_eq rfl) (hb hby at_133) (fun _ _ => ⟨rfl, rfl, (by decide : 1 + 0 ≤ _), (by decide : 7 + 0 ≤ _)⟩)
        dsimp only [Pt.U, Pt.locs, Pt.cells, Pt.slots] at X239 l239 y239 z239 st239 hQ239
        subst l239 y239 z239
        obtain ⟨rfl, N239q, K239, r239_0, r239_1, r239_2, r239_3, r239_4, r239_5, r239_6⟩ := hQ239
        have N240 := Fr.app N26 N239q
        have pre241 : ∀ t, Steps p.tables e below (T239.setTop (mkF m 136 #[.val (.int p0_0), .val (.int p0_1), .val (.int (bI (¬ ((p0_1 &&& (1 : Int32)) = (0 : Int32))))), .val (.int (bI (¬ ((p0_1 &&& (2 : Int32)) = (0 : Int32))))), .val (.int (bI (¬ ((p0_1 &&& (4 : Int32)) = (0 : Int32))))), .val (.ref b16), .val (.int (0 : Int32)), .val (.int (0 : Int32)), .val (.int ((0 : Int32) - (0 : Int32))), .val (.int (0 : Int32)), .val (.int (0 : Int32))] [])) t → Steps p.tables e below (s₁.setTop (entryFrame m #[(.int p0_0), (.int p0_1)] maxLocals)) t := fun t k => pre27 t (by
          show Steps p.tables e below (T25.setTop (mkF m 45 #[.val (.int p0_0), .val (.int p0_1), .val (.int (bI (¬ ((p0_1 &&& (1 : Int32)) = (0 : Int32))))), .val (.int (bI (¬ ((p0_1 &&& (2 : Int32)) = (0 : Int32))))), .val (.int (bI (¬ ((p0_1 &&& (4 : Int32)) = (0 : Int32))))), .unset, .unset, .unset, .unset, .unset, .unset] [(.ref b16)])) _
          refine XS.astore X25.here hx rfl (hb hby at_45) rfl rfl (l' := #[.val (.int p0_0), .val (.int p0_1), .val (.int (bI (¬ ((p0_1 &&& (1 : Int32)) = (0 : Int32))))), .val (.int (bI (¬ ((p0_1 &&& (2 : Int32)) = (0 : Int32))))), .val (.int (bI (¬ ((p0_1 &&& (4 : Int32)) = (0 : Int32))))), .val (.ref b16), .unset, .unset, .unset, .unset, .unset]) rfl ?_
          show Steps p.tables e below (T25.setTop (mkF m 47 #[.val (.int p0_0), .val (.int p0_1), .val (.int (bI (¬ ((p0_1 &&& (1 : Int32)) = (0 : Int32))))), .val (.int (bI (¬ ((p0_1 &&& (2 : Int32)) = (0 : Int32))))), .val (.int (bI (¬ ((p0_1 &&& (4 : Int32)) = (0 : Int32))))), .val (.ref b16), .unset, .unset, .unset, .unset, .unset] [])) _
          refine XS.iloadN X25.here hx rfl (hb hby at_47) rfl ?_
          show Steps p.tables e below (T25.setTop (mkF m 48 #[.val (.int p0_0), .val (.int p0_1), .val (.int (bI (¬ ((p0_1 &&& (1 : Int32)) = (0 : Int32))))), .val (.int (bI (¬ ((p0_1 &&& (2 : Int32)) = (0 : Int32))))), .val (.int (bI (¬ ((p0_1 &&& (4 : Int32)) = (0 : Int32))))), .val (.ref b16), .unset, .unset, .unset, .unset, .unset] [(.int (bI (¬ ((p0_1 &&& (1 : Int32)) = (0 : Int32)))))])) _
          refine XS.ifYes X25.here hx rfl (pc0 := 48) (pc' := 56) rfl (hb hby at_48) rfl ((if0 _ _).trans (teq (bI_f hc31)).1) (by decide) (by decide) ?_
          show Steps p.tables e below (T25.setTop (mkF m 56 #[.val (.int p0_0), .val (.int p0_1), .val (.int (bI (¬ ((p0_1 &&& (1 : Int32)) = (0 : Int32))))), .val (.int (bI (¬ ((p0_1 &&& (2 : Int32)) = (0 : Int32))))), .val (.int (bI (¬ ((p0_1 &&& (4 : Int32)) = (0 : Int32))))), .val (.ref b16), .unset, .unset, .unset, .unset, .unset] [])) _
          refine XS.iloadN X25.here hx rfl (hb hby at_56) rfl ?_
          show Steps p.tables e below (T25.setTop (mkF m 57 #[.val (.int p0_0), .val (.int p0_1), .val (.int (bI (¬ ((p0_1 &&& (1 : Int32)) = (0 : Int32))))), .val (.int (bI (¬ ((p0_1 &&& (2 : Int32)) = (0 : Int32))))), .val (.int (bI (¬ ((p0_1 &&& (4 : Int32)) = (0 : Int32))))), .val (.ref b16), .unset, .unset, .unset, .unset, .unset] [(.int (bI (¬ ((p0_1 &&& (2 : Int32)) = (0 : Int32)))))])) _
          refine XS.ifYes X25.here hx rfl (pc0 := 57) (pc' := 65) rfl (hb hby at_57) rfl ((if0 _ _).trans (teq (bI_f hc151)).1) (by decide) (by decide) ?_
          show Steps p.tables e below (T25.setTop (mkF m 65 #[.val (.int p0_0), .val (.int p0_1), .val (.int (bI (¬ ((p0_1 &&& (1 : Int32)) = (0 : Int32))))), .val (.int (bI (¬ ((p0_1 &&& (2 : Int32)) = (0 : Int32))))), .val (.int (bI (¬ ((p0_1 &&& (4 : Int32)) = (0 : Int32))))), .val (.ref b16), .unset, .unset, .unset, .unset, .unset] [])) _
          refine XS.iload X25.here hx rfl (hb hby at_65) rfl ?_
          show Steps p.tables e below (T25.setTop (mkF m 67 #[.val (.int p0_0), .val (.int p0_1), .val (.int (bI (¬ ((p0_1 &&& (1 : Int32)) = (0 : Int32))))), .val (.int (bI (¬ ((p0_1 &&& (2 : Int32)) = (0 : Int32))))), .val (.int (bI (¬ ((p0_1 &&& (4 : Int32)) = (0 : Int32))))), .val (.ref b16), .unset, .unset, .unset, .unset, .unset] [(.int (bI (¬ ((p0_1 &&& (4 : Int32)) = (0 : Int32)))))])) _
          refine XS.ifYes X25.here hx rfl (pc0 := 67) (pc' := 75) rfl (hb hby at_67) rfl ((if0 _ _).trans (teq (bI_f hc210)).1) (by decide) (by decide) ?_
          show Steps p.tables e below (T25.setTop (mkF m 75 #[.val (.int p0_0), .val (.int p0_1), .val (.int (bI (¬ ((p0_1 &&& (1 : Int32)) = (0 : Int32))))), .val (.int (bI (¬ ((p0_1 &&& (2 : Int32)) = (0 : Int32))))), .val (.int (bI (¬ ((p0_1 &&& (4 : Int32)) = (0 : Int32))))), .val (.ref b16), .unset, .unset, .unset, .unset, .unset] [])) _
          refine XS.iloadN X25.here hx rfl (hb hby at_75) rfl ?_
          show Steps p.tables e below (T25.setTop (mkF m 76 #[.val (.int p0_0), .val (.int p0_1), .val (.int (bI (¬ ((p0_1 &&& (1 : Int32)) = (0 : Int32))))), .val (.int (bI (¬ ((p0_1 &&& (2 : Int32)) = (0 : Int32))))), .val (.int (bI (¬ ((p0_1 &&& (4 : Int32)) = (0 : Int32))))), .val (.ref b16), .unset, .unset, .unset, .unset, .unset] [(.int (bI (¬ ((p0_1 &&& (1 : Int32)) = (0 : Int32)))))])) _
          refine XS.ifYes X25.here hx rfl (pc0 := 76) (pc' := 83) rfl (hb hby at_76) rfl ((if0 _ _).trans (teq (bI_f hc31)).1) (by decide) (by decide) ?_
          show Steps p.tables e below (T25.setTop (mkF m 83 #[.val (.int p0_0), .val (.int p0_1), .val (.int (bI (¬ ((p0_1 &&& (1 : Int32)) = (0 : Int32))))), .val (.int (bI (¬ ((p0_1 &&& (2 : Int32)) = (0 : Int32))))), .val (.int (bI (¬ ((p0_1 &&& (4 : Int32)) = (0 : Int32))))), .val (.ref b16), .unset, .unset, .unset, .unset, .unset] [])) _
          refine XS.iconst X25.here hx rfl (hb hby at_83) ?_
          show Steps p.tables e below (T25.setTop (mkF m 84 #[.val (.int p0_0), .val (.int p0_1), .val (.int (bI (¬ ((p0_1 &&& (1 : Int32)) = (0 : Int32))))), .val (.int (bI (¬ ((p0_1 &&& (2 : Int32)) = (0 : Int32))))), .val (.int (bI (¬ ((p0_1 &&& (4 : Int32)) = (0 : Int32))))), .val (.ref b16), .unset, .unset, .unset, .unset, .unset] [(.int (0 : Int32))])) _
          refine XS.istore X25.here hx rfl (hb hby at_84) rfl (l' := #[.val (.int p0_0), .val (.int p0_1), .val (.int (bI (¬ ((p0_1 &&& (1 : Int32)) = (0 : Int32))))), .val (.int (bI (¬ ((p0_1 &&& (2 : Int32)) = (0 : Int32))))), .val (.int (bI (¬ ((p0_1 &&& (4 : Int32)) = (0 : Int32))))), .val (.ref b16), .val (.int (0 : Int32)), .unset, .unset, .unset, .unset]) rfl ?_
          show Steps p.tables e below (T25.setTop (mkF m 86 #[.val (.int p0_0), .val (.int p0_1), .val (.int (bI (¬ ((p0_1 &&& (1 : Int32)) = (0 : Int32))))), .val (.int (bI (¬ ((p0_1 &&& (2 : Int32)) = (0 : Int32))))), .val (.int (bI (¬ ((p0_1 &&& (4 : Int32)) = (0 : Int32))))), .val (.ref b16), .val (.int (0 : Int32)), .unset, .unset, .unset, .unset] [])) _
          refine XS.iloadN X25.here hx rfl (hb hby at_86) rfl ?_
          show Steps p.tables e below (T25.setTop (mkF m 87 #[.val (.int p0_0), .val (.int p0_1), .val (.int (bI (¬ ((p0_1 &&& (1 : Int32)) = (0 : Int32))))), .val (.int (bI (¬ ((p0_1 &&& (2 : Int32)) = (0 : Int32))))), .val (.int (bI (¬ ((p0_1 &&& (4 : Int32)) = (0 : Int32))))), .val (.ref b16), .val (.int (0 : Int32)), .unset, .unset, .unset, .unset] [(.int (bI (¬ ((p0_1 &&& (2 : Int32)) = (0 : Int32)))))])) _
          refine XS.ifYes X25.here hx rfl (pc0 := 87) (pc' := 94) rfl (hb hby at_87) rfl ((if0 _ _).trans (teq (bI_f hc151)).1) (by decide) (by decide) ?_
          show Steps p.tables e below (T25.setTop (mkF m 94 #[.val (.int p0_0), .val (.int p0_1), .val (.int (bI (¬ ((p0_1 &&& (1 : Int32)) = (0 : Int32))))), .val (.int (bI (¬ ((p0_1 &&& (2 : Int32)) = (0 : Int32))))), .val (.int (bI (¬ ((p0_1 &&& (4 : Int32)) = (0 : Int32))))), .val (.ref b16), .val (.int (0 : Int32)), .unset, .unset, .unset, .unset] [])) _
          refine XS.iconst X25.here hx rfl (hb hby at_94) ?_
          show Steps p.tables e below (T25.setTop (mkF m 95 #[.val (.int p0_0), .val (.int p0_1), .val (.int (bI (¬ ((p0_1 &&& (1 : Int32)) = (0 : Int32))))), .val (.int (bI (¬ ((p0_1 &&& (2 : Int32)) = (0 : Int32))))), .val (.int (bI (¬ ((p0_1 &&& (4 : Int32)) = (0 : Int32))))), .val (.ref b16), .val (.int (0 : Int32)), .unset, .unset, .unset, .unset] [(.int (0 : Int32))])) _
          refine XS.istore X25.here hx rfl (hb hby at_95) rfl (l' := #[.val (.int p0_0), .val (.int p0_1), .val (.int (bI (¬ ((p0_1 &&& (1 : Int32)) = (0 : Int32))))), .val (.int (bI (¬ ((p0_1 &&& (2 : Int32)) = (0 : Int32))))), .val (.int (bI (¬ ((p0_1 &&& (4 : Int32)) = (0 : Int32))))), .val (.ref b16), .val (.int (0 : Int32)), .val (.int (0 : Int32)), .unset, .unset, .unset]) rfl ?_
          show Steps p.tables e below (T25.setTop (mkF m 97 #[.val (.int p0_0), .val (.int p0_1), .val (.int (bI (¬ ((p0_1 &&& (1 : Int32)) = (0 : Int32))))), .val (.int (bI (¬ ((p0_1 &&& (2 : Int32)) = (0 : Int32))))), .val (.int (bI (¬ ((p0_1 &&& (4 : Int32)) = (0 : Int32))))), .val (.ref b16), .val (.int (0 : Int32)), .val (.int (0 : Int32)), .unset, .unset, .unset] [])) _
          refine XS.iload X25.here hx rfl (hb hby at_97) rfl ?_
          show Steps p.tables e below (T25.setTop (mkF m 99 #[.val (.int p0_0), .val (.int p0_1), .val (.int (bI (¬ ((p0_1 &&& (1 : Int32)) = (0 : Int32))))), .val (.int (bI (¬ ((p0_1 &&& (2 : Int32)) = (0 : Int32))))), .val (.int (bI (¬ ((p0_1 &&& (4 : Int32)) = (0 : Int32))))), .val (.ref b16), .val (.int (0 : Int32)), .val (.int (0 : Int32)), .unset, .unset, .unset] [(.int (0 : Int32))])) _
          refine XS.iload X25.here hx rfl (hb hby at_99) rfl ?_
          show Steps p.tables e below (T25.setTop (mkF m 101 #[.val (.int p0_0), .val (.int p0_1), .val (.int (bI (¬ ((p0_1 &&& (1 : Int32)) = (0 : Int32))))), .val (.int (bI (¬ ((p0_1 &&& (2 : Int32)) = (0 : Int32))))), .val (.int (bI (¬ ((p0_1 &&& (4 : Int32)) = (0 : Int32))))), .val (.ref b16), .val (.int (0 : Int32)), .val (.int (0 : Int32)), .unset, .unset, .unset] [(.int (0 : Int32)), (.int (0 : Int32))])) _
          refine XS.isub X25.here hx rfl (hb hby at_101) rfl ?_
          show Steps p.tables e below (T25.setTop (mkF m 102 #[.val (.int p0_0), .val (.int p0_1), .val (.int (bI (¬ ((p0_1 &&& (1 : Int32)) = (0 : Int32))))), .val (.int (bI (¬ ((p0_1 &&& (2 : Int32)) = (0 : Int32))))), .val (.int (bI (¬ ((p0_1 &&& (4 : Int32)) = (0 : Int32))))), .val (.ref b16), .val (.int (0 : Int32)), .val (.int (0 : Int32)), .unset, .unset, .unset] [(.int ((0 : Int32) - (0 : Int32)))])) _
          refine XS.istore X25.here hx rfl (hb hby at_102) rfl (l' := #[.val (.int p0_0), .val (.int p0_1), .val (.int (bI (¬ ((p0_1 &&& (1 : Int32)) = (0 : Int32))))), .val (.int (bI (¬ ((p0_1 &&& (2 : Int32)) = (0 : Int32))))), .val (.int (bI (¬ ((p0_1 &&& (4 : Int32)) = (0 : Int32))))), .val (.ref b16), .val (.int (0 : Int32)), .val (.int (0 : Int32)), .val (.int ((0 : Int32) - (0 : Int32))), .unset, .unset]) rfl ?_
          show Steps p.tables e below (T25.setTop (mkF m 104 #[.val (.int p0_0), .val (.int p0_1), .val (.int (bI (¬ ((p0_1 &&& (1 : Int32)) = (0 : Int32))))), .val (.int (bI (¬ ((p0_1 &&& (2 : Int32)) = (0 : Int32))))), .val (.int (bI (¬ ((p0_1 &&& (4 : Int32)) = (0 : Int32))))), .val (.ref b16), .val (.int (0 : Int32)), .val (.int (0 : Int32)), .val (.int ((0 : Int32) - (0 : Int32))), .unset, .unset] [])) _
          refine XS.iloadN X25.here hx rfl (hb hby at_104) rfl ?_
          show Steps p.tables e below (T25.setTop (mkF m 105 #[.val (.int p0_0), .val (.int p0_1), .val (.int (bI (¬ ((p0_1 &&& (1 : Int32)) = (0 : Int32))))), .val (.int (bI (¬ ((p0_1 &&& (2 : Int32)) = (0 : Int32))))), .val (.int (bI (¬ ((p0_1 &&& (4 : Int32)) = (0 : Int32))))), .val (.ref b16), .val (.int (0 : Int32)), .val (.int (0 : Int32)), .val (.int ((0 : Int32) - (0 : Int32))), .unset, .unset] [(.int (bI (¬ ((p0_1 &&& (1 : Int32)) = (0 : Int32)))))])) _
          refine XS.ifYes X25.here hx rfl (pc0 := 105) (pc' := 116) rfl (hb hby at_105) rfl ((if0 _ _).trans (teq (bI_f hc31)).1) (by decide) (by decide) ?_
          show Steps p.tables e below (T25.setTop (mkF m 116 #[.val (.int p0_0), .val (.int p0_1), .val (.int (bI (¬ ((p0_1 &&& (1 : Int32)) = (0 : Int32))))), .val (.int (bI (¬ ((p0_1 &&& (2 : Int32)) = (0 : Int32))))), .val (.int (bI (¬ ((p0_1 &&& (4 : Int32)) = (0 : Int32))))), .val (.ref b16), .val (.int (0 : Int32)), .val (.int (0 : Int32)), .val (.int ((0 : Int32) - (0 : Int32))), .unset, .unset] [])) _
          refine XS.iconst X25.here hx rfl (hb hby at_116) ?_
          show Steps p.tables e below (T25.setTop (mkF m 117 #[.val (.int p0_0), .val (.int p0_1), .val (.int (bI (¬ ((p0_1 &&& (1 : Int32)) = (0 : Int32))))), .val (.int (bI (¬ ((p0_1 &&& (2 : Int32)) = (0 : Int32))))), .val (.int (bI (¬ ((p0_1 &&& (4 : Int32)) = (0 : Int32))))), .val (.ref b16), .val (.int (0 : Int32)), .val (.int (0 : Int32)), .val (.int ((0 : Int32) - (0 : Int32))), .unset, .unset] [(.int (0 : Int32))])) _
          refine XS.istore X25.here hx rfl (hb hby at_117) rfl (l' := #[.val (.int p0_0), .val (.int p0_1), .val (.int (bI (¬ ((p0_1 &&& (1 : Int32)) = (0 : Int32))))), .val (.int (bI (¬ ((p0_1 &&& (2 : Int32)) = (0 : Int32))))), .val (.int (bI (¬ ((p0_1 &&& (4 : Int32)) = (0 : Int32))))), .val (.ref b16), .val (.int (0 : Int32)), .val (.int (0 : Int32)), .val (.int ((0 : Int32) - (0 : Int32))), .val (.int (0 : Int32)), .unset]) rfl ?_
          show Steps p.tables e below (T25.setTop (mkF m 119 #[.val (.int p0_0), .val (.int p0_1), .val (.int (bI (¬ ((p0_1 &&& (1 : Int32)) = (0 : Int32))))), .val (.int (bI (¬ ((p0_1 &&& (2 : Int32)) = (0 : Int32))))), .val (.int (bI (¬ ((p0_1 &&& (4 : Int32)) = (0 : Int32))))), .val (.ref b16), .val (.int (0 : Int32)), .val (.int (0 : Int32)), .val (.int ((0 : Int32) - (0 : Int32))), .val (.int (0 : Int32)), .unset] [])) _
          refine XS.iload X25.here hx rfl (hb hby at_119) rfl ?_
          show Steps p.tables e below (T25.setTop (mkF m 121 #[.val (.int p0_0), .val (.int p0_1), .val (.int (bI (¬ ((p0_1 &&& (1 : Int32)) = (0 : Int32))))), .val (.int (bI (¬ ((p0_1 &&& (2 : Int32)) = (0 : Int32))))), .val (.int (bI (¬ ((p0_1 &&& (4 : Int32)) = (0 : Int32))))), .val (.ref b16), .val (.int (0 : Int32)), .val (.int (0 : Int32)), .val (.int ((0 : Int32) - (0 : Int32))), .val (.int (0 : Int32)), .unset] [(.int (bI (¬ ((p0_1 &&& (4 : Int32)) = (0 : Int32)))))])) _
          refine XS.ifYes X25.here hx rfl (pc0 := 121) (pc' := 128) rfl (hb hby at_121) rfl ((if0 _ _).trans (teq (bI_f hc210)).1) (by decide) (by decide) ?_
          show Steps p.tables e below (T25.setTop (mkF m 128 #[.val (.int p0_0), .val (.int p0_1), .val (.int (bI (¬ ((p0_1 &&& (1 : Int32)) = (0 : Int32))))), .val (.int (bI (¬ ((p0_1 &&& (2 : Int32)) = (0 : Int32))))), .val (.int (bI (¬ ((p0_1 &&& (4 : Int32)) = (0 : Int32))))), .val (.ref b16), .val (.int (0 : Int32)), .val (.int (0 : Int32)), .val (.int ((0 : Int32) - (0 : Int32))), .val (.int (0 : Int32)), .unset] [])) _
          refine XS.iconst X25.here hx rfl (hb hby at_128) ?_
          show Steps p.tables e below (T25.setTop (mkF m 129 #[.val (.int p0_0), .val (.int p0_1), .val (.int (bI (¬ ((p0_1 &&& (1 : Int32)) = (0 : Int32))))), .val (.int (bI (¬ ((p0_1 &&& (2 : Int32)) = (0 : Int32))))), .val (.int (bI (¬ ((p0_1 &&& (4 : Int32)) = (0 : Int32))))), .val (.ref b16), .val (.int (0 : Int32)), .val (.int (0 : Int32)), .val (.int ((0 : Int32) - (0 : Int32))), .val (.int (0 : Int32)), .unset] [(.int (0 : Int32))])) _
          refine XS.istore X25.here hx rfl (hb hby at_129) rfl (l' := #[.val (.int p0_0), .val (.int p0_1), .val (.int (bI (¬ ((p0_1 &&& (1 : Int32)) = (0 : Int32))))), .val (.int (bI (¬ ((p0_1 &&& (2 : Int32)) = (0 : Int32))))), .val (.int (bI (¬ ((p0_1 &&& (4 : Int32)) = (0 : Int32))))), .val (.ref b16), .val (.int (0 : Int32)), .val (.int (0 : Int32)), .val (.int ((0 : Int32) - (0 : Int32))), .val (.int (0 : Int32)), .val (.int (0 : Int32))]) rfl ?_
          show Steps p.tables e below (T25.setTop (mkF m 131 #[.val (.int p0_0), .val (.int p0_1), .val (.int (bI (¬ ((p0_1 &&& (1 : Int32)) = (0 : Int32))))), .val (.int (bI (¬ ((p0_1 &&& (2 : Int32)) = (0 : Int32))))), .val (.int (bI (¬ ((p0_1 &&& (4 : Int32)) = (0 : Int32))))), .val (.ref b16), .val (.int (0 : Int32)), .val (.int (0 : Int32)), .val (.int ((0 : Int32) - (0 : Int32))), .val (.int (0 : Int32)), .val (.int (0 : Int32))] [])) _
          refine XS.aload X25.here hx rfl (hb hby at_131) rfl rfl ?_
          show Steps p.tables e below (T25.setTop (mkF m 133 #[.val (.int p0_0), .val (.int p0_1), .val (.int (bI (¬ ((p0_1 &&& (1 : Int32)) = (0 : Int32))))), .val (.int (bI (¬ ((p0_1 &&& (2 : Int32)) = (0 : Int32))))), .val (.int (bI (¬ ((p0_1 &&& (4 : Int32)) = (0 : Int32))))), .val (.ref b16), .val (.int (0 : Int32)), .val (.int (0 : Int32)), .val (.int ((0 : Int32) - (0 : Int32))), .val (.int (0 : Int32)), .val (.int (0 : Int32))] [(.ref b16)])) _
          refine st239.trans ?_
          exact k)
        have f242 := r25_0.keep K239
        have z243 := Nat.le_trans z29 K239.1
        obtain ⟨cq244, kq244, q244a, q244b, q244c⟩ := isOf hZ rfl r239_0
        obtain ⟨_, _, ⟨T244, L244, k244, n244⟩, -, X244, ⟨Lc244, hQ244, l244, y244, z244⟩, st244⟩ := X239.virtualBack hx (y := (⟨"com/example/shieldwall/shieldwall/engine/MoraleState", "battles", "()I"⟩ : MethodName)) (z := (⟨"com/example/shieldwall/shieldwall/engine/MoraleState", "battles", "()I"⟩ : MethodName)) hown (mvT hZ (hW 27 _ rfl)) (mvT hZ (hW 28 _ rfl)) (notFace_of_selects (args := #[]) (mvT hZ (hW 30 _ rfl))) (mvT hZ (hW 30 _ rfl)) (mvT hZ (hW 29 _ rfl)) (by decide) (backOf (W := 0) (rm5 l Z a0 hw [] b16 (0 : Int32) ((0 : Int32) + (1 : Int32)) T239.heap n0 z243 r239_2 r239_5) hZ (hW 31 _ rfl) (hW 2 _ rfl) (by decide) (by decide)) q244a q244c (g := (mkF m 138 #[.val (.int p0_0), .val (.int p0_1), .val (.int (bI (¬ ((p0_1 &&& (1 : Int32)) = (0 : Int32))))), .val (.int (bI (¬ ((p0_1 &&& (2 : Int32)) = (0 : Int32))))), .val (.int (bI (¬ ((p0_1 &&& (4 : Int32)) = (0 : Int32))))), .val (.ref b16), .val (.int (0 : Int32)), .val (.int (0 : Int32)), .val (.int ((0 : Int32) - (0 : Int32))), .val (.int (0 : Int32)), .val (.int (0 : Int32))] [(.ref b16)])) rfl (by rw [hml]; rfl) (Steps.refl _) (argsL := []) (rest := []) (lenOf pd_2 rfl) rfl (by show 2 * 0 + _ ≤ _; exact Nat.le_of_eq rfl) (hb hby at_138) (fun _ _ => ⟨rfl, rfl, (by decide : 1 + 0 ≤ _), (by decide : 7 + 0 ≤ _)⟩)
        dsimp only [Pt.U, Pt.locs, Pt.cells, Pt.slots] at X244 l244 y244 z244 st244 hQ244
        subst l244 y244 z244
        obtain ⟨rfl, N244q, e244⟩ := hQ244
        have N245 := Fr.app N240 N244q
        have pre246 : ∀ t, Steps p.tables e below (T244.setTop (mkF m 141 #[.val (.int p0_0), .val (.int p0_1), .val (.int (bI (¬ ((p0_1 &&& (1 : Int32)) = (0 : Int32))))), .val (.int (bI (¬ ((p0_1 &&& (2 : Int32)) = (0 : Int32))))), .val (.int (bI (¬ ((p0_1 &&& (4 : Int32)) = (0 : Int32))))), .val (.ref b16), .val (.int (0 : Int32)), .val (.int (0 : Int32)), .val (.int ((0 : Int32) - (0 : Int32))), .val (.int (0 : Int32)), .val (.int (0 : Int32))] [(.int ((0 : Int32) - ((0 : Int32) + (1 : Int32))))])) t → Steps p.tables e below (s₁.setTop (entryFrame m #[(.int p0_0), (.int p0_1)] maxLocals)) t := fun t k => pre241 t (by
          show Steps p.tables e below (T239.setTop (mkF m 136 #[.val (.int p0_0), .val (.int p0_1), .val (.int (bI (¬ ((p0_1 &&& (1 : Int32)) = (0 : Int32))))), .val (.int (bI (¬ ((p0_1 &&& (2 : Int32)) = (0 : Int32))))), .val (.int (bI (¬ ((p0_1 &&& (4 : Int32)) = (0 : Int32))))), .val (.ref b16), .val (.int (0 : Int32)), .val (.int (0 : Int32)), .val (.int ((0 : Int32) - (0 : Int32))), .val (.int (0 : Int32)), .val (.int (0 : Int32))] [])) _
          refine XS.aload X239.here hx rfl (hb hby at_136) rfl rfl ?_
          show Steps p.tables e below (T239.setTop (mkF m 138 #[.val (.int p0_0), .val (.int p0_1), .val (.int (bI (¬ ((p0_1 &&& (1 : Int32)) = (0 : Int32))))), .val (.int (bI (¬ ((p0_1 &&& (2 : Int32)) = (0 : Int32))))), .val (.int (bI (¬ ((p0_1 &&& (4 : Int32)) = (0 : Int32))))), .val (.ref b16), .val (.int (0 : Int32)), .val (.int (0 : Int32)), .val (.int ((0 : Int32) - (0 : Int32))), .val (.int (0 : Int32)), .val (.int (0 : Int32))] [(.ref b16)])) _
          refine st244.trans ?_
          exact k)
        have hd247 : ((0 : Int32) - ((0 : Int32) + (1 : Int32))) = (((0 : Int32) - (0 : Int32)) - (1 : Int32)) := by
          decide
        obtain ⟨cq248, kq248, q248a, q248b, q248c⟩ := isOf hZ e244 r239_0
        obtain ⟨_, _, ⟨T248, L248, k248, n248⟩, -, X248, ⟨Lc248, hQ248, l248, y248, z248⟩, st248⟩ := X244.virtualBack hx (y := (⟨"com/example/shieldwall/shieldwall/engine/MoraleState", "lostInARow", "()I"⟩ : MethodName)) (z := (⟨"com/example/shieldwall/shieldwall/engine/MoraleState", "lostInARow", "()I"⟩ : MethodName)) hown (mvT hZ (hW 32 _ rfl)) (mvT hZ (hW 33 _ rfl)) (notFace_of_selects (args := #[]) (mvT hZ (hW 35 _ rfl))) (mvT hZ (hW 35 _ rfl)) (mvT hZ (hW 34 _ rfl)) (by decide) (backOf (W := 0) (rm6 l Z a0 hw [] b16 ((0 : Int32) + (1 : Int32)) T239.heap n0 z243 r239_6) hZ (hW 36 _ rfl) (hW 2 _ rfl) (by decide) (by decide)) q248a q248c (g := (mkF m 150 #[.val (.int p0_0), .val (.int p0_1), .val (.int (bI (¬ ((p0_1 &&& (1 : Int32)) = (0 : Int32))))), .val (.int (bI (¬ ((p0_1 &&& (2 : Int32)) = (0 : Int32))))), .val (.int (bI (¬ ((p0_1 &&& (4 : Int32)) = (0 : Int32))))), .val (.ref b16), .val (.int (0 : Int32)), .val (.int (0 : Int32)), .val (.int ((0 : Int32) - (0 : Int32))), .val (.int (0 : Int32)), .val (.int (0 : Int32))] [(.ref b16)])) rfl (by rw [hml]; rfl) (Steps.refl _) (argsL := []) (rest := []) (lenOf pd_2 rfl) rfl (by show 2 * 0 + _ ≤ _; exact Nat.le_of_eq rfl) (hb hby at_150) (fun _ _ => ⟨rfl, e244, (by decide : 1 + 0 ≤ _), (by decide : 7 + 0 ≤ _)⟩)
        dsimp only [Pt.U, Pt.locs, Pt.cells, Pt.slots] at X248 l248 y248 z248 st248 hQ248
        subst l248 y248 z248
        obtain ⟨rfl, N248q, e248⟩ := hQ248
        have N249 := Fr.app N245 N248q
        have pre250 : ∀ t, Steps p.tables e below (T248.setTop (mkF m 153 #[.val (.int p0_0), .val (.int p0_1), .val (.int (bI (¬ ((p0_1 &&& (1 : Int32)) = (0 : Int32))))), .val (.int (bI (¬ ((p0_1 &&& (2 : Int32)) = (0 : Int32))))), .val (.int (bI (¬ ((p0_1 &&& (4 : Int32)) = (0 : Int32))))), .val (.ref b16), .val (.int (0 : Int32)), .val (.int (0 : Int32)), .val (.int ((0 : Int32) - (0 : Int32))), .val (.int (0 : Int32)), .val (.int (0 : Int32))] [(.int ((0 : Int32) + (1 : Int32)))])) t → Steps p.tables e below (s₁.setTop (entryFrame m #[(.int p0_0), (.int p0_1)] maxLocals)) t := fun t k => pre246 t (by
          show Steps p.tables e below (T244.setTop (mkF m 141 #[.val (.int p0_0), .val (.int p0_1), .val (.int (bI (¬ ((p0_1 &&& (1 : Int32)) = (0 : Int32))))), .val (.int (bI (¬ ((p0_1 &&& (2 : Int32)) = (0 : Int32))))), .val (.int (bI (¬ ((p0_1 &&& (4 : Int32)) = (0 : Int32))))), .val (.ref b16), .val (.int (0 : Int32)), .val (.int (0 : Int32)), .val (.int ((0 : Int32) - (0 : Int32))), .val (.int (0 : Int32)), .val (.int (0 : Int32))] [(.int ((0 : Int32) - ((0 : Int32) + (1 : Int32))))])) _
          refine XS.iload X244.here hx rfl (hb hby at_141) rfl ?_
          show Steps p.tables e below (T244.setTop (mkF m 143 #[.val (.int p0_0), .val (.int p0_1), .val (.int (bI (¬ ((p0_1 &&& (1 : Int32)) = (0 : Int32))))), .val (.int (bI (¬ ((p0_1 &&& (2 : Int32)) = (0 : Int32))))), .val (.int (bI (¬ ((p0_1 &&& (4 : Int32)) = (0 : Int32))))), .val (.ref b16), .val (.int (0 : Int32)), .val (.int (0 : Int32)), .val (.int ((0 : Int32) - (0 : Int32))), .val (.int (0 : Int32)), .val (.int (0 : Int32))] [(.int ((0 : Int32) - (0 : Int32))), (.int ((0 : Int32) - ((0 : Int32) + (1 : Int32))))])) _
          refine XS.iconst X244.here hx rfl (hb hby at_143) ?_
          show Steps p.tables e below (T244.setTop (mkF m 144 #[.val (.int p0_0), .val (.int p0_1), .val (.int (bI (¬ ((p0_1 &&& (1 : Int32)) = (0 : Int32))))), .val (.int (bI (¬ ((p0_1 &&& (2 : Int32)) = (0 : Int32))))), .val (.int (bI (¬ ((p0_1 &&& (4 : Int32)) = (0 : Int32))))), .val (.ref b16), .val (.int (0 : Int32)), .val (.int (0 : Int32)), .val (.int ((0 : Int32) - (0 : Int32))), .val (.int (0 : Int32)), .val (.int (0 : Int32))] [(.int (1 : Int32)), (.int ((0 : Int32) - (0 : Int32))), (.int ((0 : Int32) - ((0 : Int32) + (1 : Int32))))])) _
          refine XS.isub X244.here hx rfl (hb hby at_144) rfl ?_
          show Steps p.tables e below (T244.setTop (mkF m 145 #[.val (.int p0_0), .val (.int p0_1), .val (.int (bI (¬ ((p0_1 &&& (1 : Int32)) = (0 : Int32))))), .val (.int (bI (¬ ((p0_1 &&& (2 : Int32)) = (0 : Int32))))), .val (.int (bI (¬ ((p0_1 &&& (4 : Int32)) = (0 : Int32))))), .val (.ref b16), .val (.int (0 : Int32)), .val (.int (0 : Int32)), .val (.int ((0 : Int32) - (0 : Int32))), .val (.int (0 : Int32)), .val (.int (0 : Int32))] [(.int (((0 : Int32) - (0 : Int32)) - (1 : Int32))), (.int ((0 : Int32) - ((0 : Int32) + (1 : Int32))))])) _
          refine XS.icmpNo X244.here hx rfl (hb hby at_145) rfl (teq hd247).2 ?_
          show Steps p.tables e below (T244.setTop (mkF m 148 #[.val (.int p0_0), .val (.int p0_1), .val (.int (bI (¬ ((p0_1 &&& (1 : Int32)) = (0 : Int32))))), .val (.int (bI (¬ ((p0_1 &&& (2 : Int32)) = (0 : Int32))))), .val (.int (bI (¬ ((p0_1 &&& (4 : Int32)) = (0 : Int32))))), .val (.ref b16), .val (.int (0 : Int32)), .val (.int (0 : Int32)), .val (.int ((0 : Int32) - (0 : Int32))), .val (.int (0 : Int32)), .val (.int (0 : Int32))] [])) _
          refine XS.aload X244.here hx rfl (hb hby at_148) rfl rfl ?_
          show Steps p.tables e below (T244.setTop (mkF m 150 #[.val (.int p0_0), .val (.int p0_1), .val (.int (bI (¬ ((p0_1 &&& (1 : Int32)) = (0 : Int32))))), .val (.int (bI (¬ ((p0_1 &&& (2 : Int32)) = (0 : Int32))))), .val (.int (bI (¬ ((p0_1 &&& (4 : Int32)) = (0 : Int32))))), .val (.ref b16), .val (.int (0 : Int32)), .val (.int (0 : Int32)), .val (.int ((0 : Int32) - (0 : Int32))), .val (.int (0 : Int32)), .val (.int (0 : Int32))] [(.ref b16)])) _
          refine st248.trans ?_
          exact k)
        obtain ⟨cq251, kq251, q251a, q251b, q251c⟩ := isOf hZ e248 r239_0
        obtain ⟨_, _, ⟨T251, L251, k251, n251⟩, -, X251, ⟨Lc251, hQ251, l251, y251, z251⟩, st251⟩ := X248.virtualBack hx (y := (⟨"com/example/shieldwall/shieldwall/engine/MoraleState", "routs", "()I"⟩ : MethodName)) (z := (⟨"com/example/shieldwall/shieldwall/engine/MoraleState", "routs", "()I"⟩ : MethodName)) hown (mvT hZ (hW 37 _ rfl)) (mvT hZ (hW 38 _ rfl)) (notFace_of_selects (args := #[]) (mvT hZ (hW 40 _ rfl))) (mvT hZ (hW 40 _ rfl)) (mvT hZ (hW 39 _ rfl)) (by decide) (backOf (W := 0) (rm7 l Z a0 hw [] b16 (0 : Int32) T239.heap n0 z243 r239_3) hZ (hW 41 _ rfl) (hW 2 _ rfl) (by decide) (by decide)) q251a q251c (g := (mkF m 162 #[.val (.int p0_0), .val (.int p0_1), .val (.int (bI (¬ ((p0_1 &&& (1 : Int32)) = (0 : Int32))))), .val (.int (bI (¬ ((p0_1 &&& (2 : Int32)) = (0 : Int32))))), .val (.int (bI (¬ ((p0_1 &&& (4 : Int32)) = (0 : Int32))))), .val (.ref b16), .val (.int (0 : Int32)), .val (.int (0 : Int32)), .val (.int ((0 : Int32) - (0 : Int32))), .val (.int (0 : Int32)), .val (.int (0 : Int32))] [(.ref b16)])) rfl (by rw [hml]; rfl) (Steps.refl _) (argsL := []) (rest := []) (lenOf pd_2 rfl) rfl (by show 2 * 0 + _ ≤ _; exact Nat.le_of_eq rfl) (hb hby at_162) (fun _ _ => ⟨rfl, e248, (by decide : 1 + 0 ≤ _), (by decide : 7 + 0 ≤ _)⟩)
        dsimp only [Pt.U, Pt.locs, Pt.cells, Pt.slots] at X251 l251 y251 z251 st251 hQ251
        subst l251 y251 z251
        obtain ⟨rfl, N251q, e251⟩ := hQ251
        have N252 := Fr.app N249 N251q
        have pre253 : ∀ t, Steps p.tables e below (T251.setTop (mkF m 165 #[.val (.int p0_0), .val (.int p0_1), .val (.int (bI (¬ ((p0_1 &&& (1 : Int32)) = (0 : Int32))))), .val (.int (bI (¬ ((p0_1 &&& (2 : Int32)) = (0 : Int32))))), .val (.int (bI (¬ ((p0_1 &&& (4 : Int32)) = (0 : Int32))))), .val (.ref b16), .val (.int (0 : Int32)), .val (.int (0 : Int32)), .val (.int ((0 : Int32) - (0 : Int32))), .val (.int (0 : Int32)), .val (.int (0 : Int32))] [(.int (0 : Int32))])) t → Steps p.tables e below (s₁.setTop (entryFrame m #[(.int p0_0), (.int p0_1)] maxLocals)) t := fun t k => pre250 t (by
          show Steps p.tables e below (T248.setTop (mkF m 153 #[.val (.int p0_0), .val (.int p0_1), .val (.int (bI (¬ ((p0_1 &&& (1 : Int32)) = (0 : Int32))))), .val (.int (bI (¬ ((p0_1 &&& (2 : Int32)) = (0 : Int32))))), .val (.int (bI (¬ ((p0_1 &&& (4 : Int32)) = (0 : Int32))))), .val (.ref b16), .val (.int (0 : Int32)), .val (.int (0 : Int32)), .val (.int ((0 : Int32) - (0 : Int32))), .val (.int (0 : Int32)), .val (.int (0 : Int32))] [(.int ((0 : Int32) + (1 : Int32)))])) _
          refine XS.iload X248.here hx rfl (hb hby at_153) rfl ?_
          show Steps p.tables e below (T248.setTop (mkF m 155 #[.val (.int p0_0), .val (.int p0_1), .val (.int (bI (¬ ((p0_1 &&& (1 : Int32)) = (0 : Int32))))), .val (.int (bI (¬ ((p0_1 &&& (2 : Int32)) = (0 : Int32))))), .val (.int (bI (¬ ((p0_1 &&& (4 : Int32)) = (0 : Int32))))), .val (.ref b16), .val (.int (0 : Int32)), .val (.int (0 : Int32)), .val (.int ((0 : Int32) - (0 : Int32))), .val (.int (0 : Int32)), .val (.int (0 : Int32))] [(.int (0 : Int32)), (.int ((0 : Int32) + (1 : Int32)))])) _
          refine XS.iconst X248.here hx rfl (hb hby at_155) ?_
          show Steps p.tables e below (T248.setTop (mkF m 156 #[.val (.int p0_0), .val (.int p0_1), .val (.int (bI (¬ ((p0_1 &&& (1 : Int32)) = (0 : Int32))))), .val (.int (bI (¬ ((p0_1 &&& (2 : Int32)) = (0 : Int32))))), .val (.int (bI (¬ ((p0_1 &&& (4 : Int32)) = (0 : Int32))))), .val (.ref b16), .val (.int (0 : Int32)), .val (.int (0 : Int32)), .val (.int ((0 : Int32) - (0 : Int32))), .val (.int (0 : Int32)), .val (.int (0 : Int32))] [(.int (1 : Int32)), (.int (0 : Int32)), (.int ((0 : Int32) + (1 : Int32)))])) _
          refine XS.iadd X248.here hx rfl (hb hby at_156) rfl ?_
          show Steps p.tables e below (T248.setTop (mkF m 157 #[.val (.int p0_0), .val (.int p0_1), .val (.int (bI (¬ ((p0_1 &&& (1 : Int32)) = (0 : Int32))))), .val (.int (bI (¬ ((p0_1 &&& (2 : Int32)) = (0 : Int32))))), .val (.int (bI (¬ ((p0_1 &&& (4 : Int32)) = (0 : Int32))))), .val (.ref b16), .val (.int (0 : Int32)), .val (.int (0 : Int32)), .val (.int ((0 : Int32) - (0 : Int32))), .val (.int (0 : Int32)), .val (.int (0 : Int32))] [(.int ((0 : Int32) + (1 : Int32))), (.int ((0 : Int32) + (1 : Int32)))])) _
          refine XS.icmpNo X248.here hx rfl (hb hby at_157) rfl (teq (rfl : ((0 : Int32) + (1 : Int32)) = ((0 : Int32) + (1 : Int32)))).2 ?_
          show Steps p.tables e below (T248.setTop (mkF m 160 #[.val (.int p0_0), .val (.int p0_1), .val (.int (bI (¬ ((p0_1 &&& (1 : Int32)) = (0 : Int32))))), .val (.int (bI (¬ ((p0_1 &&& (2 : Int32)) = (0 : Int32))))), .val (.int (bI (¬ ((p0_1 &&& (4 : Int32)) = (0 : Int32))))), .val (.ref b16), .val (.int (0 : Int32)), .val (.int (0 : Int32)), .val (.int ((0 : Int32) - (0 : Int32))), .val (.int (0 : Int32)), .val (.int (0 : Int32))] [])) _
          refine XS.aload X248.here hx rfl (hb hby at_160) rfl rfl ?_
          show Steps p.tables e below (T248.setTop (mkF m 162 #[.val (.int p0_0), .val (.int p0_1), .val (.int (bI (¬ ((p0_1 &&& (1 : Int32)) = (0 : Int32))))), .val (.int (bI (¬ ((p0_1 &&& (2 : Int32)) = (0 : Int32))))), .val (.int (bI (¬ ((p0_1 &&& (4 : Int32)) = (0 : Int32))))), .val (.ref b16), .val (.int (0 : Int32)), .val (.int (0 : Int32)), .val (.int ((0 : Int32) - (0 : Int32))), .val (.int (0 : Int32)), .val (.int (0 : Int32))] [(.ref b16)])) _
          refine st251.trans ?_
          exact k)
        obtain ⟨cq254, kq254, q254a, q254b, q254c⟩ := isOf hZ e251 r239_0
        obtain ⟨_, _, ⟨T254, L254, k254, n254⟩, -, X254, ⟨Lc254, hQ254, l254, y254, z254⟩, st254⟩ := X251.virtualBack hx (y := (⟨"com/example/shieldwall/shieldwall/engine/MoraleState", "routing", "()Z"⟩ : MethodName)) (z := (⟨"com/example/shieldwall/shieldwall/engine/MoraleState", "routing", "()Z"⟩ : MethodName)) hown (mvT hZ (hW 44 _ rfl)) (mvT hZ (hW 45 _ rfl)) (notFace_of_selects (args := #[]) (mvT hZ (hW 47 _ rfl))) (mvT hZ (hW 47 _ rfl)) (mvT hZ (hW 46 _ rfl)) (by decide) (backOf (W := 0) (rm8 l Z a0 hw [] b16 (0 : Int32) T239.heap n0 z243 r239_4) hZ (hW 48 _ rfl) (hW 2 _ rfl) (by decide) (by decide)) q254a q254c (g := (mkF m 172 #[.val (.int p0_0), .val (.int p0_1), .val (.int (bI (¬ ((p0_1 &&& (1 : Int32)) = (0 : Int32))))), .val (.int (bI (¬ ((p0_1 &&& (2 : Int32)) = (0 : Int32))))), .val (.int (bI (¬ ((p0_1 &&& (4 : Int32)) = (0 : Int32))))), .val (.ref b16), .val (.int (0 : Int32)), .val (.int (0 : Int32)), .val (.int ((0 : Int32) - (0 : Int32))), .val (.int (0 : Int32)), .val (.int (0 : Int32))] [(.ref b16)])) rfl (by rw [hml]; rfl) (Steps.refl _) (argsL := []) (rest := []) (lenOf pd_3 rfl) rfl (by show 2 * 0 + _ ≤ _; exact Nat.le_of_eq rfl) (hb hby at_172) (fun _ _ => ⟨rfl, e251, (by decide : 1 + 0 ≤ _), (by decide : 7 + 0 ≤ _)⟩)
        dsimp only [Pt.U, Pt.locs, Pt.cells, Pt.slots] at X254 l254 y254 z254 st254 hQ254
        subst l254 y254 z254
        obtain ⟨rfl, N254q, e254⟩ := hQ254
        have N255 := Fr.app N252 N254q
        have pre256 : ∀ t, Steps p.tables e below (T254.setTop (mkF m 175 #[.val (.int p0_0), .val (.int p0_1), .val (.int (bI (¬ ((p0_1 &&& (1 : Int32)) = (0 : Int32))))), .val (.int (bI (¬ ((p0_1 &&& (2 : Int32)) = (0 : Int32))))), .val (.int (bI (¬ ((p0_1 &&& (4 : Int32)) = (0 : Int32))))), .val (.ref b16), .val (.int (0 : Int32)), .val (.int (0 : Int32)), .val (.int ((0 : Int32) - (0 : Int32))), .val (.int (0 : Int32)), .val (.int (0 : Int32))] [(.int (nar .boolean (0 : Int32)))])) t → Steps p.tables e below (s₁.setTop (entryFrame m #[(.int p0_0), (.int p0_1)] maxLocals)) t := fun t k => pre253 t (by
          show Steps p.tables e below (T251.setTop (mkF m 165 #[.val (.int p0_0), .val (.int p0_1), .val (.int (bI (¬ ((p0_1 &&& (1 : Int32)) = (0 : Int32))))), .val (.int (bI (¬ ((p0_1 &&& (2 : Int32)) = (0 : Int32))))), .val (.int (bI (¬ ((p0_1 &&& (4 : Int32)) = (0 : Int32))))), .val (.ref b16), .val (.int (0 : Int32)), .val (.int (0 : Int32)), .val (.int ((0 : Int32) - (0 : Int32))), .val (.int (0 : Int32)), .val (.int (0 : Int32))] [(.int (0 : Int32))])) _
          refine XS.iload X251.here hx rfl (hb hby at_165) rfl ?_
          show Steps p.tables e below (T251.setTop (mkF m 167 #[.val (.int p0_0), .val (.int p0_1), .val (.int (bI (¬ ((p0_1 &&& (1 : Int32)) = (0 : Int32))))), .val (.int (bI (¬ ((p0_1 &&& (2 : Int32)) = (0 : Int32))))), .val (.int (bI (¬ ((p0_1 &&& (4 : Int32)) = (0 : Int32))))), .val (.ref b16), .val (.int (0 : Int32)), .val (.int (0 : Int32)), .val (.int ((0 : Int32) - (0 : Int32))), .val (.int (0 : Int32)), .val (.int (0 : Int32))] [(.int (0 : Int32)), (.int (0 : Int32))])) _
          refine XS.icmpNo X251.here hx rfl (hb hby at_167) rfl (teq (by decide : (0 : Int32) = (0 : Int32))).2 ?_
          show Steps p.tables e below (T251.setTop (mkF m 170 #[.val (.int p0_0), .val (.int p0_1), .val (.int (bI (¬ ((p0_1 &&& (1 : Int32)) = (0 : Int32))))), .val (.int (bI (¬ ((p0_1 &&& (2 : Int32)) = (0 : Int32))))), .val (.int (bI (¬ ((p0_1 &&& (4 : Int32)) = (0 : Int32))))), .val (.ref b16), .val (.int (0 : Int32)), .val (.int (0 : Int32)), .val (.int ((0 : Int32) - (0 : Int32))), .val (.int (0 : Int32)), .val (.int (0 : Int32))] [])) _
          refine XS.aload X251.here hx rfl (hb hby at_170) rfl rfl ?_
          show Steps p.tables e below (T251.setTop (mkF m 172 #[.val (.int p0_0), .val (.int p0_1), .val (.int (bI (¬ ((p0_1 &&& (1 : Int32)) = (0 : Int32))))), .val (.int (bI (¬ ((p0_1 &&& (2 : Int32)) = (0 : Int32))))), .val (.int (bI (¬ ((p0_1 &&& (4 : Int32)) = (0 : Int32))))), .val (.ref b16), .val (.int (0 : Int32)), .val (.int (0 : Int32)), .val (.int ((0 : Int32) - (0 : Int32))), .val (.int (0 : Int32)), .val (.int (0 : Int32))] [(.ref b16)])) _
          refine st254.trans ?_
          exact k)
        have hd257 : (nar .boolean (0 : Int32)) = (bI (¬ ((p0_1 &&& (4 : Int32)) = (0 : Int32)))) := by
          rw [bI_f hc210]
          rfl
        obtain ⟨cq258, kq258, q258a, q258b, q258c⟩ := isOf hZ e254 r239_0
        obtain ⟨_, _, ⟨T258, L258, k258, n258⟩, -, X258, ⟨Lc258, hQ258, l258, y258, z258⟩, st258⟩ := X254.virtualBack hx (y := (⟨"com/example/shieldwall/shieldwall/engine/MoraleState", "startStrength", "()I"⟩ : MethodName)) (z := (⟨"com/example/shieldwall/shieldwall/engine/MoraleState", "startStrength", "()I"⟩ : MethodName)) hown (mvT hZ (hW 51 _ rfl)) (mvT hZ (hW 52 _ rfl)) (notFace_of_selects (args := #[]) (mvT hZ (hW 54 _ rfl))) (mvT hZ (hW 54 _ rfl)) (mvT hZ (hW 53 _ rfl)) (by decide) (backOf (W := 0) (rm9 l Z a0 hw [] b16 p0_0 T239.heap n0 z243 r239_1) hZ (hW 55 _ rfl) (hW 2 _ rfl) (by decide) (by decide)) q258a q258c (g := (mkF m 182 #[.val (.int p0_0), .val (.int p0_1), .val (.int (bI (¬ ((p0_1 &&& (1 : Int32)) = (0 : Int32))))), .val (.int (bI (¬ ((p0_1 &&& (2 : Int32)) = (0 : Int32))))), .val (.int (bI (¬ ((p0_1 &&& (4 : Int32)) = (0 : Int32))))), .val (.ref b16), .val (.int (0 : Int32)), .val (.int (0 : Int32)), .val (.int ((0 : Int32) - (0 : Int32))), .val (.int (0 : Int32)), .val (.int (0 : Int32))] [(.ref b16)])) rfl (by rw [hml]; rfl) (Steps.refl _) (argsL := []) (rest := []) (lenOf pd_2 rfl) rfl (by show 2 * 0 + _ ≤ _; exact Nat.le_of_eq rfl) (hb hby at_182) (fun _ _ => ⟨rfl, e254, (by decide : 1 + 0 ≤ _), (by decide : 7 + 0 ≤ _)⟩)
        dsimp only [Pt.U, Pt.locs, Pt.cells, Pt.slots] at X258 l258 y258 z258 st258 hQ258
        subst l258 y258 z258
        obtain ⟨rfl, N258q, e258⟩ := hQ258
        have N259 := Fr.app N255 N258q
        have pre260 : ∀ t, Steps p.tables e below (T258.setTop (mkF m 185 #[.val (.int p0_0), .val (.int p0_1), .val (.int (bI (¬ ((p0_1 &&& (1 : Int32)) = (0 : Int32))))), .val (.int (bI (¬ ((p0_1 &&& (2 : Int32)) = (0 : Int32))))), .val (.int (bI (¬ ((p0_1 &&& (4 : Int32)) = (0 : Int32))))), .val (.ref b16), .val (.int (0 : Int32)), .val (.int (0 : Int32)), .val (.int ((0 : Int32) - (0 : Int32))), .val (.int (0 : Int32)), .val (.int (0 : Int32))] [(.int p0_0)])) t → Steps p.tables e below (s₁.setTop (entryFrame m #[(.int p0_0), (.int p0_1)] maxLocals)) t := fun t k => pre256 t (by
          show Steps p.tables e below (T254.setTop (mkF m 175 #[.val (.int p0_0), .val (.int p0_1), .val (.int (bI (¬ ((p0_1 &&& (1 : Int32)) = (0 : Int32))))), .val (.int (bI (¬ ((p0_1 &&& (2 : Int32)) = (0 : Int32))))), .val (.int (bI (¬ ((p0_1 &&& (4 : Int32)) = (0 : Int32))))), .val (.ref b16), .val (.int (0 : Int32)), .val (.int (0 : Int32)), .val (.int ((0 : Int32) - (0 : Int32))), .val (.int (0 : Int32)), .val (.int (0 : Int32))] [(.int (nar .boolean (0 : Int32)))])) _
          refine XS.iload X254.here hx rfl (hb hby at_175) rfl ?_
          show Steps p.tables e below (T254.setTop (mkF m 177 #[.val (.int p0_0), .val (.int p0_1), .val (.int (bI (¬ ((p0_1 &&& (1 : Int32)) = (0 : Int32))))), .val (.int (bI (¬ ((p0_1 &&& (2 : Int32)) = (0 : Int32))))), .val (.int (bI (¬ ((p0_1 &&& (4 : Int32)) = (0 : Int32))))), .val (.ref b16), .val (.int (0 : Int32)), .val (.int (0 : Int32)), .val (.int ((0 : Int32) - (0 : Int32))), .val (.int (0 : Int32)), .val (.int (0 : Int32))] [(.int (bI (¬ ((p0_1 &&& (4 : Int32)) = (0 : Int32))))), (.int (nar .boolean (0 : Int32)))])) _
          refine XS.icmpNo X254.here hx rfl (hb hby at_177) rfl (teq hd257).2 ?_
          show Steps p.tables e below (T254.setTop (mkF m 180 #[.val (.int p0_0), .val (.int p0_1), .val (.int (bI (¬ ((p0_1 &&& (1 : Int32)) = (0 : Int32))))), .val (.int (bI (¬ ((p0_1 &&& (2 : Int32)) = (0 : Int32))))), .val (.int (bI (¬ ((p0_1 &&& (4 : Int32)) = (0 : Int32))))), .val (.ref b16), .val (.int (0 : Int32)), .val (.int (0 : Int32)), .val (.int ((0 : Int32) - (0 : Int32))), .val (.int (0 : Int32)), .val (.int (0 : Int32))] [])) _
          refine XS.aload X254.here hx rfl (hb hby at_180) rfl rfl ?_
          show Steps p.tables e below (T254.setTop (mkF m 182 #[.val (.int p0_0), .val (.int p0_1), .val (.int (bI (¬ ((p0_1 &&& (1 : Int32)) = (0 : Int32))))), .val (.int (bI (¬ ((p0_1 &&& (2 : Int32)) = (0 : Int32))))), .val (.int (bI (¬ ((p0_1 &&& (4 : Int32)) = (0 : Int32))))), .val (.ref b16), .val (.int (0 : Int32)), .val (.int (0 : Int32)), .val (.int ((0 : Int32) - (0 : Int32))), .val (.int (0 : Int32)), .val (.int (0 : Int32))] [(.ref b16)])) _
          refine st258.trans ?_
          exact k)
        obtain ⟨fs, hr, hrun, hended, hW, hsame⟩ := X258.leave (v := some (.int (1 : Int32))) (fun h => by rw [Bd.returns] at h; cases h)
        refine ⟨_, _, pre260 _ ?_, hrun, hended, _, _, rfl, ?_, ⟨_, rfl⟩, hW, hsame.mono (by decide) (by decide)⟩
        · show Steps p.tables e below (T258.setTop (mkF m 185 #[.val (.int p0_0), .val (.int p0_1), .val (.int (bI (¬ ((p0_1 &&& (1 : Int32)) = (0 : Int32))))), .val (.int (bI (¬ ((p0_1 &&& (2 : Int32)) = (0 : Int32))))), .val (.int (bI (¬ ((p0_1 &&& (4 : Int32)) = (0 : Int32))))), .val (.ref b16), .val (.int (0 : Int32)), .val (.int (0 : Int32)), .val (.int ((0 : Int32) - (0 : Int32))), .val (.int (0 : Int32)), .val (.int (0 : Int32))] [(.int p0_0)])) _
          refine XS.iloadN X258.here hx rfl (hb hby at_185) rfl ?_
          show Steps p.tables e below (T258.setTop (mkF m 186 #[.val (.int p0_0), .val (.int p0_1), .val (.int (bI (¬ ((p0_1 &&& (1 : Int32)) = (0 : Int32))))), .val (.int (bI (¬ ((p0_1 &&& (2 : Int32)) = (0 : Int32))))), .val (.int (bI (¬ ((p0_1 &&& (4 : Int32)) = (0 : Int32))))), .val (.ref b16), .val (.int (0 : Int32)), .val (.int (0 : Int32)), .val (.int ((0 : Int32) - (0 : Int32))), .val (.int (0 : Int32)), .val (.int (0 : Int32))] [(.int p0_0), (.int p0_0)])) _
          refine XS.icmpNo X258.here hx rfl (hb hby at_186) rfl (teq (rfl : p0_0 = p0_0)).2 ?_
          show Steps p.tables e below (T258.setTop (mkF m 189 #[.val (.int p0_0), .val (.int p0_1), .val (.int (bI (¬ ((p0_1 &&& (1 : Int32)) = (0 : Int32))))), .val (.int (bI (¬ ((p0_1 &&& (2 : Int32)) = (0 : Int32))))), .val (.int (bI (¬ ((p0_1 &&& (4 : Int32)) = (0 : Int32))))), .val (.ref b16), .val (.int (0 : Int32)), .val (.int (0 : Int32)), .val (.int ((0 : Int32) - (0 : Int32))), .val (.int (0 : Int32)), .val (.int (0 : Int32))] [])) _
          refine XS.iconst X258.here hx rfl (hb hby at_189) ?_
          show Steps p.tables e below (T258.setTop (mkF m 190 #[.val (.int p0_0), .val (.int p0_1), .val (.int (bI (¬ ((p0_1 &&& (1 : Int32)) = (0 : Int32))))), .val (.int (bI (¬ ((p0_1 &&& (2 : Int32)) = (0 : Int32))))), .val (.int (bI (¬ ((p0_1 &&& (4 : Int32)) = (0 : Int32))))), .val (.ref b16), .val (.int (0 : Int32)), .val (.int (0 : Int32)), .val (.int ((0 : Int32) - (0 : Int32))), .val (.int (0 : Int32)), .val (.int (0 : Int32))] [(.int (1 : Int32))])) _
          refine XS.goto X258.here hx rfl (pc0 := 190) (pc' := 194) rfl (hb hby at_190) (by decide) (by decide) ?_
          show Steps p.tables e below (T258.setTop (mkF m 194 #[.val (.int p0_0), .val (.int p0_1), .val (.int (bI (¬ ((p0_1 &&& (1 : Int32)) = (0 : Int32))))), .val (.int (bI (¬ ((p0_1 &&& (2 : Int32)) = (0 : Int32))))), .val (.int (bI (¬ ((p0_1 &&& (4 : Int32)) = (0 : Int32))))), .val (.ref b16), .val (.int (0 : Int32)), .val (.int (0 : Int32)), .val (.int ((0 : Int32) - (0 : Int32))), .val (.int (0 : Int32)), .val (.int (0 : Int32))] [(.int (1 : Int32))])) _
          exact retN X258 hx (t := .boolean) Bd.returns (by simp) (hb hby at_194) hr
        · show Q0 Z p0_0 p0_1 h0 n0 _ T258.heap _
          rw [e258]
          exact ⟨rfl, N259⟩
set_option maxRecDepth 65536 in
set_option maxHeartbeats 40000000 in
theorem comes_1 {Post : Tables → Env → Array Value → State → Outcome → State → Prop} (hpost : ∀ tb e args s v u, (limb_1_1.after args s (.returned v) u = true ∧ limb_1_2.after args s (.returned v) u = true ∧ True) → FrameEnd s (.returned v) u (Jvm.fieldLocs frame_1_writes args s ++ Jvm.arrayLocs frame_1_arrays args s ++ Jvm.staticLocs frame_1_statics s) 16 128 → Post tb e args s (.returned v) u) :
    ArmFor flags0 classFile x code maxLocals ret World_1 tables_1 room_1 Calls_1 rest_1 Pre_1 Post := by
  intro l hfl _ _ p e ha hc hk s m args below hf hA hF happ hP
  obtain ⟨hcalls, hrest, hpre⟩ := hP
  obtain ⟨-, -, -, hnamed, -, -, -, hat⟩ := (Spec.applies_iff hf).mp happ
  obtain ⟨hg, hn⟩ := and_e (Cond.before_iff.mp (show (Jvm.Cond.and given_1 narrow_1).before args s = true from hpre))
  obtain ⟨g1, g2⟩ := and_e hg
  obtain ⟨g3, g4⟩ := and_e g2
  obtain ⟨w0, w1, rfl⟩ : ∃ w0 w1 : Value, args = #[w0, w1] := by
    have hs : args.size = 2 := by simpa [Cond.value, given_1] using g1
    obtain ⟨L⟩ := args
    match L, hs with
    | [w0, w1], _ => exact ⟨w0, w1, rfl⟩
  have hw := fun d (hd : d ∈ tables_1) => atoms_spec (ws := Jvm.Cond.code x code maxLocals ret :: tables_1) hat d (List.mem_cons_of_mem _ hd)
  have hfit : Fit s := fun {y c} hc i hi => by
    obtain ⟨ha, rfl⟩ := Array.getElem?_eq_some_iff.mp hc
    have q := List.all_eq_true.mp ((Array.all_eq_true_iff_forall_mem.mp hF) _ (Array.getElem_mem ha)) i (List.mem_range.mpr hi)
    simpa [Array.getElem?_eq_getElem hi] using q
  obtain ⟨i0, ei0⟩ := is_v g3
  obtain rfl : w0 = (.int i0) := Option.some.inj ei0
  obtain ⟨i1, ei1⟩ := is_v g4
  obtain rfl : w1 = (.int i1) := Option.some.inj ei1
  obtain ⟨n, o, h1, h2, h3, _, L, rfl, ⟨rfl, N⟩, hq⟩ := rm0 l s _ hw tables_1 i0 i1 s.heap s.heap.size (Nat.le_refl _)  p e ha hc hk s m _ below hf ((Spec.applies_iff_loose hf).mp happ).1 ⟨rfl, State.Warmed39.refl s, rfl⟩ trivial
  refine ⟨n, _, h1, h2, h3, hpost _ _ _ _ _ _ ⟨Cond.after_iff.mpr rfl, Cond.after_iff.mpr (eq_i res_at (Term.int_eval (1)) rfl), trivial⟩ ⟨hq.1, hq.2.1, (hq.2.2.sift fun y hy => Or.inr (N y hy)).mono (by decide) (by decide)⟩⟩
theorem main_1_1 : Claimed_1_1 := comes_1 fun _ _ _ _ _ _ h hF => ⟨h.1, hF⟩
theorem main_1_2 : Claimed_1_2 := comes_1 fun _ _ _ _ _ _ h hF => ⟨h.2.1, hF⟩
end Jvm.Pilot.@@N@@
namespace Jvm.Pilot.@@N@@
open Jvm Jvm.ClassFile Sem Op Lib Jvm.Free Jvm.Stand Jvm.Pilot.@@N@@.Jvm.D
/-! MADE BY PROGRAM (witnessworld.py) out of the Statement's table words and the real class files: 9 classes; the members and pool entries that the words name. The judged class is class 1, her method 1. -/
namespace start1
open Jvm.ClassFile
def u (s : String) : CpInfo := .utf8 (stringToUtf16 s)
/-- a pool by its gaps: so many unusable entries, then the entry; so many at the end -/
def gap : Nat → List CpInfo → List CpInfo
  | 0, r => r
  | n + 1, r => .unusable :: gap n r
def poolList (es : List (Nat × CpInfo)) (last : Nat) : List CpInfo := es.foldr (fun e r => gap e.1 (e.2 :: r)) (gap last [])
def pool (es : List (Nat × CpInfo)) (last : Nat) : Array CpInfo := ⟨poolList es last⟩
def fileOf (pool : Array CpInfo) (this : Nat) (attrs : Array Attribute := #[]) (ms : Array MethodInfo := #[]) (fl : Nat := 33) (sup : Nat := 0) (ifs : Array Nat := #[]) (fds : Array FieldInfo := #[]) : ClassFile where
  minorVersion := 0
  majorVersion := 65
  constantPool := pool
  accessFlags := fl
  thisClass := this
  superClass := sup
  interfaces := ifs
  fields := fds
  methods := ms
  attributes := attrs
def plain (name : String) (sup : Option ClassId) : Class where
  name := name
  kind := .ordinary
  loader := none
  accessFlags := 33
  super := sup
  interfaces := #[]
  cf := none
  fields := #[]
  methods := #[]
  instanceTypes := #[]
  staticTypes := #[]
  resolved := #[]
  callSites := []
  init := .initialized
  statics := none
  mirror := none

def pool0 : Array CpInfo := pool [(5, u "<init>"), (0, u "()V"), (1, .class_ 10), (1, u "java/lang/Object")] 113

def k0c0 : Code := { maxStack := 0, maxLocals := 1, code := object_method_1_code, exceptionTable := #[], attributes := #[] }
def k0m0 : Method := { name := "<init>", desc := "()V", sig := { parameters := [], returnType := none }, accessFlags := 1, code := some k0c0 }
/-- java/lang/Object -/
def k0 : Class := { plain "java/lang/Object" none with
  accessFlags := 33
  interfaces := #[]
  cf := some (fileOf pool0 8 #[] #[{ accessFlags := 1, nameIndex := 5, descriptorIndex := 6, attributes := #[] }] 33 0 #[] #[])
  fields := #[]
  methods := #[k0m0]
  instanceTypes := #[]
  staticTypes := #[]
  resolved := Array.replicate 124 none
  statics := none }

def pool1 : Array CpInfo := pool [(2, .class_ 4), (1, u "java/lang/Object"), (0, u "<init>"), (0, u "()V"), (0, .class_ 8), (0, u "com/example/shieldwall/shieldwall/engine/MoraleState"), (0, .methodref 7 10), (0, .nameAndType 5 11), (0, u "(I)V"), (0, .methodref 7 13), (0, .nameAndType 14 6), (0, u "lost"), (0, .methodref 7 16), (0, .nameAndType 17 6), (0, u "won"), (0, .methodref 7 19), (0, .nameAndType 20 6), (0, u "routed"), (0, .methodref 7 22), (0, .nameAndType 23 24), (0, u "battles"), (0, u "()I"), (0, .methodref 7 26), (0, .nameAndType 27 24), (0, u "lostInARow"), (0, .methodref 7 29), (0, .nameAndType 30 24), (0, u "routs"), (0, .methodref 7 32), (0, .nameAndType 33 34), (0, u "routing"), (0, u "()Z"), (0, .methodref 7 36), (0, .nameAndType 37 24), (0, u "startStrength"), (0, .class_ 39), (0, u "com/example/shieldwall/shieldwall/engine/MoraleStateLostPinLaw"), (2, u "law"), (0, u "(II)Z")] 3

def k1m0 : Method := { name := "<init>", desc := "()V", sig := { parameters := [], returnType := none }, accessFlags := 1, code := none }
def k1c1 : Code := { maxStack := 3, maxLocals := 11, code := code, exceptionTable := #[], attributes := #[] }
def k1m1 : Method := { name := "law", desc := "(II)Z", sig := { parameters := [.int, .int], returnType := some .boolean }, accessFlags := 9, code := some k1c1 }
/-- com/example/shieldwall/shieldwall/engine/MoraleStateLostPinLaw -/
def k1 : Class := { plain "com/example/shieldwall/shieldwall/engine/MoraleStateLostPinLaw" (some 0) with
  accessFlags := 49
  interfaces := #[]
  cf := some (fileOf pool1 38 #[] #[{ accessFlags := 1, nameIndex := 5, descriptorIndex := 6, attributes := #[] }, { accessFlags := 9, nameIndex := 42, descriptorIndex := 43, attributes := #[] }] 49 2 #[] #[])
  fields := #[]
  methods := #[k1m0, k1m1]
  instanceTypes := #[]
  staticTypes := #[]
  resolved := Array.replicate 47 none
  statics := none }

def pool2 : Array CpInfo := pool [(1, .methodref 2 3), (0, .class_ 4), (0, .nameAndType 5 6), (0, u "java/lang/Object"), (0, u "<init>"), (0, u "()V"), (0, .fieldref 8 9), (0, .class_ 10), (0, .nameAndType 11 12), (0, u "com/example/shieldwall/shieldwall/engine/MoraleState"), (0, u "startStrength"), (0, u "I"), (0, .fieldref 8 14), (0, .nameAndType 15 12), (0, u "won"), (0, .fieldref 8 17), (0, .nameAndType 18 12), (0, u "lost"), (0, .fieldref 8 20), (0, .nameAndType 21 12), (0, u "routs"), (0, .fieldref 8 23), (0, .nameAndType 24 25), (0, u "routing"), (0, u "Z"), (0, .fieldref 8 27), (0, .nameAndType 28 12), (0, u "lostInARow"), (2, u "lastOrderMoved"), (12, u "(I)V"), (2, u "()I"), (0, u "battles"), (0, u "()Z"), (7, u "routed")] 5

def k2c0 : Code := { maxStack := 2, maxLocals := 2, code := prog_19_method_1_code, exceptionTable := #[], attributes := #[] }
def k2m0 : Method := { name := "<init>", desc := "(I)V", sig := { parameters := [.int], returnType := none }, accessFlags := 0, code := some k2c0 }
def k2c1 : Code := { maxStack := 1, maxLocals := 1, code := prog_19_method_2_code, exceptionTable := #[], attributes := #[] }
def k2m1 : Method := { name := "startStrength", desc := "()I", sig := { parameters := [], returnType := some .int }, accessFlags := 0, code := some k2c1 }
def k2c2 : Code := { maxStack := 2, maxLocals := 1, code := prog_19_method_3_code, exceptionTable := #[], attributes := #[] }
def k2m2 : Method := { name := "battles", desc := "()I", sig := { parameters := [], returnType := some .int }, accessFlags := 0, code := some k2c2 }
def k2c3 : Code := { maxStack := 1, maxLocals := 1, code := prog_19_method_4_code, exceptionTable := #[], attributes := #[] }
def k2m3 : Method := { name := "routs", desc := "()I", sig := { parameters := [], returnType := some .int }, accessFlags := 0, code := some k2c3 }
def k2c4 : Code := { maxStack := 1, maxLocals := 1, code := prog_19_method_5_code, exceptionTable := #[], attributes := #[] }
def k2m4 : Method := { name := "routing", desc := "()Z", sig := { parameters := [], returnType := some .boolean }, accessFlags := 0, code := some k2c4 }
def k2c5 : Code := { maxStack := 1, maxLocals := 1, code := prog_19_method_6_code, exceptionTable := #[], attributes := #[] }
def k2m5 : Method := { name := "lostInARow", desc := "()I", sig := { parameters := [], returnType := some .int }, accessFlags := 0, code := some k2c5 }
def k2c6 : Code := { maxStack := 3, maxLocals := 1, code := prog_19_method_10_code, exceptionTable := #[], attributes := #[] }
def k2m6 : Method := { name := "won", desc := "()V", sig := { parameters := [], returnType := none }, accessFlags := 0, code := some k2c6 }
def k2c7 : Code := { maxStack := 3, maxLocals := 1, code := prog_19_method_12_code, exceptionTable := #[], attributes := #[] }
def k2m7 : Method := { name := "lost", desc := "()V", sig := { parameters := [], returnType := none }, accessFlags := 0, code := some k2c7 }
def k2c8 : Code := { maxStack := 3, maxLocals := 1, code := prog_19_method_14_code, exceptionTable := #[], attributes := #[] }
def k2m8 : Method := { name := "routed", desc := "()V", sig := { parameters := [], returnType := none }, accessFlags := 0, code := some k2c8 }
/-- com/example/shieldwall/shieldwall/engine/MoraleState -/
def k2 : Class := { plain "com/example/shieldwall/shieldwall/engine/MoraleState" (some 0) with
  accessFlags := 48
  interfaces := #[]
  cf := some (fileOf pool2 8 #[] #[{ accessFlags := 0, nameIndex := 5, descriptorIndex := 44, attributes := #[] }, { accessFlags := 0, nameIndex := 11, descriptorIndex := 47, attributes := #[] }, { accessFlags := 0, nameIndex := 48, descriptorIndex := 47, attributes := #[] }, { accessFlags := 0, nameIndex := 21, descriptorIndex := 47, attributes := #[] }, { accessFlags := 0, nameIndex := 24, descriptorIndex := 49, attributes := #[] }, { accessFlags := 0, nameIndex := 28, descriptorIndex := 47, attributes := #[] }, { accessFlags := 0, nameIndex := 15, descriptorIndex := 6, attributes := #[] }, { accessFlags := 0, nameIndex := 18, descriptorIndex := 6, attributes := #[] }, { accessFlags := 0, nameIndex := 57, descriptorIndex := 6, attributes := #[] }] 48 2 #[] #[{ accessFlags := 18, nameIndex := 11, descriptorIndex := 12, attributes := #[] }, { accessFlags := 2, nameIndex := 15, descriptorIndex := 12, attributes := #[] }, { accessFlags := 2, nameIndex := 18, descriptorIndex := 12, attributes := #[] }, { accessFlags := 2, nameIndex := 28, descriptorIndex := 12, attributes := #[] }, { accessFlags := 2, nameIndex := 21, descriptorIndex := 12, attributes := #[] }, { accessFlags := 2, nameIndex := 24, descriptorIndex := 25, attributes := #[] }, { accessFlags := 2, nameIndex := 31, descriptorIndex := 25, attributes := #[] }])
  fields := #[{ name := "startStrength", type := .int, accessFlags := 18, slot := 0, constantValue := 0 }, { name := "won", type := .int, accessFlags := 2, slot := 1, constantValue := 0 }, { name := "lost", type := .int, accessFlags := 2, slot := 2, constantValue := 0 }, { name := "lostInARow", type := .int, accessFlags := 2, slot := 3, constantValue := 0 }, { name := "routs", type := .int, accessFlags := 2, slot := 4, constantValue := 0 }, { name := "routing", type := .boolean, accessFlags := 2, slot := 5, constantValue := 0 }, { name := "lastOrderMoved", type := .boolean, accessFlags := 2, slot := 6, constantValue := 0 }]
  methods := #[k2m0, k2m1, k2m2, k2m3, k2m4, k2m5, k2m6, k2m7, k2m8]
  instanceTypes := #[.int, .int, .int, .int, .int, .boolean, .boolean]
  staticTypes := #[]
  resolved := Array.replicate 63 none
  statics := none }

def pool3 : Array CpInfo := pool [(1, u "java/lang/Cloneable"), (0, .class_ 1), (0, u "java/lang/Object"), (0, .class_ 3)] 3

/-- java/lang/Cloneable -/
def k3 : Class := { plain "java/lang/Cloneable" (some 0) with
  accessFlags := 1537
  interfaces := #[]
  cf := some (fileOf pool3 2 #[] #[] 1537 4 #[] #[])
  fields := #[]
  methods := #[]
  instanceTypes := #[]
  staticTypes := #[]
  resolved := Array.replicate 8 none
  statics := none }

def pool4 : Array CpInfo := pool [(1, u "java/io/Serializable"), (0, .class_ 1), (0, u "java/lang/Object"), (0, .class_ 3)] 3

/-- java/io/Serializable -/
def k4 : Class := { plain "java/io/Serializable" (some 0) with
  accessFlags := 1537
  interfaces := #[]
  cf := some (fileOf pool4 2 #[] #[] 1537 4 #[] #[])
  fields := #[]
  methods := #[]
  instanceTypes := #[]
  staticTypes := #[]
  resolved := Array.replicate 8 none
  statics := none }

/-- the primitive byte -/
def k5 : Class := { plain "byte" none with kind := .primitive 'B', accessFlags := 0x411 }
/-- [B -/
def k6 : Class := { plain "[B" (some 0) with kind := .array 5 .byte, interfaces := #[3, 4], accessFlags := 1041 }

/-- the primitive int -/
def k7 : Class := { plain "int" none with kind := .primitive 'I', accessFlags := 0x411 }
/-- [I -/
def k8 : Class := { plain "[I" (some 0) with kind := .array 7 .int, interfaces := #[3, 4], accessFlags := 1041 }

def heap : Heap := #[]
def classes : Array Class := #[k0, k1, k2, k3, k4, k5, k6, k7, k8]
def interned : List (Array UInt16 × Addr) := []
def slotsUsed : Nat := 0
def theMethod : MethodId := ⟨1, 1⟩
def args0 : Array Value := #[.int 5, .int 3]
def aboutOver (below : List Frame) : State where
  vm := { classes := classes, interned := interned.toArray }
  heap := heap
  slotsUsed := slotsUsed
  threads := #[{ frames := .invoking theMethod args0 :: below }]
def below0 : List Frame := [.native { method := ⟨0, 0⟩, args := #[] }]
def about1 : State := aboutOver below0
def p0 : Program := .bare "" "" ""
def e0 : Env := launch0.env 0 0 0
theorem w_frames : about1.frames = Frame.invoking theMethod args0 :: below0 := rfl
set_option maxRecDepth 65536 in
theorem w_args : argsFit about1.vm theMethod args0 = true := by decide +kernel
set_option maxRecDepth 65536 in
theorem w_heap : heapFits about1 = true := by decide +kernel
set_option maxRecDepth 65536 in
theorem w_runnable : about1.curStatus? = some .runnable := by decide +kernel
set_option maxRecDepth 65536 in
theorem w_alone : about1.alone = true := by decide +kernel
set_option maxRecDepth 65536 in
theorem w_named : about1.methodNamed? x = some theMethod := by decide +kernel
set_option maxRecDepth 65536 in
theorem w_hears : about1.hears theMethod below0 = true := by decide +kernel
set_option maxRecDepth 65536 in
theorem w_ripe : about1.ripe theMethod args0 below0 = true := by decide +kernel
theorem w_running : about1.status = .running := rfl
set_option maxRecDepth 65536 in
theorem w_room : about1.hasRoom e0.platform room_1 = true :=
  launch0.hasRoom_least _ room_1 (by decide +kernel) (by decide +kernel) (by decide +kernel) (by decide +kernel) (by decide +kernel) (by decide +kernel)
theorem allAtoms_all (ts : List Jvm.Cond) (a : Array Jvm.Value) (st : Jvm.State) : (allAtoms ts).before a st = ts.all (fun c => c.before a st) := by
  induction ts with
  | nil => rfl
  | cons c t ih =>
    show (Jvm.Cond.and c (allAtoms t)).before a st = _
    rw [Jvm.Cond.before_and, ih, List.all_cons]
def words1 : List Jvm.Cond := Jvm.Cond.code x code maxLocals ret :: tables_1
/-- a 'code' word, met by the world's own term for the bytes: nothing is compared byte by byte -/
theorem code_word {y : MethodName} {bytes : ByteArray} {mx : Nat} {rt : Option FieldType} {a : Array Value} {s : State} {m : MethodId} {meth : Method} {c : Code} (h1 : s.methodNamed? y = some m) (h2 : s.vm.method? m = some meth) (h3 : meth.code = some c) (h4 : c.code = bytes)
    (h5 : (c.maxLocals == mx && c.exceptionTable.isEmpty && decide (c.maxStack ≤ mostOperands) && decide (meth.sig.returnType = rt) && !meth.locks && decide (parseMethodDescriptor y.desc = some meth.sig)) = true) : (Jvm.Cond.code y bytes mx rt).before a s = true := by
  simp only [Bool.and_eq_true, beq_iff_eq, Bool.not_eq_true', decide_eq_true_eq] at h5
  obtain ⟨⟨⟨⟨⟨g1, g2⟩, g3⟩, g4⟩, g5⟩, g6⟩ := h5
  simp [Cond.before, Cond.holds, Cond.value, h1, h2, h3, h4, g1, g2, g3, g4, g5, g6]
def isCode : Jvm.Cond → Bool
  | .code _ _ _ _ => true
  | _ => false
theorem all_split {L : List Jvm.Cond} {P : Jvm.Cond → Bool} (h1 : L.all (fun c => isCode c || P c) = true) (h2 : ∀ c ∈ L.filter isCode, P c = true) : L.all P = true := by
  refine List.all_eq_true.mpr fun c hc => ?_
  have h := List.all_eq_true.mp h1 c hc
  rcases Bool.eq_false_or_eq_true (isCode c) with hi | hi
  · exact h2 c (List.mem_filter.mpr ⟨hc, hi⟩)
  · simpa [hi] using h
set_option maxRecDepth 65536 in
theorem w_c0 : (Jvm.Cond.code x code maxLocals ret).before args0 about1 = true := code_word (m := ⟨1, 1⟩) (meth := k1m1) (c := k1c1) (by decide +kernel) rfl rfl rfl (by decide +kernel)
set_option maxRecDepth 65536 in
theorem w_c1 : (Jvm.Cond.code ({ cls := "com/example/shieldwall/shieldwall/engine/MoraleState", name := "<init>", desc := "(I)V" } : Jvm.MethodName) prog_19_method_1_code (2 : Nat) (Option.none : Option Jvm.ClassFile.FieldType)).before args0 about1 = true := code_word (m := ⟨2, 0⟩) (meth := k2m0) (c := k2c0) (by decide +kernel) rfl rfl rfl (by decide +kernel)
set_option maxRecDepth 65536 in
theorem w_c2 : (Jvm.Cond.code ({ cls := "java/lang/Object", name := "<init>", desc := "()V" } : Jvm.MethodName) object_method_1_code (1 : Nat) (Option.none : Option Jvm.ClassFile.FieldType)).before args0 about1 = true := code_word (m := ⟨0, 0⟩) (meth := k0m0) (c := k0c0) (by decide +kernel) rfl rfl rfl (by decide +kernel)
set_option maxRecDepth 65536 in
theorem w_c3 : (Jvm.Cond.code ({ cls := "com/example/shieldwall/shieldwall/engine/MoraleState", name := "lost", desc := "()V" } : Jvm.MethodName) prog_19_method_12_code (1 : Nat) (Option.none : Option Jvm.ClassFile.FieldType)).before args0 about1 = true := code_word (m := ⟨2, 7⟩) (meth := k2m7) (c := k2c7) (by decide +kernel) rfl rfl rfl (by decide +kernel)
set_option maxRecDepth 65536 in
theorem w_c4 : (Jvm.Cond.code ({ cls := "com/example/shieldwall/shieldwall/engine/MoraleState", name := "won", desc := "()V" } : Jvm.MethodName) prog_19_method_10_code (1 : Nat) (Option.none : Option Jvm.ClassFile.FieldType)).before args0 about1 = true := code_word (m := ⟨2, 6⟩) (meth := k2m6) (c := k2c6) (by decide +kernel) rfl rfl rfl (by decide +kernel)
set_option maxRecDepth 65536 in
theorem w_c5 : (Jvm.Cond.code ({ cls := "com/example/shieldwall/shieldwall/engine/MoraleState", name := "battles", desc := "()I" } : Jvm.MethodName) prog_19_method_3_code (1 : Nat) (Option.some Jvm.ClassFile.FieldType.int)).before args0 about1 = true := code_word (m := ⟨2, 2⟩) (meth := k2m2) (c := k2c2) (by decide +kernel) rfl rfl rfl (by decide +kernel)
set_option maxRecDepth 65536 in
theorem w_c6 : (Jvm.Cond.code ({ cls := "com/example/shieldwall/shieldwall/engine/MoraleState", name := "lostInARow", desc := "()I" } : Jvm.MethodName) prog_19_method_6_code (1 : Nat) (Option.some Jvm.ClassFile.FieldType.int)).before args0 about1 = true := code_word (m := ⟨2, 5⟩) (meth := k2m5) (c := k2c5) (by decide +kernel) rfl rfl rfl (by decide +kernel)
set_option maxRecDepth 65536 in
theorem w_c7 : (Jvm.Cond.code ({ cls := "com/example/shieldwall/shieldwall/engine/MoraleState", name := "routs", desc := "()I" } : Jvm.MethodName) prog_19_method_4_code (1 : Nat) (Option.some Jvm.ClassFile.FieldType.int)).before args0 about1 = true := code_word (m := ⟨2, 3⟩) (meth := k2m3) (c := k2c3) (by decide +kernel) rfl rfl rfl (by decide +kernel)
set_option maxRecDepth 65536 in
theorem w_c8 : (Jvm.Cond.code ({ cls := "com/example/shieldwall/shieldwall/engine/MoraleState", name := "routing", desc := "()Z" } : Jvm.MethodName) prog_19_method_5_code (1 : Nat) (Option.some Jvm.ClassFile.FieldType.boolean)).before args0 about1 = true := code_word (m := ⟨2, 4⟩) (meth := k2m4) (c := k2c4) (by decide +kernel) rfl rfl rfl (by decide +kernel)
set_option maxRecDepth 65536 in
theorem w_c9 : (Jvm.Cond.code ({ cls := "com/example/shieldwall/shieldwall/engine/MoraleState", name := "startStrength", desc := "()I" } : Jvm.MethodName) prog_19_method_2_code (1 : Nat) (Option.some Jvm.ClassFile.FieldType.int)).before args0 about1 = true := code_word (m := ⟨2, 1⟩) (meth := k2m1) (c := k2c1) (by decide +kernel) rfl rfl rfl (by decide +kernel)
set_option maxRecDepth 65536 in
theorem w_c10 : (Jvm.Cond.code ({ cls := "com/example/shieldwall/shieldwall/engine/MoraleState", name := "routed", desc := "()V" } : Jvm.MethodName) prog_19_method_14_code (1 : Nat) (Option.none : Option Jvm.ClassFile.FieldType)).before args0 about1 = true := code_word (m := ⟨2, 8⟩) (meth := k2m8) (c := k2c8) (by decide +kernel) rfl rfl rfl (by decide +kernel)
def codes1 : List Jvm.Cond := [Jvm.Cond.code x code maxLocals ret, Jvm.Cond.code ({ cls := "com/example/shieldwall/shieldwall/engine/MoraleState", name := "<init>", desc := "(I)V" } : Jvm.MethodName) prog_19_method_1_code (2 : Nat) (Option.none : Option Jvm.ClassFile.FieldType), Jvm.Cond.code ({ cls := "java/lang/Object", name := "<init>", desc := "()V" } : Jvm.MethodName) object_method_1_code (1 : Nat) (Option.none : Option Jvm.ClassFile.FieldType), Jvm.Cond.code ({ cls := "com/example/shieldwall/shieldwall/engine/MoraleState", name := "lost", desc := "()V" } : Jvm.MethodName) prog_19_method_12_code (1 : Nat) (Option.none : Option Jvm.ClassFile.FieldType), Jvm.Cond.code ({ cls := "com/example/shieldwall/shieldwall/engine/MoraleState", name := "won", desc := "()V" } : Jvm.MethodName) prog_19_method_10_code (1 : Nat) (Option.none : Option Jvm.ClassFile.FieldType), Jvm.Cond.code ({ cls := "com/example/shieldwall/shieldwall/engine/MoraleState", name := "battles", desc := "()I" } : Jvm.MethodName) prog_19_method_3_code (1 : Nat) (Option.some Jvm.ClassFile.FieldType.int), Jvm.Cond.code ({ cls := "com/example/shieldwall/shieldwall/engine/MoraleState", name := "lostInARow", desc := "()I" } : Jvm.MethodName) prog_19_method_6_code (1 : Nat) (Option.some Jvm.ClassFile.FieldType.int), Jvm.Cond.code ({ cls := "com/example/shieldwall/shieldwall/engine/MoraleState", name := "routs", desc := "()I" } : Jvm.MethodName) prog_19_method_4_code (1 : Nat) (Option.some Jvm.ClassFile.FieldType.int), Jvm.Cond.code ({ cls := "com/example/shieldwall/shieldwall/engine/MoraleState", name := "routing", desc := "()Z" } : Jvm.MethodName) prog_19_method_5_code (1 : Nat) (Option.some Jvm.ClassFile.FieldType.boolean), Jvm.Cond.code ({ cls := "com/example/shieldwall/shieldwall/engine/MoraleState", name := "startStrength", desc := "()I" } : Jvm.MethodName) prog_19_method_2_code (1 : Nat) (Option.some Jvm.ClassFile.FieldType.int), Jvm.Cond.code ({ cls := "com/example/shieldwall/shieldwall/engine/MoraleState", name := "routed", desc := "()V" } : Jvm.MethodName) prog_19_method_14_code (1 : Nat) (Option.none : Option Jvm.ClassFile.FieldType)]
set_option maxRecDepth 65536 in
theorem codes_eq : words1.filter isCode = codes1 := rfl
theorem w_codes : ∀ c ∈ words1.filter isCode, c.before args0 about1 = true := by
  rw [codes_eq]
  intro c hc
  simp only [codes1, List.mem_cons, List.not_mem_nil, or_false] at hc
  rcases hc with rfl | rfl | rfl | rfl | rfl | rfl | rfl | rfl | rfl | rfl | rfl
  · exact w_c0
  · exact w_c1
  · exact w_c2
  · exact w_c3
  · exact w_c4
  · exact w_c5
  · exact w_c6
  · exact w_c7
  · exact w_c8
  · exact w_c9
  · exact w_c10
set_option maxRecDepth 65536 in
theorem w_t1 : (words1.take 24).all (fun c => isCode c || c.before args0 about1) = true := by decide +kernel
set_option maxRecDepth 65536 in
theorem w_t2 : ((words1.drop 24).take 24).all (fun c => isCode c || c.before args0 about1) = true := by decide +kernel
set_option maxRecDepth 65536 in
theorem w_t3 : ((words1.drop 24).drop 24).all (fun c => isCode c || c.before args0 about1) = true := by decide +kernel
theorem w_tables : (allAtoms (Jvm.Cond.code x code maxLocals ret :: tables_1)).before args0 about1 = true := by
  rw [allAtoms_all]
  show words1.all (fun c => c.before args0 about1) = true
  refine all_split ?_ w_codes
  rw [← List.take_append_drop 24 words1, List.all_append, w_t1, ← List.take_append_drop 24 (words1.drop 24), List.all_append, w_t2, w_t3]
  rfl
set_option maxRecDepth 65536 in
theorem w_case : (Jvm.Cond.and given_1 narrow_1).before args0 about1 = true := by decide +kernel
theorem w_applies : (headSpec (Jvm.Cond.code x code maxLocals ret :: tables_1) room_1).applies x e0.platform about1 = true :=
  (Spec.applies_iff w_frames).mpr ⟨w_running, w_runnable, w_alone, w_named, w_hears, w_ripe, w_room, w_tables⟩
theorem atStart : AtStart classFile x code maxLocals ret World_1 tables_1 room_1 Calls_1 rest_1 Pre_1 launch0 p0 e0 about1 theMethod args0 below0 :=
  ⟨lists_1, trivial, launch0.admits_env _ _ _, launch0.least_env, fairChoices_fair.cas, fairChoices_fair.clock, w_frames, w_args, w_heap, w_applies, trivial, trivial, w_case⟩
end start1
theorem witness_1 : WitnessClaimed_1 := ⟨start1.p0, start1.e0, start1.about1, start1.theMethod, start1.args0, start1.below0, start1.atStart⟩
end Jvm.Pilot.@@N@@
