import JvmDerived
import JvmDerived.Pilot.@@N@@Statement
import JvmDerived.Pilot.@@N@@Code
set_option linter.unusedVariables false
set_option linter.unusedSimpArgs false
namespace Jvm.RoadKit
open Sem ClassFile Op Lib Jvm.Stand Jvm.Free Jvm.LawKit
section New
variable {p : Program} {l : Launch} {e : Env} {R : Room} {s : State} {m : MethodId} {args : Array Value} {below : List Frame} {meth : Method} {c : Code} {T : State} {locs : List Loc} {cells slots : Nat}
theorem retI (X : Stand p l e R s m args below meth c T locs cells slots) (hx : p.tables.exec = Jvm.exec) {pc : Nat} {Ls : Array Slot} {z : Int32} {rest : List Value} (hret : meth.sig.returnType = some .int) (hd : decode c.code pc = .ok (.ireturn, 1)) {fs : List Frame}
    (hl : ∀ (f : JFrame) (acts : List Action), f.method = m → f.locked = none → f.entered = [] → (doReturn e (T.setTop f) acts (some (.int z))).1 = T.setFrames fs) : Steps p.tables e below (T.setTop (mkF m pc Ls (.int z :: rest))) (T.setFrames fs) := by
  have hm' : T.vm.method? m = some meth := X.method'
  have hn : narrow .int (.int z) = .int z := rfl
  show Steps p.tables e below (T.setTop { method := m, pc := pc, locals := Ls, stack := _ :: rest, locked := none }) _
  jvm_step X.here [X.here.top, hx, hd, hm', hret, hn]
  first | (intro acts; rw [hl _ acts rfl rfl rfl]) | rw [hl _ _ rfl rfl rfl]
  exact Steps.refl _
end New
end Jvm.RoadKit
namespace Jvm.Pilot.@@N@@
open Jvm Jvm.ClassFile Sem Op Lib Jvm.Free Jvm.Stand Jvm.LawKit Jvm.RoadKit Bundle Jvm.Pilot.@@N@@.Jvm.D
/-- a boolean of the law's, as the int that the machine holds -/
def bI (P : Prop) [Decidable P] : Int32 := if P then 1 else 0
theorem bI_t {P : Prop} [Decidable P] (h : P) : bI P = (1 : Int32) := if_pos h
theorem bI_f {P : Prop} [Decidable P] (h : ¬ P) : bI P = (0 : Int32) := if_neg h
theorem bI_n {P : Prop} [Decidable P] (h : P) : ¬ (bI P = (0 : Int32)) := by rw [bI_t h]; decide
theorem bI_iff {P Q : Prop} [Decidable P] [Decidable Q] (h : P ↔ Q) : bI P = bI Q := by
  by_cases p : P
  · rw [bI_t p, bI_t (h.mp p)]
  · rw [bI_f p, bI_f fun q => p (h.mpr q)]
theorem bI_nar {P : Prop} [Decidable P] : nar .boolean (bI P) = bI P := by
  by_cases p : P
  · rw [bI_t p]; rfl
  · rw [bI_f p]; rfl
theorem own_fin {n : Nat} {P : Int32 → Prop} (t : ∀ i : Fin n, P (Int32.ofInt (i.1 : Int))) (x : Int32) (h0 : 0 ≤ x.toInt) (h1 : x.toInt < n) : P x := by
  have e : x = Int32.ofInt (((⟨x.toInt.toNat, by omega⟩ : Fin n).1 : Nat) : Int) := by
    show x = Int32.ofInt ((x.toInt.toNat : Nat) : Int)
    rw [Int.toNat_of_nonneg h0, Int32.ofInt_toInt]
  rw [e]
  exact t _
theorem own_n (a : Int32) : (a &&& (7 : Int32)) = (0 : Int32) ∨ (a &&& (7 : Int32)) = (1 : Int32) ∨ (a &&& (7 : Int32)) = (2 : Int32) ∨ (a &&& (7 : Int32)) = (3 : Int32) ∨ (a &&& (7 : Int32)) = (4 : Int32) ∨ (a &&& (7 : Int32)) = (5 : Int32) ∨ (a &&& (7 : Int32)) = (6 : Int32) ∨ (a &&& (7 : Int32)) = (7 : Int32) := by
  have e := c_mask a 7 3 (by decide) (by decide)
  exact own_fin (n := 8) (P := fun y => y = (0 : Int32) ∨ y = (1 : Int32) ∨ y = (2 : Int32) ∨ y = (3 : Int32) ∨ y = (4 : Int32) ∨ y = (5 : Int32) ∨ y = (6 : Int32) ∨ y = (7 : Int32)) (by decide +kernel) _ (by omega) (by omega)
abbrev own_bp (m i : Int32) : Prop := ¬ (((m >>> (i &&& 31)) &&& (1 : Int32)) = (0 : Int32))
def own_b (m i : Int32) : Int32 := bI (own_bp m i)
theorem own_r_0 : ∀ i : Fin 1, (fun y : Int32 => (0 : Int32) = (bI (¬ (y = (0 : Int32))))) (Int32.ofInt (i.1 : Int)) := by decide +kernel
theorem own_g_0 : ∀ i : Fin 1, (fun y : Int32 => (((((((0 : Int32) ||| (0 : Int32)) ||| (0 : Int32)) ||| (0 : Int32)) ||| (0 : Int32)) ||| (0 : Int32)) ||| (0 : Int32)) = ((y + (1 : Int32)) &&& (0 : Int32))) (Int32.ofInt (i.1 : Int)) := by decide +kernel
theorem own_r_1 : ∀ i : Fin 2, (fun y : Int32 => (bI ((own_b y (0 : Int32)) = (0 : Int32))) = (bI (¬ (y = (1 : Int32))))) (Int32.ofInt (i.1 : Int)) := by decide +kernel
theorem own_g_1 : ∀ i : Fin 2, (fun y : Int32 => (((((((if (bI ((own_b y (0 : Int32)) = (0 : Int32))) = (0 : Int32) then (0 : Int32) else ((1 : Int32) <<< ((0 : Int32) &&& 31))) ||| (0 : Int32)) ||| (0 : Int32)) ||| (0 : Int32)) ||| (0 : Int32)) ||| (0 : Int32)) ||| (0 : Int32)) = ((y + (1 : Int32)) &&& (1 : Int32))) (Int32.ofInt (i.1 : Int)) := by decide +kernel
theorem own_r_2 : ∀ i : Fin 4, (fun y : Int32 => (bI (((own_b y (0 : Int32)) = (0 : Int32)) ∨ ((own_b y (1 : Int32)) = (0 : Int32)))) = (bI (¬ (y = (3 : Int32))))) (Int32.ofInt (i.1 : Int)) := by decide +kernel
theorem own_g_2 : ∀ i : Fin 4, (fun y : Int32 => (((((((if (bI ((own_b y (0 : Int32)) = (0 : Int32))) = (0 : Int32) then (0 : Int32) else ((1 : Int32) <<< ((0 : Int32) &&& 31))) ||| (if (if (own_b y (0 : Int32)) = (0 : Int32) then (own_b y (1 : Int32)) else (bI ((own_b y (1 : Int32)) = (0 : Int32)))) = (0 : Int32) then (0 : Int32) else ((1 : Int32) <<< ((1 : Int32) &&& 31)))) ||| (0 : Int32)) ||| (0 : Int32)) ||| (0 : Int32)) ||| (0 : Int32)) ||| (0 : Int32)) = ((y + (1 : Int32)) &&& (3 : Int32))) (Int32.ofInt (i.1 : Int)) := by decide +kernel
theorem own_r_3 : ∀ i : Fin 8, (fun y : Int32 => (bI (((own_b y (0 : Int32)) = (0 : Int32)) ∨ (((own_b y (1 : Int32)) = (0 : Int32)) ∨ ((own_b y (2 : Int32)) = (0 : Int32))))) = (bI (¬ (y = (7 : Int32))))) (Int32.ofInt (i.1 : Int)) := by decide +kernel
theorem own_g_3 : ∀ i : Fin 8, (fun y : Int32 => (((((((if (bI ((own_b y (0 : Int32)) = (0 : Int32))) = (0 : Int32) then (0 : Int32) else ((1 : Int32) <<< ((0 : Int32) &&& 31))) ||| (if (if (own_b y (0 : Int32)) = (0 : Int32) then (own_b y (1 : Int32)) else (bI ((own_b y (1 : Int32)) = (0 : Int32)))) = (0 : Int32) then (0 : Int32) else ((1 : Int32) <<< ((1 : Int32) &&& 31)))) ||| (if (if (own_b y (0 : Int32)) = (0 : Int32) then (own_b y (2 : Int32)) else (if (own_b y (1 : Int32)) = (0 : Int32) then (own_b y (2 : Int32)) else (bI ((own_b y (2 : Int32)) = (0 : Int32))))) = (0 : Int32) then (0 : Int32) else ((1 : Int32) <<< ((2 : Int32) &&& 31)))) ||| (0 : Int32)) ||| (0 : Int32)) ||| (0 : Int32)) ||| (0 : Int32)) = ((y + (1 : Int32)) &&& (7 : Int32))) (Int32.ofInt (i.1 : Int)) := by decide +kernel
theorem own_r_4 : ∀ i : Fin 16, (fun y : Int32 => (bI (((own_b y (0 : Int32)) = (0 : Int32)) ∨ (((own_b y (1 : Int32)) = (0 : Int32)) ∨ (((own_b y (2 : Int32)) = (0 : Int32)) ∨ ((own_b y (3 : Int32)) = (0 : Int32)))))) = (bI (¬ (y = (15 : Int32))))) (Int32.ofInt (i.1 : Int)) := by decide +kernel
theorem own_g_4 : ∀ i : Fin 16, (fun y : Int32 => (((((((if (bI ((own_b y (0 : Int32)) = (0 : Int32))) = (0 : Int32) then (0 : Int32) else ((1 : Int32) <<< ((0 : Int32) &&& 31))) ||| (if (if (own_b y (0 : Int32)) = (0 : Int32) then (own_b y (1 : Int32)) else (bI ((own_b y (1 : Int32)) = (0 : Int32)))) = (0 : Int32) then (0 : Int32) else ((1 : Int32) <<< ((1 : Int32) &&& 31)))) ||| (if (if (own_b y (0 : Int32)) = (0 : Int32) then (own_b y (2 : Int32)) else (if (own_b y (1 : Int32)) = (0 : Int32) then (own_b y (2 : Int32)) else (bI ((own_b y (2 : Int32)) = (0 : Int32))))) = (0 : Int32) then (0 : Int32) else ((1 : Int32) <<< ((2 : Int32) &&& 31)))) ||| (if (if (own_b y (0 : Int32)) = (0 : Int32) then (own_b y (3 : Int32)) else (if (own_b y (1 : Int32)) = (0 : Int32) then (own_b y (3 : Int32)) else (if (own_b y (2 : Int32)) = (0 : Int32) then (own_b y (3 : Int32)) else (bI ((own_b y (3 : Int32)) = (0 : Int32)))))) = (0 : Int32) then (0 : Int32) else ((1 : Int32) <<< ((3 : Int32) &&& 31)))) ||| (0 : Int32)) ||| (0 : Int32)) ||| (0 : Int32)) = ((y + (1 : Int32)) &&& (15 : Int32))) (Int32.ofInt (i.1 : Int)) := by decide +kernel
theorem own_r_5 : ∀ i : Fin 32, (fun y : Int32 => (bI (((own_b y (0 : Int32)) = (0 : Int32)) ∨ (((own_b y (1 : Int32)) = (0 : Int32)) ∨ (((own_b y (2 : Int32)) = (0 : Int32)) ∨ (((own_b y (3 : Int32)) = (0 : Int32)) ∨ ((own_b y (4 : Int32)) = (0 : Int32))))))) = (bI (¬ (y = (31 : Int32))))) (Int32.ofInt (i.1 : Int)) := by decide +kernel
theorem own_g_5 : ∀ i : Fin 32, (fun y : Int32 => (((((((if (bI ((own_b y (0 : Int32)) = (0 : Int32))) = (0 : Int32) then (0 : Int32) else ((1 : Int32) <<< ((0 : Int32) &&& 31))) ||| (if (if (own_b y (0 : Int32)) = (0 : Int32) then (own_b y (1 : Int32)) else (bI ((own_b y (1 : Int32)) = (0 : Int32)))) = (0 : Int32) then (0 : Int32) else ((1 : Int32) <<< ((1 : Int32) &&& 31)))) ||| (if (if (own_b y (0 : Int32)) = (0 : Int32) then (own_b y (2 : Int32)) else (if (own_b y (1 : Int32)) = (0 : Int32) then (own_b y (2 : Int32)) else (bI ((own_b y (2 : Int32)) = (0 : Int32))))) = (0 : Int32) then (0 : Int32) else ((1 : Int32) <<< ((2 : Int32) &&& 31)))) ||| (if (if (own_b y (0 : Int32)) = (0 : Int32) then (own_b y (3 : Int32)) else (if (own_b y (1 : Int32)) = (0 : Int32) then (own_b y (3 : Int32)) else (if (own_b y (2 : Int32)) = (0 : Int32) then (own_b y (3 : Int32)) else (bI ((own_b y (3 : Int32)) = (0 : Int32)))))) = (0 : Int32) then (0 : Int32) else ((1 : Int32) <<< ((3 : Int32) &&& 31)))) ||| (if (if (own_b y (0 : Int32)) = (0 : Int32) then (own_b y (4 : Int32)) else (if (own_b y (1 : Int32)) = (0 : Int32) then (own_b y (4 : Int32)) else (if (own_b y (2 : Int32)) = (0 : Int32) then (own_b y (4 : Int32)) else (if (own_b y (3 : Int32)) = (0 : Int32) then (own_b y (4 : Int32)) else (bI ((own_b y (4 : Int32)) = (0 : Int32))))))) = (0 : Int32) then (0 : Int32) else ((1 : Int32) <<< ((4 : Int32) &&& 31)))) ||| (0 : Int32)) ||| (0 : Int32)) = ((y + (1 : Int32)) &&& (31 : Int32))) (Int32.ofInt (i.1 : Int)) := by decide +kernel
theorem own_r_6 : ∀ i : Fin 64, (fun y : Int32 => (bI (((own_b y (0 : Int32)) = (0 : Int32)) ∨ (((own_b y (1 : Int32)) = (0 : Int32)) ∨ (((own_b y (2 : Int32)) = (0 : Int32)) ∨ (((own_b y (3 : Int32)) = (0 : Int32)) ∨ (((own_b y (4 : Int32)) = (0 : Int32)) ∨ ((own_b y (5 : Int32)) = (0 : Int32)))))))) = (bI (¬ (y = (63 : Int32))))) (Int32.ofInt (i.1 : Int)) := by decide +kernel
theorem own_g_6 : ∀ i : Fin 64, (fun y : Int32 => (((((((if (bI ((own_b y (0 : Int32)) = (0 : Int32))) = (0 : Int32) then (0 : Int32) else ((1 : Int32) <<< ((0 : Int32) &&& 31))) ||| (if (if (own_b y (0 : Int32)) = (0 : Int32) then (own_b y (1 : Int32)) else (bI ((own_b y (1 : Int32)) = (0 : Int32)))) = (0 : Int32) then (0 : Int32) else ((1 : Int32) <<< ((1 : Int32) &&& 31)))) ||| (if (if (own_b y (0 : Int32)) = (0 : Int32) then (own_b y (2 : Int32)) else (if (own_b y (1 : Int32)) = (0 : Int32) then (own_b y (2 : Int32)) else (bI ((own_b y (2 : Int32)) = (0 : Int32))))) = (0 : Int32) then (0 : Int32) else ((1 : Int32) <<< ((2 : Int32) &&& 31)))) ||| (if (if (own_b y (0 : Int32)) = (0 : Int32) then (own_b y (3 : Int32)) else (if (own_b y (1 : Int32)) = (0 : Int32) then (own_b y (3 : Int32)) else (if (own_b y (2 : Int32)) = (0 : Int32) then (own_b y (3 : Int32)) else (bI ((own_b y (3 : Int32)) = (0 : Int32)))))) = (0 : Int32) then (0 : Int32) else ((1 : Int32) <<< ((3 : Int32) &&& 31)))) ||| (if (if (own_b y (0 : Int32)) = (0 : Int32) then (own_b y (4 : Int32)) else (if (own_b y (1 : Int32)) = (0 : Int32) then (own_b y (4 : Int32)) else (if (own_b y (2 : Int32)) = (0 : Int32) then (own_b y (4 : Int32)) else (if (own_b y (3 : Int32)) = (0 : Int32) then (own_b y (4 : Int32)) else (bI ((own_b y (4 : Int32)) = (0 : Int32))))))) = (0 : Int32) then (0 : Int32) else ((1 : Int32) <<< ((4 : Int32) &&& 31)))) ||| (if (if (own_b y (0 : Int32)) = (0 : Int32) then (own_b y (5 : Int32)) else (if (own_b y (1 : Int32)) = (0 : Int32) then (own_b y (5 : Int32)) else (if (own_b y (2 : Int32)) = (0 : Int32) then (own_b y (5 : Int32)) else (if (own_b y (3 : Int32)) = (0 : Int32) then (own_b y (5 : Int32)) else (if (own_b y (4 : Int32)) = (0 : Int32) then (own_b y (5 : Int32)) else (bI ((own_b y (5 : Int32)) = (0 : Int32)))))))) = (0 : Int32) then (0 : Int32) else ((1 : Int32) <<< ((5 : Int32) &&& 31)))) ||| (0 : Int32)) = ((y + (1 : Int32)) &&& (63 : Int32))) (Int32.ofInt (i.1 : Int)) := by decide +kernel
theorem own_r_7 : ∀ i : Fin 128, (fun y : Int32 => (bI (((own_b y (0 : Int32)) = (0 : Int32)) ∨ (((own_b y (1 : Int32)) = (0 : Int32)) ∨ (((own_b y (2 : Int32)) = (0 : Int32)) ∨ (((own_b y (3 : Int32)) = (0 : Int32)) ∨ (((own_b y (4 : Int32)) = (0 : Int32)) ∨ (((own_b y (5 : Int32)) = (0 : Int32)) ∨ ((own_b y (6 : Int32)) = (0 : Int32))))))))) = (bI (¬ (y = (127 : Int32))))) (Int32.ofInt (i.1 : Int)) := by decide +kernel
theorem own_g_7 : ∀ i : Fin 128, (fun y : Int32 => (((((((if (bI ((own_b y (0 : Int32)) = (0 : Int32))) = (0 : Int32) then (0 : Int32) else ((1 : Int32) <<< ((0 : Int32) &&& 31))) ||| (if (if (own_b y (0 : Int32)) = (0 : Int32) then (own_b y (1 : Int32)) else (bI ((own_b y (1 : Int32)) = (0 : Int32)))) = (0 : Int32) then (0 : Int32) else ((1 : Int32) <<< ((1 : Int32) &&& 31)))) ||| (if (if (own_b y (0 : Int32)) = (0 : Int32) then (own_b y (2 : Int32)) else (if (own_b y (1 : Int32)) = (0 : Int32) then (own_b y (2 : Int32)) else (bI ((own_b y (2 : Int32)) = (0 : Int32))))) = (0 : Int32) then (0 : Int32) else ((1 : Int32) <<< ((2 : Int32) &&& 31)))) ||| (if (if (own_b y (0 : Int32)) = (0 : Int32) then (own_b y (3 : Int32)) else (if (own_b y (1 : Int32)) = (0 : Int32) then (own_b y (3 : Int32)) else (if (own_b y (2 : Int32)) = (0 : Int32) then (own_b y (3 : Int32)) else (bI ((own_b y (3 : Int32)) = (0 : Int32)))))) = (0 : Int32) then (0 : Int32) else ((1 : Int32) <<< ((3 : Int32) &&& 31)))) ||| (if (if (own_b y (0 : Int32)) = (0 : Int32) then (own_b y (4 : Int32)) else (if (own_b y (1 : Int32)) = (0 : Int32) then (own_b y (4 : Int32)) else (if (own_b y (2 : Int32)) = (0 : Int32) then (own_b y (4 : Int32)) else (if (own_b y (3 : Int32)) = (0 : Int32) then (own_b y (4 : Int32)) else (bI ((own_b y (4 : Int32)) = (0 : Int32))))))) = (0 : Int32) then (0 : Int32) else ((1 : Int32) <<< ((4 : Int32) &&& 31)))) ||| (if (if (own_b y (0 : Int32)) = (0 : Int32) then (own_b y (5 : Int32)) else (if (own_b y (1 : Int32)) = (0 : Int32) then (own_b y (5 : Int32)) else (if (own_b y (2 : Int32)) = (0 : Int32) then (own_b y (5 : Int32)) else (if (own_b y (3 : Int32)) = (0 : Int32) then (own_b y (5 : Int32)) else (if (own_b y (4 : Int32)) = (0 : Int32) then (own_b y (5 : Int32)) else (bI ((own_b y (5 : Int32)) = (0 : Int32)))))))) = (0 : Int32) then (0 : Int32) else ((1 : Int32) <<< ((5 : Int32) &&& 31)))) ||| (if (if (own_b y (0 : Int32)) = (0 : Int32) then (own_b y (6 : Int32)) else (if (own_b y (1 : Int32)) = (0 : Int32) then (own_b y (6 : Int32)) else (if (own_b y (2 : Int32)) = (0 : Int32) then (own_b y (6 : Int32)) else (if (own_b y (3 : Int32)) = (0 : Int32) then (own_b y (6 : Int32)) else (if (own_b y (4 : Int32)) = (0 : Int32) then (own_b y (6 : Int32)) else (if (own_b y (5 : Int32)) = (0 : Int32) then (own_b y (6 : Int32)) else (bI ((own_b y (6 : Int32)) = (0 : Int32))))))))) = (0 : Int32) then (0 : Int32) else ((1 : Int32) <<< ((6 : Int32) &&& 31)))) = ((y + (1 : Int32)) &&& (127 : Int32))) (Int32.ofInt (i.1 : Int)) := by decide +kernel
abbrev mn0 : MethodName := ⟨"com/example/regista/regista/ValuationsNextPinLaw", "set", "([ZII)V"⟩
theorem d1_0 : decode method_3_code 0 = .ok (.iload_n 1, 1) := by decide +kernel
theorem d1_1 : decode method_3_code 1 = .ok (.aload_n 0, 1) := by decide +kernel
theorem d1_2 : decode method_3_code 2 = .ok (.arraylength, 1) := by decide +kernel
theorem d1_3 : decode method_3_code 3 = .ok (.if_icmp .ge 19, 3) := by decide +kernel
theorem d1_6 : decode method_3_code 6 = .ok (.aload_n 0, 1) := by decide +kernel
theorem d1_7 : decode method_3_code 7 = .ok (.iload_n 1, 1) := by decide +kernel
theorem d1_8 : decode method_3_code 8 = .ok (.iload_n 2, 1) := by decide +kernel
theorem d1_9 : decode method_3_code 9 = .ok (.iload_n 1, 1) := by decide +kernel
theorem d1_10 : decode method_3_code 10 = .ok (.ishr, 1) := by decide +kernel
theorem d1_11 : decode method_3_code 11 = .ok (.iconst 1, 1) := by decide +kernel
theorem d1_12 : decode method_3_code 12 = .ok (.iand, 1) := by decide +kernel
theorem d1_13 : decode method_3_code 13 = .ok (.ifCond .eq 7, 3) := by decide +kernel
theorem d1_16 : decode method_3_code 16 = .ok (.iconst 1, 1) := by decide +kernel
theorem d1_17 : decode method_3_code 17 = .ok (.goto 4, 3) := by decide +kernel
theorem d1_20 : decode method_3_code 20 = .ok (.iconst 0, 1) := by decide +kernel
theorem d1_21 : decode method_3_code 21 = .ok (.bastore, 1) := by decide +kernel
theorem d1_22 : decode method_3_code 22 = .ok (.return_, 1) := by decide +kernel
theorem pn_1 : plainName "com/example/regista/regista/ValuationsNextPinLaw" = true := by first | (simp [plainName, overriddenIn]; done) | decide +kernel
theorem ef_1 (m : MethodId) (x0 : Addr) (x1 : Int32) (x2 : Int32) : entryFrame m #[(.ref x0), (.int x1), (.int x2)] 3 = mkF m 0 #[.val (.ref x0), .val (.int x1), .val (.int x2)] [] := by first | (simp [entryFrame, mkF, argsToLocals, Value.category]; done) | rfl
def Q1_i (Z : State) (a1_0 : Addr) (p1_1 : Int32) (p1_2 : Int32) (ka : ClassId) (zz : Int32) (vs : List Value) (h0 : Heap) (n0 : Nat) (v : Option Value) (h : Heap) (L : List Loc) : Prop := v = none ∧ Fr n0 L ∧ Keep h0 h [a1_0] ∧ Arv Z h a1_0 ka .boolean zz (vs.set (p1_1).toNatClampNeg (.int (own_b p1_2 p1_1))) (.int (0 : Int32))
set_option maxRecDepth 65536 in
set_option maxHeartbeats 40000000 in
theorem rm1_i (l : Launch) (Z : State) (a0 : Array Value) (hw : ∀ d ∈ tables_1, d.before a0 Z = true) (ws : List Jvm.Cond) (a1_0 : Addr) (p1_1 : Int32) (p1_2 : Int32) (ka : ClassId) (zz : Int32) (vs : List Value) (h0 : Heap) (n0 : Nat) (Z0 : n0 ≤ h0.size) (VA : Arv Z h0 a1_0 ka .boolean zz vs (.int (0 : Int32))) (hge : ¬ p1_1 < 0) (hlen : (p1_1).toNatClampNeg < vs.length) (hp1_3 : p1_1 < zz) (g_a1_0 : n0 ≤ a1_0) :
    MetFree l mn0 (head1 (Jvm.Cond.code mn0 method_3_code 3 none :: ws) ({ frames := 0, cells := 0, slots := 0, locals := 0 } : Room)) (fun a U => a = #[(.ref a1_0), (.int p1_1), (.int p1_2)] ∧ Z.Warmed39 U.vm ∧ U.heap = h0) (fun _ _ _ _ _ => True) (fun _ U o U' => ∃ v L, o = .returned v ∧ Q1_i Z a1_0 p1_1 p1_2 ka zz vs h0 n0 v U'.heap L ∧ FrameEnd U o U' L ({ frames := 0, cells := 0, slots := 0, locals := 0 } : Room).cells ({ frames := 0, cells := 0, slots := 0, locals := 0 } : Room).slots) := by
  refine MetFree.of_bodySF (plainFor_of_name pn_1) hisR ?_
  intro p e s m args below meth c s₁ Bd hml0 hP hK
  obtain ⟨rfl, hZ, hh⟩ := hP
  have hVV : ∀ (i : Nat) (d : Jvm.Cond), tables_1[i]? = some d → d.before a0 Z = true := fun i d h => hw d (List.mem_of_getElem? h)
  have hx := Bd.exec
  have hby := Bd.bytes
  have hml : c.maxLocals = 3 := hml0
  have hown : s.vm.findClass "com/example/regista/regista/ValuationsNextPinLaw" = some m.cls := findClass_of_methodNamed Bd.named
  have hnm := (name_of_methodNamed Bd.named Bd.method).1
  have X0 : Stand p l e ({ frames := 0, cells := 0, slots := 0, locals := 0 } : Room) s m #[(.ref a1_0), (.int p1_1), (.int p1_2)] below meth c s₁ [] 0 0 := Stand.of_body Bd
  have e0 : s₁.heap = h0 := by rw [← hh, Bd.state]; rfl
  have N0 := Fr.nil n0
  have pre0 : ∀ t, Steps p.tables e below (s₁.setTop (mkF m 0 #[.val (.ref a1_0), .val (.int p1_1), .val (.int p1_2)] [])) t → Steps p.tables e below (s₁.setTop (entryFrame m #[(.ref a1_0), (.int p1_1), (.int p1_2)] 3)) t := fun t k => castTop (ef_1 m a1_0 p1_1 p1_2) k
  obtain ⟨cl1, Ar1, q1, S1, N1, H1, G1⟩ := id VA
  have pre4 : ∀ t, Steps p.tables e below (s₁.setTop (mkF m 13 #[.val (.ref a1_0), .val (.int p1_1), .val (.int p1_2)] [(.int ((p1_2 >>> (p1_1 &&& 31)) &&& (1 : Int32))), (.int p1_1), (.ref a1_0)])) t → Steps p.tables e below (s₁.setTop (entryFrame m #[(.ref a1_0), (.int p1_1), (.int p1_2)] 3)) t := fun t k => pre0 t (by
    show Steps p.tables e below (s₁.setTop (mkF m 0 #[.val (.ref a1_0), .val (.int p1_1), .val (.int p1_2)] [])) _
    refine XS.iloadN X0.here hx rfl (hb hby d1_0) rfl ?_
    refine XS.aloadN X0.here hx rfl (hb hby d1_1) rfl rfl ?_
    show Steps p.tables e below (s₁.setTop (mkF m 2 #[.val (.ref a1_0), .val (.int p1_1), .val (.int p1_2)] [(.ref a1_0), (.int p1_1)])) _
    refine X0.arraylength hx (by rw [e0]; exact Ar1.1) (State.isArrayOf_alike hZ.alike Ar1.2.1) (g := (mkF m 2 #[.val (.ref a1_0), .val (.int p1_1), .val (.int p1_2)] [(.ref a1_0), (.int p1_1)])) rfl rfl (hb hby d1_2) _ ?_
    rw [len_of S1 N1]
    show Steps p.tables e below (s₁.setTop (mkF m 3 #[.val (.ref a1_0), .val (.int p1_1), .val (.int p1_2)] [(.int zz), (.int p1_1)])) _
    refine XS.icmpNo X0.here hx rfl (hb hby d1_3) rfl (tlt hp1_3).2.1 ?_
    show Steps p.tables e below (s₁.setTop (mkF m 6 #[.val (.ref a1_0), .val (.int p1_1), .val (.int p1_2)] [])) _
    refine XS.aloadN X0.here hx rfl (hb hby d1_6) rfl rfl ?_
    refine XS.iloadN X0.here hx rfl (hb hby d1_7) rfl ?_
    refine XS.iloadN X0.here hx rfl (hb hby d1_8) rfl ?_
    refine XS.iloadN X0.here hx rfl (hb hby d1_9) rfl ?_
    show Steps p.tables e below (s₁.setTop (mkF m 10 #[.val (.ref a1_0), .val (.int p1_1), .val (.int p1_2)] [(.int p1_1), (.int p1_2), (.int p1_1), (.ref a1_0)])) _
    refine XS.ishr X0.here hx rfl (hb hby d1_10) rfl ?_
    show Steps p.tables e below (s₁.setTop (mkF m 11 #[.val (.ref a1_0), .val (.int p1_1), .val (.int p1_2)] [(.int (p1_2 >>> (p1_1 &&& 31))), (.int p1_1), (.ref a1_0)])) _
    refine XS.iconst X0.here hx rfl (hb hby d1_11) ?_
    refine XS.iand X0.here hx rfl (hb hby d1_12) rfl ?_
    exact k)
  have pre5 : ∀ t, Steps p.tables e below (s₁.setTop (mkF m 21 #[.val (.ref a1_0), .val (.int p1_1), .val (.int p1_2)] [(.int (bI (¬ (((p1_2 >>> (p1_1 &&& 31)) &&& (1 : Int32)) = (0 : Int32))))), (.int p1_1), (.ref a1_0)])) t → Steps p.tables e below (s₁.setTop (entryFrame m #[(.ref a1_0), (.int p1_1), (.int p1_2)] 3)) t := fun t k => pre4 t (by
    by_cases hc3 : ((p1_2 >>> (p1_1 &&& 31)) &&& (1 : Int32)) = (0 : Int32)
    · show Steps p.tables e below (s₁.setTop (mkF m 13 #[.val (.ref a1_0), .val (.int p1_1), .val (.int p1_2)] [(.int ((p1_2 >>> (p1_1 &&& 31)) &&& (1 : Int32))), (.int p1_1), (.ref a1_0)])) _
      refine XS.ifYes X0.here hx rfl (pc0 := 13) (pc' := 20) rfl (hb hby d1_13) rfl ((if0 _ _).trans (teq hc3).1) (by decide) (by decide) ?_
      show Steps p.tables e below (s₁.setTop (mkF m 20 #[.val (.ref a1_0), .val (.int p1_1), .val (.int p1_2)] [(.int p1_1), (.ref a1_0)])) _
      refine XS.iconst X0.here hx rfl (hb hby d1_20) ?_
      have q6 : (bI (¬ (((p1_2 >>> (p1_1 &&& 31)) &&& (1 : Int32)) = (0 : Int32)))) = (0 : Int32) := (bI_f (fun q => q hc3))
      exact castTop (g := (mkF m 21 #[.val (.ref a1_0), .val (.int p1_1), .val (.int p1_2)] [(.int (0 : Int32)), (.int p1_1), (.ref a1_0)])) (g' := (mkF m 21 #[.val (.ref a1_0), .val (.int p1_1), .val (.int p1_2)] [(.int (bI (¬ (((p1_2 >>> (p1_1 &&& 31)) &&& (1 : Int32)) = (0 : Int32))))), (.int p1_1), (.ref a1_0)])) (by simp only [q6]) k
    · show Steps p.tables e below (s₁.setTop (mkF m 13 #[.val (.ref a1_0), .val (.int p1_1), .val (.int p1_2)] [(.int ((p1_2 >>> (p1_1 &&& 31)) &&& (1 : Int32))), (.int p1_1), (.ref a1_0)])) _
      refine XS.ifNo X0.here hx rfl (hb hby d1_13) rfl ((if0 _ _).trans (feq hc3).1) ?_
      show Steps p.tables e below (s₁.setTop (mkF m 16 #[.val (.ref a1_0), .val (.int p1_1), .val (.int p1_2)] [(.int p1_1), (.ref a1_0)])) _
      refine XS.iconst X0.here hx rfl (hb hby d1_16) ?_
      show Steps p.tables e below (s₁.setTop (mkF m 17 #[.val (.ref a1_0), .val (.int p1_1), .val (.int p1_2)] [(.int (1 : Int32)), (.int p1_1), (.ref a1_0)])) _
      refine XS.goto X0.here hx rfl (pc0 := 17) (pc' := 21) rfl (hb hby d1_17) (by decide) (by decide) ?_
      have q7 : (bI (¬ (((p1_2 >>> (p1_1 &&& 31)) &&& (1 : Int32)) = (0 : Int32)))) = (1 : Int32) := (bI_t hc3)
      exact castTop (g := (mkF m 21 #[.val (.ref a1_0), .val (.int p1_1), .val (.int p1_2)] [(.int (1 : Int32)), (.int p1_1), (.ref a1_0)])) (g' := (mkF m 21 #[.val (.ref a1_0), .val (.int p1_1), .val (.int p1_2)] [(.int (bI (¬ (((p1_2 >>> (p1_1 &&& 31)) &&& (1 : Int32)) = (0 : Int32))))), (.int p1_1), (.ref a1_0)])) (by simp only [q7]) k)
  obtain ⟨cl8, Ar8, q8, S8, N8, H8, G8⟩ := id VA
  have hin8 : ¬ (p1_1 < 0 ∨ cl8.slots.size ≤ (p1_1).toNatClampNeg) := inb_of S8 ⟨hge, hp1_3⟩
  obtain ⟨T8, h8, X8, e8, W8, st8⟩ := stZ X0 hx hZ e0 Ar8 (j := p1_1) hin8 (g := (mkF m 21 #[.val (.ref a1_0), .val (.int p1_1), .val (.int p1_2)] [(.int (bI (¬ (((p1_2 >>> (p1_1 &&& 31)) &&& (1 : Int32)) = (0 : Int32))))), (.int p1_1), (.ref a1_0)])) rfl rfl (hb hby d1_21)
  have VV := Arv.set Ar8 q8 S8 N8 H8 G8 (fits_nar_bool _) W8 _ rfl hlen
  rw [bI_nar] at VV
  have pre9 : ∀ t, Steps p.tables e below (T8.setTop (mkF m 22 #[.val (.ref a1_0), .val (.int p1_1), .val (.int p1_2)] [])) t → Steps p.tables e below (s₁.setTop (entryFrame m #[(.ref a1_0), (.int p1_1), (.int p1_2)] 3)) t := fun t k => pre5 t (by
    show Steps p.tables e below (s₁.setTop (mkF m 21 #[.val (.ref a1_0), .val (.int p1_1), .val (.int p1_2)] [(.int (bI (¬ (((p1_2 >>> (p1_1 &&& 31)) &&& (1 : Int32)) = (0 : Int32))))), (.int p1_1), (.ref a1_0)])) _
    refine st8 _ ?_
    exact k)
  have z10 := Nat.le_trans Z0 (Keep.of_wr W8).1
  have k11 := (Keep.refl h0 [a1_0]).wr W8 (Or.inl (List.mem_of_getElem? (i := 0) rfl))
  have N12 := Fr.snoc X8 N0 g_a1_0
  obtain ⟨fs, hr, hrun, hended, hW, hsame⟩ := X8.leave (v := none) (fun _ => rfl)
  refine ⟨_, _, pre9 _ ?_, hrun, hended, _, _, rfl, ?_, ⟨_, rfl⟩, hW, hsame.mono (by decide) (by decide)⟩
  · show Steps p.tables e below (T8.setTop (mkF m 22 #[.val (.ref a1_0), .val (.int p1_1), .val (.int p1_2)] [])) _
    exact X8.returnOut hx Bd.returns (hb hby d1_22) hr
  · show Q1_i Z a1_0 p1_1 p1_2 ka zz vs h0 n0 _ T8.heap _
    rw [e8]
    exact ⟨rfl, N12, k11, VV⟩
def Q1_o (Z : State) (a1_0 : Addr) (p1_1 : Int32) (p1_2 : Int32) (ka : ClassId) (zz : Int32) (vs : List Value) (h0 : Heap) (n0 : Nat) (v : Option Value) (h : Heap) (L : List Loc) : Prop := v = none ∧ Fr n0 L ∧ h = h0
set_option maxRecDepth 65536 in
set_option maxHeartbeats 40000000 in
theorem rm1_o (l : Launch) (Z : State) (a0 : Array Value) (hw : ∀ d ∈ tables_1, d.before a0 Z = true) (ws : List Jvm.Cond) (a1_0 : Addr) (p1_1 : Int32) (p1_2 : Int32) (ka : ClassId) (zz : Int32) (vs : List Value) (h0 : Heap) (n0 : Nat) (Z0 : n0 ≤ h0.size) (VA : Arv Z h0 a1_0 ka .boolean zz vs (.int (0 : Int32))) (hp1_3 : ¬ (p1_1 < zz)) :
    MetFree l mn0 (head1 (Jvm.Cond.code mn0 method_3_code 3 none :: ws) ({ frames := 0, cells := 0, slots := 0, locals := 0 } : Room)) (fun a U => a = #[(.ref a1_0), (.int p1_1), (.int p1_2)] ∧ Z.Warmed39 U.vm ∧ U.heap = h0) (fun _ _ _ _ _ => True) (fun _ U o U' => ∃ v L, o = .returned v ∧ Q1_o Z a1_0 p1_1 p1_2 ka zz vs h0 n0 v U'.heap L ∧ FrameEnd U o U' L ({ frames := 0, cells := 0, slots := 0, locals := 0 } : Room).cells ({ frames := 0, cells := 0, slots := 0, locals := 0 } : Room).slots) := by
  refine MetFree.of_bodySF (plainFor_of_name pn_1) hisR ?_
  intro p e s m args below meth c s₁ Bd hml0 hP hK
  obtain ⟨rfl, hZ, hh⟩ := hP
  have hVV : ∀ (i : Nat) (d : Jvm.Cond), tables_1[i]? = some d → d.before a0 Z = true := fun i d h => hw d (List.mem_of_getElem? h)
  have hx := Bd.exec
  have hby := Bd.bytes
  have hml : c.maxLocals = 3 := hml0
  have hown : s.vm.findClass "com/example/regista/regista/ValuationsNextPinLaw" = some m.cls := findClass_of_methodNamed Bd.named
  have hnm := (name_of_methodNamed Bd.named Bd.method).1
  have X0 : Stand p l e ({ frames := 0, cells := 0, slots := 0, locals := 0 } : Room) s m #[(.ref a1_0), (.int p1_1), (.int p1_2)] below meth c s₁ [] 0 0 := Stand.of_body Bd
  have e0 : s₁.heap = h0 := by rw [← hh, Bd.state]; rfl
  have N0 := Fr.nil n0
  have pre0 : ∀ t, Steps p.tables e below (s₁.setTop (mkF m 0 #[.val (.ref a1_0), .val (.int p1_1), .val (.int p1_2)] [])) t → Steps p.tables e below (s₁.setTop (entryFrame m #[(.ref a1_0), (.int p1_1), (.int p1_2)] 3)) t := fun t k => castTop (ef_1 m a1_0 p1_1 p1_2) k
  obtain ⟨cl1, Ar1, q1, S1, N1, H1, G1⟩ := id VA
  obtain ⟨fs, hr, hrun, hended, hW, hsame⟩ := X0.leave (v := none) (fun _ => rfl)
  refine ⟨_, _, pre0 _ ?_, hrun, hended, _, _, rfl, ?_, ⟨_, rfl⟩, hW, hsame.mono (by decide) (by decide)⟩
  · show Steps p.tables e below (s₁.setTop (mkF m 0 #[.val (.ref a1_0), .val (.int p1_1), .val (.int p1_2)] [])) _
    refine XS.iloadN X0.here hx rfl (hb hby d1_0) rfl ?_
    refine XS.aloadN X0.here hx rfl (hb hby d1_1) rfl rfl ?_
    show Steps p.tables e below (s₁.setTop (mkF m 2 #[.val (.ref a1_0), .val (.int p1_1), .val (.int p1_2)] [(.ref a1_0), (.int p1_1)])) _
    refine X0.arraylength hx (by rw [e0]; exact Ar1.1) (State.isArrayOf_alike hZ.alike Ar1.2.1) (g := (mkF m 2 #[.val (.ref a1_0), .val (.int p1_1), .val (.int p1_2)] [(.ref a1_0), (.int p1_1)])) rfl rfl (hb hby d1_2) _ ?_
    rw [len_of S1 N1]
    show Steps p.tables e below (s₁.setTop (mkF m 3 #[.val (.ref a1_0), .val (.int p1_1), .val (.int p1_2)] [(.int zz), (.int p1_1)])) _
    refine XS.icmpYes X0.here hx rfl (pc0 := 3) (pc' := 22) rfl (hb hby d1_3) rfl (flt hp1_3).2.1 (by decide) (by decide) ?_
    show Steps p.tables e below (s₁.setTop (mkF m 22 #[.val (.ref a1_0), .val (.int p1_1), .val (.int p1_2)] [])) _
    exact X0.returnOut hx Bd.returns (hb hby d1_22) hr
  · show Q1_o Z a1_0 p1_1 p1_2 ka zz vs h0 n0 _ s₁.heap _
    rw [e0]
    exact ⟨rfl, N0, rfl⟩
abbrev mn1 : MethodName := ⟨"com/example/regista/regista/ValuationsNextPinLaw", "bit", "([ZI)I"⟩
theorem d3_0 : decode method_4_code 0 = .ok (.iload_n 1, 1) := by decide +kernel
theorem d3_1 : decode method_4_code 1 = .ok (.aload_n 0, 1) := by decide +kernel
theorem d3_2 : decode method_4_code 2 = .ok (.arraylength, 1) := by decide +kernel
theorem d3_3 : decode method_4_code 3 = .ok (.if_icmp .ge 13, 3) := by decide +kernel
theorem d3_6 : decode method_4_code 6 = .ok (.aload_n 0, 1) := by decide +kernel
theorem d3_7 : decode method_4_code 7 = .ok (.iload_n 1, 1) := by decide +kernel
theorem d3_8 : decode method_4_code 8 = .ok (.baload, 1) := by decide +kernel
theorem d3_9 : decode method_4_code 9 = .ok (.ifCond .eq 7, 3) := by decide +kernel
theorem d3_12 : decode method_4_code 12 = .ok (.iconst 1, 1) := by decide +kernel
theorem d3_13 : decode method_4_code 13 = .ok (.iload_n 1, 1) := by decide +kernel
theorem d3_14 : decode method_4_code 14 = .ok (.ishl, 1) := by decide +kernel
theorem d3_15 : decode method_4_code 15 = .ok (.ireturn, 1) := by decide +kernel
theorem d3_16 : decode method_4_code 16 = .ok (.iconst 0, 1) := by decide +kernel
theorem d3_17 : decode method_4_code 17 = .ok (.ireturn, 1) := by decide +kernel
theorem pn_3 : plainName "com/example/regista/regista/ValuationsNextPinLaw" = true := by first | (simp [plainName, overriddenIn]; done) | decide +kernel
theorem ef_3 (m : MethodId) (x0 : Addr) (x1 : Int32) : entryFrame m #[(.ref x0), (.int x1)] 2 = mkF m 0 #[.val (.ref x0), .val (.int x1)] [] := by first | (simp [entryFrame, mkF, argsToLocals, Value.category]; done) | rfl
def Q3_i (Z : State) (a3_0 : Addr) (p3_1 : Int32) (ka : ClassId) (zz : Int32) (vs : List Value) (ww : Int32) (h0 : Heap) (n0 : Nat) (v : Option Value) (h : Heap) (L : List Loc) : Prop := v = some (.int (if ww = (0 : Int32) then (0 : Int32) else ((1 : Int32) <<< (p3_1 &&& 31)))) ∧ Fr n0 L ∧ h = h0
set_option maxRecDepth 65536 in
set_option maxHeartbeats 40000000 in
theorem rm3_i (l : Launch) (Z : State) (a0 : Array Value) (hw : ∀ d ∈ tables_1, d.before a0 Z = true) (ws : List Jvm.Cond) (a3_0 : Addr) (p3_1 : Int32) (ka : ClassId) (zz : Int32) (vs : List Value) (ww : Int32) (h0 : Heap) (n0 : Nat) (Z0 : n0 ≤ h0.size) (VA : Arv Z h0 a3_0 ka .boolean zz vs (.int (0 : Int32))) (hge : ¬ p3_1 < 0) (hget : vs.getD (p3_1).toNatClampNeg (.int (0 : Int32)) = (.int ww)) (hp3_3 : p3_1 < zz) :
    MetFree l mn1 (head1 (Jvm.Cond.code mn1 method_4_code 2 (some .int) :: ws) ({ frames := 0, cells := 0, slots := 0, locals := 0 } : Room)) (fun a U => a = #[(.ref a3_0), (.int p3_1)] ∧ Z.Warmed39 U.vm ∧ U.heap = h0) (fun _ _ _ _ _ => True) (fun _ U o U' => ∃ v L, o = .returned v ∧ Q3_i Z a3_0 p3_1 ka zz vs ww h0 n0 v U'.heap L ∧ FrameEnd U o U' L ({ frames := 0, cells := 0, slots := 0, locals := 0 } : Room).cells ({ frames := 0, cells := 0, slots := 0, locals := 0 } : Room).slots) := by
  refine MetFree.of_bodySF (plainFor_of_name pn_3) hisR ?_
  intro p e s m args below meth c s₁ Bd hml0 hP hK
  obtain ⟨rfl, hZ, hh⟩ := hP
  have hVV : ∀ (i : Nat) (d : Jvm.Cond), tables_1[i]? = some d → d.before a0 Z = true := fun i d h => hw d (List.mem_of_getElem? h)
  have hx := Bd.exec
  have hby := Bd.bytes
  have hml : c.maxLocals = 2 := hml0
  have hown : s.vm.findClass "com/example/regista/regista/ValuationsNextPinLaw" = some m.cls := findClass_of_methodNamed Bd.named
  have hnm := (name_of_methodNamed Bd.named Bd.method).1
  have X0 : Stand p l e ({ frames := 0, cells := 0, slots := 0, locals := 0 } : Room) s m #[(.ref a3_0), (.int p3_1)] below meth c s₁ [] 0 0 := Stand.of_body Bd
  have e0 : s₁.heap = h0 := by rw [← hh, Bd.state]; rfl
  have N0 := Fr.nil n0
  have pre0 : ∀ t, Steps p.tables e below (s₁.setTop (mkF m 0 #[.val (.ref a3_0), .val (.int p3_1)] [])) t → Steps p.tables e below (s₁.setTop (entryFrame m #[(.ref a3_0), (.int p3_1)] 2)) t := fun t k => castTop (ef_3 m a3_0 p3_1) k
  obtain ⟨cl1, Ar1, q1, S1, N1, H1, G1⟩ := id VA
  obtain ⟨cl2, Ar2, q2, S2, N2, H2, G2⟩ := id VA
  have hin2 : ¬ (p3_1 < 0 ∨ cl2.slots.size ≤ (p3_1).toNatClampNeg) := inb_of S2 ⟨hge, hp3_3⟩
  have hat2 := Has.at H2 hin2 hget
  by_cases hc3 : ww = (0 : Int32)
  · obtain ⟨fs, hr, hrun, hended, hW, hsame⟩ := X0.leave (v := some (.int (0 : Int32))) (fun h => by rw [Bd.returns] at h; cases h)
    refine ⟨_, _, pre0 _ ?_, hrun, hended, _, _, rfl, ?_, ⟨_, rfl⟩, hW, hsame.mono (by decide) (by decide)⟩
    · show Steps p.tables e below (s₁.setTop (mkF m 0 #[.val (.ref a3_0), .val (.int p3_1)] [])) _
      refine XS.iloadN X0.here hx rfl (hb hby d3_0) rfl ?_
      refine XS.aloadN X0.here hx rfl (hb hby d3_1) rfl rfl ?_
      show Steps p.tables e below (s₁.setTop (mkF m 2 #[.val (.ref a3_0), .val (.int p3_1)] [(.ref a3_0), (.int p3_1)])) _
      refine X0.arraylength hx (by rw [e0]; exact Ar1.1) (State.isArrayOf_alike hZ.alike Ar1.2.1) (g := (mkF m 2 #[.val (.ref a3_0), .val (.int p3_1)] [(.ref a3_0), (.int p3_1)])) rfl rfl (hb hby d3_2) _ ?_
      rw [len_of S1 N1]
      show Steps p.tables e below (s₁.setTop (mkF m 3 #[.val (.ref a3_0), .val (.int p3_1)] [(.int zz), (.int p3_1)])) _
      refine XS.icmpNo X0.here hx rfl (hb hby d3_3) rfl (tlt hp3_3).2.1 ?_
      show Steps p.tables e below (s₁.setTop (mkF m 6 #[.val (.ref a3_0), .val (.int p3_1)] [])) _
      refine XS.aloadN X0.here hx rfl (hb hby d3_6) rfl rfl ?_
      refine XS.iloadN X0.here hx rfl (hb hby d3_7) rfl ?_
      show Steps p.tables e below (s₁.setTop (mkF m 8 #[.val (.ref a3_0), .val (.int p3_1)] [(.int p3_1), (.ref a3_0)])) _
      refine X0.baloadBooleans hx (j := p3_1) (v := (.int ww)) (by rw [e0]; exact Ar2.1) (State.isArrayOf_alike hZ.alike Ar2.2.1) Ar2.2.2 hin2 hat2 (g := (mkF m 8 #[.val (.ref a3_0), .val (.int p3_1)] [(.int p3_1), (.ref a3_0)])) rfl rfl (hb hby d3_8) _ ?_
      show Steps p.tables e below (s₁.setTop (mkF m 9 #[.val (.ref a3_0), .val (.int p3_1)] [(.int ww)])) _
      refine XS.ifYes X0.here hx rfl (pc0 := 9) (pc' := 16) rfl (hb hby d3_9) rfl ((if0 _ _).trans (teq hc3).1) (by decide) (by decide) ?_
      show Steps p.tables e below (s₁.setTop (mkF m 16 #[.val (.ref a3_0), .val (.int p3_1)] [])) _
      refine XS.iconst X0.here hx rfl (hb hby d3_16) ?_
      show Steps p.tables e below (s₁.setTop (mkF m 17 #[.val (.ref a3_0), .val (.int p3_1)] [(.int (0 : Int32))])) _
      exact retI X0 hx Bd.returns (hb hby d3_17) hr
    · show Q3_i Z a3_0 p3_1 ka zz vs ww h0 n0 _ s₁.heap _
      rw [e0]
      exact ⟨(congrArg (fun z => some (Value.int z)) ((if_pos hc3) : (if ww = (0 : Int32) then (0 : Int32) else ((1 : Int32) <<< (p3_1 &&& 31))) = (0 : Int32)).symm), N0, rfl⟩
  obtain ⟨fs, hr, hrun, hended, hW, hsame⟩ := X0.leave (v := some (.int ((1 : Int32) <<< (p3_1 &&& 31)))) (fun h => by rw [Bd.returns] at h; cases h)
  refine ⟨_, _, pre0 _ ?_, hrun, hended, _, _, rfl, ?_, ⟨_, rfl⟩, hW, hsame.mono (by decide) (by decide)⟩
  · show Steps p.tables e below (s₁.setTop (mkF m 0 #[.val (.ref a3_0), .val (.int p3_1)] [])) _
    refine XS.iloadN X0.here hx rfl (hb hby d3_0) rfl ?_
    refine XS.aloadN X0.here hx rfl (hb hby d3_1) rfl rfl ?_
    show Steps p.tables e below (s₁.setTop (mkF m 2 #[.val (.ref a3_0), .val (.int p3_1)] [(.ref a3_0), (.int p3_1)])) _
    refine X0.arraylength hx (by rw [e0]; exact Ar1.1) (State.isArrayOf_alike hZ.alike Ar1.2.1) (g := (mkF m 2 #[.val (.ref a3_0), .val (.int p3_1)] [(.ref a3_0), (.int p3_1)])) rfl rfl (hb hby d3_2) _ ?_
    rw [len_of S1 N1]
    show Steps p.tables e below (s₁.setTop (mkF m 3 #[.val (.ref a3_0), .val (.int p3_1)] [(.int zz), (.int p3_1)])) _
    refine XS.icmpNo X0.here hx rfl (hb hby d3_3) rfl (tlt hp3_3).2.1 ?_
    show Steps p.tables e below (s₁.setTop (mkF m 6 #[.val (.ref a3_0), .val (.int p3_1)] [])) _
    refine XS.aloadN X0.here hx rfl (hb hby d3_6) rfl rfl ?_
    refine XS.iloadN X0.here hx rfl (hb hby d3_7) rfl ?_
    show Steps p.tables e below (s₁.setTop (mkF m 8 #[.val (.ref a3_0), .val (.int p3_1)] [(.int p3_1), (.ref a3_0)])) _
    refine X0.baloadBooleans hx (j := p3_1) (v := (.int ww)) (by rw [e0]; exact Ar2.1) (State.isArrayOf_alike hZ.alike Ar2.2.1) Ar2.2.2 hin2 hat2 (g := (mkF m 8 #[.val (.ref a3_0), .val (.int p3_1)] [(.int p3_1), (.ref a3_0)])) rfl rfl (hb hby d3_8) _ ?_
    show Steps p.tables e below (s₁.setTop (mkF m 9 #[.val (.ref a3_0), .val (.int p3_1)] [(.int ww)])) _
    refine XS.ifNo X0.here hx rfl (hb hby d3_9) rfl ((if0 _ _).trans (feq hc3).1) ?_
    show Steps p.tables e below (s₁.setTop (mkF m 12 #[.val (.ref a3_0), .val (.int p3_1)] [])) _
    refine XS.iconst X0.here hx rfl (hb hby d3_12) ?_
    refine XS.iloadN X0.here hx rfl (hb hby d3_13) rfl ?_
    show Steps p.tables e below (s₁.setTop (mkF m 14 #[.val (.ref a3_0), .val (.int p3_1)] [(.int p3_1), (.int (1 : Int32))])) _
    refine XS.ishl X0.here hx rfl (hb hby d3_14) rfl ?_
    show Steps p.tables e below (s₁.setTop (mkF m 15 #[.val (.ref a3_0), .val (.int p3_1)] [(.int ((1 : Int32) <<< (p3_1 &&& 31)))])) _
    exact retI X0 hx Bd.returns (hb hby d3_15) hr
  · show Q3_i Z a3_0 p3_1 ka zz vs ww h0 n0 _ s₁.heap _
    rw [e0]
    exact ⟨(congrArg (fun z => some (Value.int z)) ((if_neg hc3) : (if ww = (0 : Int32) then (0 : Int32) else ((1 : Int32) <<< (p3_1 &&& 31))) = ((1 : Int32) <<< (p3_1 &&& 31))).symm), N0, rfl⟩
def Q3_o (Z : State) (a3_0 : Addr) (p3_1 : Int32) (ka : ClassId) (zz : Int32) (vs : List Value) (h0 : Heap) (n0 : Nat) (v : Option Value) (h : Heap) (L : List Loc) : Prop := v = some (.int (0 : Int32)) ∧ Fr n0 L ∧ h = h0
set_option maxRecDepth 65536 in
set_option maxHeartbeats 40000000 in
theorem rm3_o (l : Launch) (Z : State) (a0 : Array Value) (hw : ∀ d ∈ tables_1, d.before a0 Z = true) (ws : List Jvm.Cond) (a3_0 : Addr) (p3_1 : Int32) (ka : ClassId) (zz : Int32) (vs : List Value) (h0 : Heap) (n0 : Nat) (Z0 : n0 ≤ h0.size) (VA : Arv Z h0 a3_0 ka .boolean zz vs (.int (0 : Int32))) (hp3_3 : ¬ (p3_1 < zz)) :
    MetFree l mn1 (head1 (Jvm.Cond.code mn1 method_4_code 2 (some .int) :: ws) ({ frames := 0, cells := 0, slots := 0, locals := 0 } : Room)) (fun a U => a = #[(.ref a3_0), (.int p3_1)] ∧ Z.Warmed39 U.vm ∧ U.heap = h0) (fun _ _ _ _ _ => True) (fun _ U o U' => ∃ v L, o = .returned v ∧ Q3_o Z a3_0 p3_1 ka zz vs h0 n0 v U'.heap L ∧ FrameEnd U o U' L ({ frames := 0, cells := 0, slots := 0, locals := 0 } : Room).cells ({ frames := 0, cells := 0, slots := 0, locals := 0 } : Room).slots) := by
  refine MetFree.of_bodySF (plainFor_of_name pn_3) hisR ?_
  intro p e s m args below meth c s₁ Bd hml0 hP hK
  obtain ⟨rfl, hZ, hh⟩ := hP
  have hVV : ∀ (i : Nat) (d : Jvm.Cond), tables_1[i]? = some d → d.before a0 Z = true := fun i d h => hw d (List.mem_of_getElem? h)
  have hx := Bd.exec
  have hby := Bd.bytes
  have hml : c.maxLocals = 2 := hml0
  have hown : s.vm.findClass "com/example/regista/regista/ValuationsNextPinLaw" = some m.cls := findClass_of_methodNamed Bd.named
  have hnm := (name_of_methodNamed Bd.named Bd.method).1
  have X0 : Stand p l e ({ frames := 0, cells := 0, slots := 0, locals := 0 } : Room) s m #[(.ref a3_0), (.int p3_1)] below meth c s₁ [] 0 0 := Stand.of_body Bd
  have e0 : s₁.heap = h0 := by rw [← hh, Bd.state]; rfl
  have N0 := Fr.nil n0
  have pre0 : ∀ t, Steps p.tables e below (s₁.setTop (mkF m 0 #[.val (.ref a3_0), .val (.int p3_1)] [])) t → Steps p.tables e below (s₁.setTop (entryFrame m #[(.ref a3_0), (.int p3_1)] 2)) t := fun t k => castTop (ef_3 m a3_0 p3_1) k
  obtain ⟨cl1, Ar1, q1, S1, N1, H1, G1⟩ := id VA
  obtain ⟨fs, hr, hrun, hended, hW, hsame⟩ := X0.leave (v := some (.int (0 : Int32))) (fun h => by rw [Bd.returns] at h; cases h)
  refine ⟨_, _, pre0 _ ?_, hrun, hended, _, _, rfl, ?_, ⟨_, rfl⟩, hW, hsame.mono (by decide) (by decide)⟩
  · show Steps p.tables e below (s₁.setTop (mkF m 0 #[.val (.ref a3_0), .val (.int p3_1)] [])) _
    refine XS.iloadN X0.here hx rfl (hb hby d3_0) rfl ?_
    refine XS.aloadN X0.here hx rfl (hb hby d3_1) rfl rfl ?_
    show Steps p.tables e below (s₁.setTop (mkF m 2 #[.val (.ref a3_0), .val (.int p3_1)] [(.ref a3_0), (.int p3_1)])) _
    refine X0.arraylength hx (by rw [e0]; exact Ar1.1) (State.isArrayOf_alike hZ.alike Ar1.2.1) (g := (mkF m 2 #[.val (.ref a3_0), .val (.int p3_1)] [(.ref a3_0), (.int p3_1)])) rfl rfl (hb hby d3_2) _ ?_
    rw [len_of S1 N1]
    show Steps p.tables e below (s₁.setTop (mkF m 3 #[.val (.ref a3_0), .val (.int p3_1)] [(.int zz), (.int p3_1)])) _
    refine XS.icmpYes X0.here hx rfl (pc0 := 3) (pc' := 16) rfl (hb hby d3_3) rfl (flt hp3_3).2.1 (by decide) (by decide) ?_
    show Steps p.tables e below (s₁.setTop (mkF m 16 #[.val (.ref a3_0), .val (.int p3_1)] [])) _
    refine XS.iconst X0.here hx rfl (hb hby d3_16) ?_
    show Steps p.tables e below (s₁.setTop (mkF m 17 #[.val (.ref a3_0), .val (.int p3_1)] [(.int (0 : Int32))])) _
    exact retI X0 hx Bd.returns (hb hby d3_17) hr
  · show Q3_o Z a3_0 p3_1 ka zz vs h0 n0 _ s₁.heap _
    rw [e0]
    exact ⟨rfl, N0, rfl⟩
abbrev mn2 : MethodName := ⟨"com/example/regista/regista/Valuations", "next", "([Z)Z"⟩
theorem d2_0 : decode prog_101_method_2_code 0 = .ok (.iconst 0, 1) := by decide +kernel
theorem d2_1 : decode prog_101_method_2_code 1 = .ok (.istore_n 1, 1) := by decide +kernel
theorem d2_2 : decode prog_101_method_2_code 2 = .ok (.iload_n 1, 1) := by decide +kernel
theorem d2_3 : decode prog_101_method_2_code 3 = .ok (.aload_n 0, 1) := by decide +kernel
theorem d2_4 : decode prog_101_method_2_code 4 = .ok (.arraylength, 1) := by decide +kernel
theorem d2_5 : decode prog_101_method_2_code 5 = .ok (.if_icmp .ge 31, 3) := by decide +kernel
theorem d2_36 : decode prog_101_method_2_code 36 = .ok (.iconst 0, 1) := by decide +kernel
theorem d2_37 : decode prog_101_method_2_code 37 = .ok (.ireturn, 1) := by decide +kernel
theorem pn_2 : plainName "com/example/regista/regista/Valuations" = true := by first | (simp [plainName, overriddenIn]; done) | decide +kernel
theorem ef_2 (m : MethodId) (x0 : Addr) : entryFrame m #[(.ref x0)] 2 = mkF m 0 #[.val (.ref x0), .unset] [] := by first | (simp [entryFrame, mkF, argsToLocals, Value.category]; done) | rfl
def Q2_0 (Z : State) (a2_0 : Addr) (ka : ClassId) (h0 : Heap) (n0 : Nat) (v : Option Value) (h : Heap) (L : List Loc) : Prop := v = some (.int (0 : Int32)) ∧ Fr n0 L ∧ h = h0
set_option maxRecDepth 65536 in
set_option maxHeartbeats 40000000 in
theorem rm2_0 (l : Launch) (Z : State) (a0 : Array Value) (hw : ∀ d ∈ tables_1, d.before a0 Z = true) (ws : List Jvm.Cond) (a2_0 : Addr) (ka : ClassId) (h0 : Heap) (n0 : Nat) (Z0 : n0 ≤ h0.size) (VA : Arv Z h0 a2_0 ka .boolean (0 : Int32) [] (.int (0 : Int32))) :
    MetFree l mn2 (head1 (Jvm.Cond.code mn2 prog_101_method_2_code 2 (some .boolean) :: ws) ({ frames := 0, cells := 0, slots := 0, locals := 0 } : Room)) (fun a U => a = #[(.ref a2_0)] ∧ Z.Warmed39 U.vm ∧ U.heap = h0) (fun _ _ _ _ _ => True) (fun _ U o U' => ∃ v L, o = .returned v ∧ Q2_0 Z a2_0 ka h0 n0 v U'.heap L ∧ FrameEnd U o U' L ({ frames := 0, cells := 0, slots := 0, locals := 0 } : Room).cells ({ frames := 0, cells := 0, slots := 0, locals := 0 } : Room).slots) := by
  refine MetFree.of_bodySF (plainFor_of_name pn_2) hisR ?_
  intro p e s m args below meth c s₁ Bd hml0 hP hK
  obtain ⟨rfl, hZ, hh⟩ := hP
  have hVV : ∀ (i : Nat) (d : Jvm.Cond), tables_1[i]? = some d → d.before a0 Z = true := fun i d h => hw d (List.mem_of_getElem? h)
  have hx := Bd.exec
  have hby := Bd.bytes
  have hml : c.maxLocals = 2 := hml0
  have hown : s.vm.findClass "com/example/regista/regista/Valuations" = some m.cls := findClass_of_methodNamed Bd.named
  have hnm := (name_of_methodNamed Bd.named Bd.method).1
  have X0 : Stand p l e ({ frames := 0, cells := 0, slots := 0, locals := 0 } : Room) s m #[(.ref a2_0)] below meth c s₁ [] 0 0 := Stand.of_body Bd
  have e0 : s₁.heap = h0 := by rw [← hh, Bd.state]; rfl
  have N0 := Fr.nil n0
  have pre0 : ∀ t, Steps p.tables e below (s₁.setTop (mkF m 0 #[.val (.ref a2_0), .unset] [])) t → Steps p.tables e below (s₁.setTop (entryFrame m #[(.ref a2_0)] 2)) t := fun t k => castTop (ef_2 m a2_0) k
  obtain ⟨cl1, Ar1, q1, S1, N1, H1, G1⟩ := id VA
  obtain ⟨fs, hr, hrun, hended, hW, hsame⟩ := X0.leave (v := some (.int (0 : Int32))) (fun h => by rw [Bd.returns] at h; cases h)
  refine ⟨_, _, pre0 _ ?_, hrun, hended, _, _, rfl, ?_, ⟨_, rfl⟩, hW, hsame.mono (by decide) (by decide)⟩
  · show Steps p.tables e below (s₁.setTop (mkF m 0 #[.val (.ref a2_0), .unset] [])) _
    refine XS.iconst X0.here hx rfl (hb hby d2_0) ?_
    show Steps p.tables e below (s₁.setTop (mkF m 1 #[.val (.ref a2_0), .unset] [(.int (0 : Int32))])) _
    refine XS.istoreN X0.here hx rfl (hb hby d2_1) rfl (l' := #[.val (.ref a2_0), .val (.int (0 : Int32))]) rfl ?_
    show Steps p.tables e below (s₁.setTop (mkF m 2 #[.val (.ref a2_0), .val (.int (0 : Int32))] [])) _
    refine XS.iloadN X0.here hx rfl (hb hby d2_2) rfl ?_
    refine XS.aloadN X0.here hx rfl (hb hby d2_3) rfl rfl ?_
    show Steps p.tables e below (s₁.setTop (mkF m 4 #[.val (.ref a2_0), .val (.int (0 : Int32))] [(.ref a2_0), (.int (0 : Int32))])) _
    refine X0.arraylength hx (by rw [e0]; exact Ar1.1) (State.isArrayOf_alike hZ.alike Ar1.2.1) (g := (mkF m 4 #[.val (.ref a2_0), .val (.int (0 : Int32))] [(.ref a2_0), (.int (0 : Int32))])) rfl rfl (hb hby d2_4) _ ?_
    rw [len_of S1 N1]
    show Steps p.tables e below (s₁.setTop (mkF m 5 #[.val (.ref a2_0), .val (.int (0 : Int32))] [(.int (0 : Int32)), (.int (0 : Int32))])) _
    refine XS.icmpYes X0.here hx rfl (pc0 := 5) (pc' := 36) rfl (hb hby d2_5) rfl (flt (by decide : ¬ ((0 : Int32) < (0 : Int32)))).2.1 (by decide) (by decide) ?_
    show Steps p.tables e below (s₁.setTop (mkF m 36 #[.val (.ref a2_0), .val (.int (0 : Int32))] [])) _
    refine XS.iconst X0.here hx rfl (hb hby d2_36) ?_
    show Steps p.tables e below (s₁.setTop (mkF m 37 #[.val (.ref a2_0), .val (.int (0 : Int32))] [(.int (0 : Int32))])) _
    exact retN X0 hx (t := .boolean) Bd.returns (by simp) (hb hby d2_37) hr
  · show Q2_0 Z a2_0 ka h0 n0 _ s₁.heap _
    rw [e0]
    exact ⟨rfl, N0, rfl⟩
theorem d2_8 : decode prog_101_method_2_code 8 = .ok (.aload_n 0, 1) := by decide +kernel
theorem d2_9 : decode prog_101_method_2_code 9 = .ok (.iload_n 1, 1) := by decide +kernel
theorem d2_10 : decode prog_101_method_2_code 10 = .ok (.aload_n 0, 1) := by decide +kernel
theorem d2_11 : decode prog_101_method_2_code 11 = .ok (.iload_n 1, 1) := by decide +kernel
theorem d2_12 : decode prog_101_method_2_code 12 = .ok (.baload, 1) := by decide +kernel
theorem d2_13 : decode prog_101_method_2_code 13 = .ok (.ifCond .ne 7, 3) := by decide +kernel
theorem d2_16 : decode prog_101_method_2_code 16 = .ok (.iconst 1, 1) := by decide +kernel
theorem d2_17 : decode prog_101_method_2_code 17 = .ok (.goto 4, 3) := by decide +kernel
theorem d2_20 : decode prog_101_method_2_code 20 = .ok (.iconst 0, 1) := by decide +kernel
theorem d2_21 : decode prog_101_method_2_code 21 = .ok (.bastore, 1) := by decide +kernel
theorem d2_22 : decode prog_101_method_2_code 22 = .ok (.aload_n 0, 1) := by decide +kernel
theorem d2_23 : decode prog_101_method_2_code 23 = .ok (.iload_n 1, 1) := by decide +kernel
theorem d2_24 : decode prog_101_method_2_code 24 = .ok (.baload, 1) := by decide +kernel
theorem d2_25 : decode prog_101_method_2_code 25 = .ok (.ifCond .eq 5, 3) := by decide +kernel
theorem d2_28 : decode prog_101_method_2_code 28 = .ok (.iconst 1, 1) := by decide +kernel
theorem d2_29 : decode prog_101_method_2_code 29 = .ok (.ireturn, 1) := by decide +kernel
theorem d2_30 : decode prog_101_method_2_code 30 = .ok (.iinc 1 1, 3) := by decide +kernel
theorem d2_33 : decode prog_101_method_2_code 33 = .ok (.goto (-31), 3) := by decide +kernel
def Q2_1 (Z : State) (a2_0 : Addr) (ka : ClassId) (e0_ : Int32) (h0 : Heap) (n0 : Nat) (v : Option Value) (h : Heap) (L : List Loc) : Prop := v = some (.int (bI (e0_ = (0 : Int32)))) ∧ Fr n0 L ∧ Keep h0 h [a2_0] ∧ Arv Z h a2_0 ka .boolean (1 : Int32) [(.int (bI (e0_ = (0 : Int32))))] (.int (0 : Int32))
set_option maxRecDepth 65536 in
set_option maxHeartbeats 40000000 in
theorem rm2_1 (l : Launch) (Z : State) (a0 : Array Value) (hw : ∀ d ∈ tables_1, d.before a0 Z = true) (ws : List Jvm.Cond) (a2_0 : Addr) (ka : ClassId) (e0_ : Int32) (h0 : Heap) (n0 : Nat) (Z0 : n0 ≤ h0.size) (VA : Arv Z h0 a2_0 ka .boolean (1 : Int32) [(.int e0_)] (.int (0 : Int32))) (g_a2_0 : n0 ≤ a2_0) :
    MetFree l mn2 (head1 (Jvm.Cond.code mn2 prog_101_method_2_code 2 (some .boolean) :: ws) ({ frames := 0, cells := 0, slots := 0, locals := 0 } : Room)) (fun a U => a = #[(.ref a2_0)] ∧ Z.Warmed39 U.vm ∧ U.heap = h0) (fun _ _ _ _ _ => True) (fun _ U o U' => ∃ v L, o = .returned v ∧ Q2_1 Z a2_0 ka e0_ h0 n0 v U'.heap L ∧ FrameEnd U o U' L ({ frames := 0, cells := 0, slots := 0, locals := 0 } : Room).cells ({ frames := 0, cells := 0, slots := 0, locals := 0 } : Room).slots) := by
  refine MetFree.of_bodySF (plainFor_of_name pn_2) hisR ?_
  intro p e s m args below meth c s₁ Bd hml0 hP hK
  obtain ⟨rfl, hZ, hh⟩ := hP
  have hVV : ∀ (i : Nat) (d : Jvm.Cond), tables_1[i]? = some d → d.before a0 Z = true := fun i d h => hw d (List.mem_of_getElem? h)
  have hx := Bd.exec
  have hby := Bd.bytes
  have hml : c.maxLocals = 2 := hml0
  have hown : s.vm.findClass "com/example/regista/regista/Valuations" = some m.cls := findClass_of_methodNamed Bd.named
  have hnm := (name_of_methodNamed Bd.named Bd.method).1
  have X0 : Stand p l e ({ frames := 0, cells := 0, slots := 0, locals := 0 } : Room) s m #[(.ref a2_0)] below meth c s₁ [] 0 0 := Stand.of_body Bd
  have e0 : s₁.heap = h0 := by rw [← hh, Bd.state]; rfl
  have N0 := Fr.nil n0
  have pre0 : ∀ t, Steps p.tables e below (s₁.setTop (mkF m 0 #[.val (.ref a2_0), .unset] [])) t → Steps p.tables e below (s₁.setTop (entryFrame m #[(.ref a2_0)] 2)) t := fun t k => castTop (ef_2 m a2_0) k
  obtain ⟨cl1, Ar1, q1, S1, N1, H1, G1⟩ := id VA
  obtain ⟨cl2, Ar2, q2, S2, N2, H2, G2⟩ := id VA
  have hin2 : ¬ ((0 : Int32) < 0 ∨ cl2.slots.size ≤ ((0 : Int32)).toNatClampNeg) := inb_of S2 ⟨by decide, by decide⟩
  have hat2 : cl2.slots[((0 : Int32)).toNatClampNeg]? = some (.int e0_) := Has.at H2 hin2 rfl
  have pre4 : ∀ t, Steps p.tables e below (s₁.setTop (mkF m 13 #[.val (.ref a2_0), .val (.int (0 : Int32))] [(.int e0_), (.int (0 : Int32)), (.ref a2_0)])) t → Steps p.tables e below (s₁.setTop (entryFrame m #[(.ref a2_0)] 2)) t := fun t k => pre0 t (by
    show Steps p.tables e below (s₁.setTop (mkF m 0 #[.val (.ref a2_0), .unset] [])) _
    refine XS.iconst X0.here hx rfl (hb hby d2_0) ?_
    show Steps p.tables e below (s₁.setTop (mkF m 1 #[.val (.ref a2_0), .unset] [(.int (0 : Int32))])) _
    refine XS.istoreN X0.here hx rfl (hb hby d2_1) rfl (l' := #[.val (.ref a2_0), .val (.int (0 : Int32))]) rfl ?_
    show Steps p.tables e below (s₁.setTop (mkF m 2 #[.val (.ref a2_0), .val (.int (0 : Int32))] [])) _
    refine XS.iloadN X0.here hx rfl (hb hby d2_2) rfl ?_
    refine XS.aloadN X0.here hx rfl (hb hby d2_3) rfl rfl ?_
    show Steps p.tables e below (s₁.setTop (mkF m 4 #[.val (.ref a2_0), .val (.int (0 : Int32))] [(.ref a2_0), (.int (0 : Int32))])) _
    refine X0.arraylength hx (by rw [e0]; exact Ar1.1) (State.isArrayOf_alike hZ.alike Ar1.2.1) (g := (mkF m 4 #[.val (.ref a2_0), .val (.int (0 : Int32))] [(.ref a2_0), (.int (0 : Int32))])) rfl rfl (hb hby d2_4) _ ?_
    rw [len_of S1 N1]
    show Steps p.tables e below (s₁.setTop (mkF m 5 #[.val (.ref a2_0), .val (.int (0 : Int32))] [(.int (1 : Int32)), (.int (0 : Int32))])) _
    refine XS.icmpNo X0.here hx rfl (hb hby d2_5) rfl (tlt (by decide : (0 : Int32) < (1 : Int32))).2.1 ?_
    show Steps p.tables e below (s₁.setTop (mkF m 8 #[.val (.ref a2_0), .val (.int (0 : Int32))] [])) _
    refine XS.aloadN X0.here hx rfl (hb hby d2_8) rfl rfl ?_
    refine XS.iloadN X0.here hx rfl (hb hby d2_9) rfl ?_
    refine XS.aloadN X0.here hx rfl (hb hby d2_10) rfl rfl ?_
    refine XS.iloadN X0.here hx rfl (hb hby d2_11) rfl ?_
    show Steps p.tables e below (s₁.setTop (mkF m 12 #[.val (.ref a2_0), .val (.int (0 : Int32))] [(.int (0 : Int32)), (.ref a2_0), (.int (0 : Int32)), (.ref a2_0)])) _
    refine X0.baloadBooleans hx (j := (0 : Int32)) (v := (.int e0_)) (by rw [e0]; exact Ar2.1) (State.isArrayOf_alike hZ.alike Ar2.2.1) Ar2.2.2 hin2 hat2 (g := (mkF m 12 #[.val (.ref a2_0), .val (.int (0 : Int32))] [(.int (0 : Int32)), (.ref a2_0), (.int (0 : Int32)), (.ref a2_0)])) rfl rfl (hb hby d2_12) _ ?_
    exact k)
  have pre5 : ∀ t, Steps p.tables e below (s₁.setTop (mkF m 21 #[.val (.ref a2_0), .val (.int (0 : Int32))] [(.int (bI (e0_ = (0 : Int32)))), (.int (0 : Int32)), (.ref a2_0)])) t → Steps p.tables e below (s₁.setTop (entryFrame m #[(.ref a2_0)] 2)) t := fun t k => pre4 t (by
    by_cases hc3 : e0_ = (0 : Int32)
    · show Steps p.tables e below (s₁.setTop (mkF m 13 #[.val (.ref a2_0), .val (.int (0 : Int32))] [(.int e0_), (.int (0 : Int32)), (.ref a2_0)])) _
      refine XS.ifNo X0.here hx rfl (hb hby d2_13) rfl ((if0 _ _).trans (teq hc3).2) ?_
      show Steps p.tables e below (s₁.setTop (mkF m 16 #[.val (.ref a2_0), .val (.int (0 : Int32))] [(.int (0 : Int32)), (.ref a2_0)])) _
      refine XS.iconst X0.here hx rfl (hb hby d2_16) ?_
      show Steps p.tables e below (s₁.setTop (mkF m 17 #[.val (.ref a2_0), .val (.int (0 : Int32))] [(.int (1 : Int32)), (.int (0 : Int32)), (.ref a2_0)])) _
      refine XS.goto X0.here hx rfl (pc0 := 17) (pc' := 21) rfl (hb hby d2_17) (by decide) (by decide) ?_
      have q6 : (bI (e0_ = (0 : Int32))) = (1 : Int32) := (bI_t hc3)
      exact castTop (g := (mkF m 21 #[.val (.ref a2_0), .val (.int (0 : Int32))] [(.int (1 : Int32)), (.int (0 : Int32)), (.ref a2_0)])) (g' := (mkF m 21 #[.val (.ref a2_0), .val (.int (0 : Int32))] [(.int (bI (e0_ = (0 : Int32)))), (.int (0 : Int32)), (.ref a2_0)])) (by simp only [q6]) k
    · show Steps p.tables e below (s₁.setTop (mkF m 13 #[.val (.ref a2_0), .val (.int (0 : Int32))] [(.int e0_), (.int (0 : Int32)), (.ref a2_0)])) _
      refine XS.ifYes X0.here hx rfl (pc0 := 13) (pc' := 20) rfl (hb hby d2_13) rfl ((if0 _ _).trans (feq hc3).2) (by decide) (by decide) ?_
      show Steps p.tables e below (s₁.setTop (mkF m 20 #[.val (.ref a2_0), .val (.int (0 : Int32))] [(.int (0 : Int32)), (.ref a2_0)])) _
      refine XS.iconst X0.here hx rfl (hb hby d2_20) ?_
      have q7 : (bI (e0_ = (0 : Int32))) = (0 : Int32) := (bI_f hc3)
      exact castTop (g := (mkF m 21 #[.val (.ref a2_0), .val (.int (0 : Int32))] [(.int (0 : Int32)), (.int (0 : Int32)), (.ref a2_0)])) (g' := (mkF m 21 #[.val (.ref a2_0), .val (.int (0 : Int32))] [(.int (bI (e0_ = (0 : Int32)))), (.int (0 : Int32)), (.ref a2_0)])) (by simp only [q7]) k)
  obtain ⟨cl8, Ar8, q8, S8, N8, H8, G8⟩ := id VA
  have hin8 : ¬ ((0 : Int32) < 0 ∨ cl8.slots.size ≤ ((0 : Int32)).toNatClampNeg) := inb_of S8 ⟨by decide, by decide⟩
  obtain ⟨T8, h8, X8, e8, W8, st8⟩ := stZ X0 hx hZ e0 Ar8 (j := (0 : Int32)) hin8 (g := (mkF m 21 #[.val (.ref a2_0), .val (.int (0 : Int32))] [(.int (bI (e0_ = (0 : Int32)))), (.int (0 : Int32)), (.ref a2_0)])) rfl rfl (hb hby d2_21)
  have V9 : Arv Z h8 a2_0 ka .boolean (1 : Int32) [(.int (nar .boolean (bI (e0_ = (0 : Int32)))))] (.int (0 : Int32)) := Arv.set Ar8 q8 S8 N8 H8 G8 (fits_nar_bool _) W8 0 rfl (Nat.le_of_ble_eq_true rfl)
  rw [bI_nar] at V9
  have pre10 : ∀ t, Steps p.tables e below (T8.setTop (mkF m 22 #[.val (.ref a2_0), .val (.int (0 : Int32))] [])) t → Steps p.tables e below (s₁.setTop (entryFrame m #[(.ref a2_0)] 2)) t := fun t k => pre5 t (by
    show Steps p.tables e below (s₁.setTop (mkF m 21 #[.val (.ref a2_0), .val (.int (0 : Int32))] [(.int (bI (e0_ = (0 : Int32)))), (.int (0 : Int32)), (.ref a2_0)])) _
    refine st8 _ ?_
    exact k)
  have z11 := Nat.le_trans Z0 (Keep.of_wr W8).1
  have k12 := (Keep.refl h0 [a2_0]).wr W8 (Or.inl (List.mem_of_getElem? (i := 0) rfl))
  have N13 := Fr.snoc X8 N0 g_a2_0
  obtain ⟨cl14, Ar14, q14, S14, N14, H14, G14⟩ := id V9
  have hin14 : ¬ ((0 : Int32) < 0 ∨ cl14.slots.size ≤ ((0 : Int32)).toNatClampNeg) := inb_of S14 ⟨by decide, by decide⟩
  have hat14 : cl14.slots[((0 : Int32)).toNatClampNeg]? = some (.int (bI (e0_ = (0 : Int32)))) := Has.at H14 hin14 rfl
  by_cases hc15 : e0_ = (0 : Int32)
  · obtain ⟨fs, hr, hrun, hended, hW, hsame⟩ := X8.leave (v := some (.int (1 : Int32))) (fun h => by rw [Bd.returns] at h; cases h)
    refine ⟨_, _, pre10 _ ?_, hrun, hended, _, _, rfl, ?_, ⟨_, rfl⟩, hW, hsame.mono (by decide) (by decide)⟩
    · show Steps p.tables e below (T8.setTop (mkF m 22 #[.val (.ref a2_0), .val (.int (0 : Int32))] [])) _
      refine XS.aloadN X8.here hx rfl (hb hby d2_22) rfl rfl ?_
      refine XS.iloadN X8.here hx rfl (hb hby d2_23) rfl ?_
      show Steps p.tables e below (T8.setTop (mkF m 24 #[.val (.ref a2_0), .val (.int (0 : Int32))] [(.int (0 : Int32)), (.ref a2_0)])) _
      refine X8.baloadBooleans hx (j := (0 : Int32)) (v := (.int (bI (e0_ = (0 : Int32))))) (by rw [e8]; exact Ar14.1) (State.isArrayOf_alike hZ.alike Ar14.2.1) Ar14.2.2 hin14 hat14 (g := (mkF m 24 #[.val (.ref a2_0), .val (.int (0 : Int32))] [(.int (0 : Int32)), (.ref a2_0)])) rfl rfl (hb hby d2_24) _ ?_
      show Steps p.tables e below (T8.setTop (mkF m 25 #[.val (.ref a2_0), .val (.int (0 : Int32))] [(.int (bI (e0_ = (0 : Int32))))])) _
      refine XS.ifNo X8.here hx rfl (hb hby d2_25) rfl ((if0 _ _).trans (feq (bI_n hc15)).1) ?_
      show Steps p.tables e below (T8.setTop (mkF m 28 #[.val (.ref a2_0), .val (.int (0 : Int32))] [])) _
      refine XS.iconst X8.here hx rfl (hb hby d2_28) ?_
      show Steps p.tables e below (T8.setTop (mkF m 29 #[.val (.ref a2_0), .val (.int (0 : Int32))] [(.int (1 : Int32))])) _
      exact retN X8 hx (t := .boolean) Bd.returns (by simp) (hb hby d2_29) hr
    · show Q2_1 Z a2_0 ka e0_ h0 n0 _ T8.heap _
      rw [e8]
      exact ⟨(congrArg (fun z => some (Value.int z)) ((bI_t hc15) : (bI (e0_ = (0 : Int32))) = (1 : Int32)).symm), N13, k12, V9⟩
  obtain ⟨cl16, Ar16, q16, S16, N16, H16, G16⟩ := id V9
  obtain ⟨fs, hr, hrun, hended, hW, hsame⟩ := X8.leave (v := some (.int (0 : Int32))) (fun h => by rw [Bd.returns] at h; cases h)
  refine ⟨_, _, pre10 _ ?_, hrun, hended, _, _, rfl, ?_, ⟨_, rfl⟩, hW, hsame.mono (by decide) (by decide)⟩
  · show Steps p.tables e below (T8.setTop (mkF m 22 #[.val (.ref a2_0), .val (.int (0 : Int32))] [])) _
    refine XS.aloadN X8.here hx rfl (hb hby d2_22) rfl rfl ?_
    refine XS.iloadN X8.here hx rfl (hb hby d2_23) rfl ?_
    show Steps p.tables e below (T8.setTop (mkF m 24 #[.val (.ref a2_0), .val (.int (0 : Int32))] [(.int (0 : Int32)), (.ref a2_0)])) _
    refine X8.baloadBooleans hx (j := (0 : Int32)) (v := (.int (bI (e0_ = (0 : Int32))))) (by rw [e8]; exact Ar14.1) (State.isArrayOf_alike hZ.alike Ar14.2.1) Ar14.2.2 hin14 hat14 (g := (mkF m 24 #[.val (.ref a2_0), .val (.int (0 : Int32))] [(.int (0 : Int32)), (.ref a2_0)])) rfl rfl (hb hby d2_24) _ ?_
    show Steps p.tables e below (T8.setTop (mkF m 25 #[.val (.ref a2_0), .val (.int (0 : Int32))] [(.int (bI (e0_ = (0 : Int32))))])) _
    refine XS.ifYes X8.here hx rfl (pc0 := 25) (pc' := 30) rfl (hb hby d2_25) rfl ((if0 _ _).trans (teq (bI_f hc15)).1) (by decide) (by decide) ?_
    show Steps p.tables e below (T8.setTop (mkF m 30 #[.val (.ref a2_0), .val (.int (0 : Int32))] [])) _
    refine XS.iinc X8.here hx rfl (hb hby d2_30) rfl (l' := #[.val (.ref a2_0), .val (.int (1 : Int32))]) rfl ?_
    show Steps p.tables e below (T8.setTop (mkF m 33 #[.val (.ref a2_0), .val (.int (1 : Int32))] [])) _
    refine XS.goto X8.here hx rfl (pc0 := 33) (pc' := 2) rfl (hb hby d2_33) (by decide) (by decide) ?_
    refine XS.iloadN X8.here hx rfl (hb hby d2_2) rfl ?_
    refine XS.aloadN X8.here hx rfl (hb hby d2_3) rfl rfl ?_
    show Steps p.tables e below (T8.setTop (mkF m 4 #[.val (.ref a2_0), .val (.int (1 : Int32))] [(.ref a2_0), (.int (1 : Int32))])) _
    refine X8.arraylength hx (by rw [e8]; exact Ar16.1) (State.isArrayOf_alike hZ.alike Ar16.2.1) (g := (mkF m 4 #[.val (.ref a2_0), .val (.int (1 : Int32))] [(.ref a2_0), (.int (1 : Int32))])) rfl rfl (hb hby d2_4) _ ?_
    rw [len_of S16 N16]
    show Steps p.tables e below (T8.setTop (mkF m 5 #[.val (.ref a2_0), .val (.int (1 : Int32))] [(.int (1 : Int32)), (.int (1 : Int32))])) _
    refine XS.icmpYes X8.here hx rfl (pc0 := 5) (pc' := 36) rfl (hb hby d2_5) rfl (flt (by decide : ¬ ((1 : Int32) < (1 : Int32)))).2.1 (by decide) (by decide) ?_
    show Steps p.tables e below (T8.setTop (mkF m 36 #[.val (.ref a2_0), .val (.int (1 : Int32))] [])) _
    refine XS.iconst X8.here hx rfl (hb hby d2_36) ?_
    show Steps p.tables e below (T8.setTop (mkF m 37 #[.val (.ref a2_0), .val (.int (1 : Int32))] [(.int (0 : Int32))])) _
    exact retN X8 hx (t := .boolean) Bd.returns (by simp) (hb hby d2_37) hr
  · show Q2_1 Z a2_0 ka e0_ h0 n0 _ T8.heap _
    rw [e8]
    exact ⟨(congrArg (fun z => some (Value.int z)) ((bI_f hc15) : (bI (e0_ = (0 : Int32))) = (0 : Int32)).symm), N13, k12, V9⟩
def Q2_2 (Z : State) (a2_0 : Addr) (ka : ClassId) (e0_ : Int32) (e1_ : Int32) (h0 : Heap) (n0 : Nat) (v : Option Value) (h : Heap) (L : List Loc) : Prop := v = some (.int (bI ((e0_ = (0 : Int32)) ∨ (e1_ = (0 : Int32))))) ∧ Fr n0 L ∧ Keep h0 h [a2_0] ∧ Arv Z h a2_0 ka .boolean (2 : Int32) [(.int (bI (e0_ = (0 : Int32)))), (.int (if e0_ = (0 : Int32) then e1_ else (bI (e1_ = (0 : Int32)))))] (.int (0 : Int32))
set_option maxRecDepth 65536 in
set_option maxHeartbeats 40000000 in
theorem rm2_2 (l : Launch) (Z : State) (a0 : Array Value) (hw : ∀ d ∈ tables_1, d.before a0 Z = true) (ws : List Jvm.Cond) (a2_0 : Addr) (ka : ClassId) (e0_ : Int32) (e1_ : Int32) (h0 : Heap) (n0 : Nat) (Z0 : n0 ≤ h0.size) (VA : Arv Z h0 a2_0 ka .boolean (2 : Int32) [(.int e0_), (.int e1_)] (.int (0 : Int32))) (g_a2_0 : n0 ≤ a2_0) :
    MetFree l mn2 (head1 (Jvm.Cond.code mn2 prog_101_method_2_code 2 (some .boolean) :: ws) ({ frames := 0, cells := 0, slots := 0, locals := 0 } : Room)) (fun a U => a = #[(.ref a2_0)] ∧ Z.Warmed39 U.vm ∧ U.heap = h0) (fun _ _ _ _ _ => True) (fun _ U o U' => ∃ v L, o = .returned v ∧ Q2_2 Z a2_0 ka e0_ e1_ h0 n0 v U'.heap L ∧ FrameEnd U o U' L ({ frames := 0, cells := 0, slots := 0, locals := 0 } : Room).cells ({ frames := 0, cells := 0, slots := 0, locals := 0 } : Room).slots) := by
  refine MetFree.of_bodySF (plainFor_of_name pn_2) hisR ?_
  intro p e s m args below meth c s₁ Bd hml0 hP hK
  obtain ⟨rfl, hZ, hh⟩ := hP
  have hVV : ∀ (i : Nat) (d : Jvm.Cond), tables_1[i]? = some d → d.before a0 Z = true := fun i d h => hw d (List.mem_of_getElem? h)
  have hx := Bd.exec
  have hby := Bd.bytes
  have hml : c.maxLocals = 2 := hml0
  have hown : s.vm.findClass "com/example/regista/regista/Valuations" = some m.cls := findClass_of_methodNamed Bd.named
  have hnm := (name_of_methodNamed Bd.named Bd.method).1
  have X0 : Stand p l e ({ frames := 0, cells := 0, slots := 0, locals := 0 } : Room) s m #[(.ref a2_0)] below meth c s₁ [] 0 0 := Stand.of_body Bd
  have e0 : s₁.heap = h0 := by rw [← hh, Bd.state]; rfl
  have N0 := Fr.nil n0
  have pre0 : ∀ t, Steps p.tables e below (s₁.setTop (mkF m 0 #[.val (.ref a2_0), .unset] [])) t → Steps p.tables e below (s₁.setTop (entryFrame m #[(.ref a2_0)] 2)) t := fun t k => castTop (ef_2 m a2_0) k
  obtain ⟨cl1, Ar1, q1, S1, N1, H1, G1⟩ := id VA
  obtain ⟨cl2, Ar2, q2, S2, N2, H2, G2⟩ := id VA
  have hin2 : ¬ ((0 : Int32) < 0 ∨ cl2.slots.size ≤ ((0 : Int32)).toNatClampNeg) := inb_of S2 ⟨by decide, by decide⟩
  have hat2 : cl2.slots[((0 : Int32)).toNatClampNeg]? = some (.int e0_) := Has.at H2 hin2 rfl
  have pre4 : ∀ t, Steps p.tables e below (s₁.setTop (mkF m 13 #[.val (.ref a2_0), .val (.int (0 : Int32))] [(.int e0_), (.int (0 : Int32)), (.ref a2_0)])) t → Steps p.tables e below (s₁.setTop (entryFrame m #[(.ref a2_0)] 2)) t := fun t k => pre0 t (by
    show Steps p.tables e below (s₁.setTop (mkF m 0 #[.val (.ref a2_0), .unset] [])) _
    refine XS.iconst X0.here hx rfl (hb hby d2_0) ?_
    show Steps p.tables e below (s₁.setTop (mkF m 1 #[.val (.ref a2_0), .unset] [(.int (0 : Int32))])) _
    refine XS.istoreN X0.here hx rfl (hb hby d2_1) rfl (l' := #[.val (.ref a2_0), .val (.int (0 : Int32))]) rfl ?_
    show Steps p.tables e below (s₁.setTop (mkF m 2 #[.val (.ref a2_0), .val (.int (0 : Int32))] [])) _
    refine XS.iloadN X0.here hx rfl (hb hby d2_2) rfl ?_
    refine XS.aloadN X0.here hx rfl (hb hby d2_3) rfl rfl ?_
    show Steps p.tables e below (s₁.setTop (mkF m 4 #[.val (.ref a2_0), .val (.int (0 : Int32))] [(.ref a2_0), (.int (0 : Int32))])) _
    refine X0.arraylength hx (by rw [e0]; exact Ar1.1) (State.isArrayOf_alike hZ.alike Ar1.2.1) (g := (mkF m 4 #[.val (.ref a2_0), .val (.int (0 : Int32))] [(.ref a2_0), (.int (0 : Int32))])) rfl rfl (hb hby d2_4) _ ?_
    rw [len_of S1 N1]
    show Steps p.tables e below (s₁.setTop (mkF m 5 #[.val (.ref a2_0), .val (.int (0 : Int32))] [(.int (2 : Int32)), (.int (0 : Int32))])) _
    refine XS.icmpNo X0.here hx rfl (hb hby d2_5) rfl (tlt (by decide : (0 : Int32) < (2 : Int32))).2.1 ?_
    show Steps p.tables e below (s₁.setTop (mkF m 8 #[.val (.ref a2_0), .val (.int (0 : Int32))] [])) _
    refine XS.aloadN X0.here hx rfl (hb hby d2_8) rfl rfl ?_
    refine XS.iloadN X0.here hx rfl (hb hby d2_9) rfl ?_
    refine XS.aloadN X0.here hx rfl (hb hby d2_10) rfl rfl ?_
    refine XS.iloadN X0.here hx rfl (hb hby d2_11) rfl ?_
    show Steps p.tables e below (s₁.setTop (mkF m 12 #[.val (.ref a2_0), .val (.int (0 : Int32))] [(.int (0 : Int32)), (.ref a2_0), (.int (0 : Int32)), (.ref a2_0)])) _
    refine X0.baloadBooleans hx (j := (0 : Int32)) (v := (.int e0_)) (by rw [e0]; exact Ar2.1) (State.isArrayOf_alike hZ.alike Ar2.2.1) Ar2.2.2 hin2 hat2 (g := (mkF m 12 #[.val (.ref a2_0), .val (.int (0 : Int32))] [(.int (0 : Int32)), (.ref a2_0), (.int (0 : Int32)), (.ref a2_0)])) rfl rfl (hb hby d2_12) _ ?_
    exact k)
  have pre5 : ∀ t, Steps p.tables e below (s₁.setTop (mkF m 21 #[.val (.ref a2_0), .val (.int (0 : Int32))] [(.int (bI (e0_ = (0 : Int32)))), (.int (0 : Int32)), (.ref a2_0)])) t → Steps p.tables e below (s₁.setTop (entryFrame m #[(.ref a2_0)] 2)) t := fun t k => pre4 t (by
    by_cases hc3 : e0_ = (0 : Int32)
    · show Steps p.tables e below (s₁.setTop (mkF m 13 #[.val (.ref a2_0), .val (.int (0 : Int32))] [(.int e0_), (.int (0 : Int32)), (.ref a2_0)])) _
      refine XS.ifNo X0.here hx rfl (hb hby d2_13) rfl ((if0 _ _).trans (teq hc3).2) ?_
      show Steps p.tables e below (s₁.setTop (mkF m 16 #[.val (.ref a2_0), .val (.int (0 : Int32))] [(.int (0 : Int32)), (.ref a2_0)])) _
      refine XS.iconst X0.here hx rfl (hb hby d2_16) ?_
      show Steps p.tables e below (s₁.setTop (mkF m 17 #[.val (.ref a2_0), .val (.int (0 : Int32))] [(.int (1 : Int32)), (.int (0 : Int32)), (.ref a2_0)])) _
      refine XS.goto X0.here hx rfl (pc0 := 17) (pc' := 21) rfl (hb hby d2_17) (by decide) (by decide) ?_
      have q6 : (bI (e0_ = (0 : Int32))) = (1 : Int32) := (bI_t hc3)
      exact castTop (g := (mkF m 21 #[.val (.ref a2_0), .val (.int (0 : Int32))] [(.int (1 : Int32)), (.int (0 : Int32)), (.ref a2_0)])) (g' := (mkF m 21 #[.val (.ref a2_0), .val (.int (0 : Int32))] [(.int (bI (e0_ = (0 : Int32)))), (.int (0 : Int32)), (.ref a2_0)])) (by simp only [q6]) k
    · show Steps p.tables e below (s₁.setTop (mkF m 13 #[.val (.ref a2_0), .val (.int (0 : Int32))] [(.int e0_), (.int (0 : Int32)), (.ref a2_0)])) _
      refine XS.ifYes X0.here hx rfl (pc0 := 13) (pc' := 20) rfl (hb hby d2_13) rfl ((if0 _ _).trans (feq hc3).2) (by decide) (by decide) ?_
      show Steps p.tables e below (s₁.setTop (mkF m 20 #[.val (.ref a2_0), .val (.int (0 : Int32))] [(.int (0 : Int32)), (.ref a2_0)])) _
      refine XS.iconst X0.here hx rfl (hb hby d2_20) ?_
      have q7 : (bI (e0_ = (0 : Int32))) = (0 : Int32) := (bI_f hc3)
      exact castTop (g := (mkF m 21 #[.val (.ref a2_0), .val (.int (0 : Int32))] [(.int (0 : Int32)), (.int (0 : Int32)), (.ref a2_0)])) (g' := (mkF m 21 #[.val (.ref a2_0), .val (.int (0 : Int32))] [(.int (bI (e0_ = (0 : Int32)))), (.int (0 : Int32)), (.ref a2_0)])) (by simp only [q7]) k)
  obtain ⟨cl8, Ar8, q8, S8, N8, H8, G8⟩ := id VA
  have hin8 : ¬ ((0 : Int32) < 0 ∨ cl8.slots.size ≤ ((0 : Int32)).toNatClampNeg) := inb_of S8 ⟨by decide, by decide⟩
  obtain ⟨T8, h8, X8, e8, W8, st8⟩ := stZ X0 hx hZ e0 Ar8 (j := (0 : Int32)) hin8 (g := (mkF m 21 #[.val (.ref a2_0), .val (.int (0 : Int32))] [(.int (bI (e0_ = (0 : Int32)))), (.int (0 : Int32)), (.ref a2_0)])) rfl rfl (hb hby d2_21)
  have V9 : Arv Z h8 a2_0 ka .boolean (2 : Int32) [(.int (nar .boolean (bI (e0_ = (0 : Int32))))), (.int e1_)] (.int (0 : Int32)) := Arv.set Ar8 q8 S8 N8 H8 G8 (fits_nar_bool _) W8 0 rfl (Nat.le_of_ble_eq_true rfl)
  rw [bI_nar] at V9
  have pre10 : ∀ t, Steps p.tables e below (T8.setTop (mkF m 22 #[.val (.ref a2_0), .val (.int (0 : Int32))] [])) t → Steps p.tables e below (s₁.setTop (entryFrame m #[(.ref a2_0)] 2)) t := fun t k => pre5 t (by
    show Steps p.tables e below (s₁.setTop (mkF m 21 #[.val (.ref a2_0), .val (.int (0 : Int32))] [(.int (bI (e0_ = (0 : Int32)))), (.int (0 : Int32)), (.ref a2_0)])) _
    refine st8 _ ?_
    exact k)
  have z11 := Nat.le_trans Z0 (Keep.of_wr W8).1
  have k12 := (Keep.refl h0 [a2_0]).wr W8 (Or.inl (List.mem_of_getElem? (i := 0) rfl))
  have N13 := Fr.snoc X8 N0 g_a2_0
  obtain ⟨cl14, Ar14, q14, S14, N14, H14, G14⟩ := id V9
  have hin14 : ¬ ((0 : Int32) < 0 ∨ cl14.slots.size ≤ ((0 : Int32)).toNatClampNeg) := inb_of S14 ⟨by decide, by decide⟩
  have hat14 : cl14.slots[((0 : Int32)).toNatClampNeg]? = some (.int (bI (e0_ = (0 : Int32)))) := Has.at H14 hin14 rfl
  by_cases hc15 : e0_ = (0 : Int32)
  · obtain ⟨fs, hr, hrun, hended, hW, hsame⟩ := X8.leave (v := some (.int (1 : Int32))) (fun h => by rw [Bd.returns] at h; cases h)
    refine ⟨_, _, pre10 _ ?_, hrun, hended, _, _, rfl, ?_, ⟨_, rfl⟩, hW, hsame.mono (by decide) (by decide)⟩
    · show Steps p.tables e below (T8.setTop (mkF m 22 #[.val (.ref a2_0), .val (.int (0 : Int32))] [])) _
      refine XS.aloadN X8.here hx rfl (hb hby d2_22) rfl rfl ?_
      refine XS.iloadN X8.here hx rfl (hb hby d2_23) rfl ?_
      show Steps p.tables e below (T8.setTop (mkF m 24 #[.val (.ref a2_0), .val (.int (0 : Int32))] [(.int (0 : Int32)), (.ref a2_0)])) _
      refine X8.baloadBooleans hx (j := (0 : Int32)) (v := (.int (bI (e0_ = (0 : Int32))))) (by rw [e8]; exact Ar14.1) (State.isArrayOf_alike hZ.alike Ar14.2.1) Ar14.2.2 hin14 hat14 (g := (mkF m 24 #[.val (.ref a2_0), .val (.int (0 : Int32))] [(.int (0 : Int32)), (.ref a2_0)])) rfl rfl (hb hby d2_24) _ ?_
      show Steps p.tables e below (T8.setTop (mkF m 25 #[.val (.ref a2_0), .val (.int (0 : Int32))] [(.int (bI (e0_ = (0 : Int32))))])) _
      refine XS.ifNo X8.here hx rfl (hb hby d2_25) rfl ((if0 _ _).trans (feq (bI_n hc15)).1) ?_
      show Steps p.tables e below (T8.setTop (mkF m 28 #[.val (.ref a2_0), .val (.int (0 : Int32))] [])) _
      refine XS.iconst X8.here hx rfl (hb hby d2_28) ?_
      show Steps p.tables e below (T8.setTop (mkF m 29 #[.val (.ref a2_0), .val (.int (0 : Int32))] [(.int (1 : Int32))])) _
      exact retN X8 hx (t := .boolean) Bd.returns (by simp) (hb hby d2_29) hr
    · show Q2_2 Z a2_0 ka e0_ e1_ h0 n0 _ T8.heap _
      rw [e8]
      exact ⟨(congrArg (fun z => some (Value.int z)) ((bI_t (Or.inl hc15)) : (bI ((e0_ = (0 : Int32)) ∨ (e1_ = (0 : Int32)))) = (1 : Int32)).symm), N13, k12, (by rw [show (if e0_ = (0 : Int32) then e1_ else (bI (e1_ = (0 : Int32)))) = e1_ from (if_pos hc15)]; exact V9)⟩
  obtain ⟨cl16, Ar16, q16, S16, N16, H16, G16⟩ := id V9
  obtain ⟨cl17, Ar17, q17, S17, N17, H17, G17⟩ := id V9
  have hin17 : ¬ ((1 : Int32) < 0 ∨ cl17.slots.size ≤ ((1 : Int32)).toNatClampNeg) := inb_of S17 ⟨by decide, by decide⟩
  have hat17 : cl17.slots[((1 : Int32)).toNatClampNeg]? = some (.int e1_) := Has.at H17 hin17 rfl
  have pre19 : ∀ t, Steps p.tables e below (T8.setTop (mkF m 13 #[.val (.ref a2_0), .val (.int (1 : Int32))] [(.int e1_), (.int (1 : Int32)), (.ref a2_0)])) t → Steps p.tables e below (s₁.setTop (entryFrame m #[(.ref a2_0)] 2)) t := fun t k => pre10 t (by
    show Steps p.tables e below (T8.setTop (mkF m 22 #[.val (.ref a2_0), .val (.int (0 : Int32))] [])) _
    refine XS.aloadN X8.here hx rfl (hb hby d2_22) rfl rfl ?_
    refine XS.iloadN X8.here hx rfl (hb hby d2_23) rfl ?_
    show Steps p.tables e below (T8.setTop (mkF m 24 #[.val (.ref a2_0), .val (.int (0 : Int32))] [(.int (0 : Int32)), (.ref a2_0)])) _
    refine X8.baloadBooleans hx (j := (0 : Int32)) (v := (.int (bI (e0_ = (0 : Int32))))) (by rw [e8]; exact Ar14.1) (State.isArrayOf_alike hZ.alike Ar14.2.1) Ar14.2.2 hin14 hat14 (g := (mkF m 24 #[.val (.ref a2_0), .val (.int (0 : Int32))] [(.int (0 : Int32)), (.ref a2_0)])) rfl rfl (hb hby d2_24) _ ?_
    show Steps p.tables e below (T8.setTop (mkF m 25 #[.val (.ref a2_0), .val (.int (0 : Int32))] [(.int (bI (e0_ = (0 : Int32))))])) _
    refine XS.ifYes X8.here hx rfl (pc0 := 25) (pc' := 30) rfl (hb hby d2_25) rfl ((if0 _ _).trans (teq (bI_f hc15)).1) (by decide) (by decide) ?_
    show Steps p.tables e below (T8.setTop (mkF m 30 #[.val (.ref a2_0), .val (.int (0 : Int32))] [])) _
    refine XS.iinc X8.here hx rfl (hb hby d2_30) rfl (l' := #[.val (.ref a2_0), .val (.int (1 : Int32))]) rfl ?_
    show Steps p.tables e below (T8.setTop (mkF m 33 #[.val (.ref a2_0), .val (.int (1 : Int32))] [])) _
    refine XS.goto X8.here hx rfl (pc0 := 33) (pc' := 2) rfl (hb hby d2_33) (by decide) (by decide) ?_
    refine XS.iloadN X8.here hx rfl (hb hby d2_2) rfl ?_
    refine XS.aloadN X8.here hx rfl (hb hby d2_3) rfl rfl ?_
    show Steps p.tables e below (T8.setTop (mkF m 4 #[.val (.ref a2_0), .val (.int (1 : Int32))] [(.ref a2_0), (.int (1 : Int32))])) _
    refine X8.arraylength hx (by rw [e8]; exact Ar16.1) (State.isArrayOf_alike hZ.alike Ar16.2.1) (g := (mkF m 4 #[.val (.ref a2_0), .val (.int (1 : Int32))] [(.ref a2_0), (.int (1 : Int32))])) rfl rfl (hb hby d2_4) _ ?_
    rw [len_of S16 N16]
    show Steps p.tables e below (T8.setTop (mkF m 5 #[.val (.ref a2_0), .val (.int (1 : Int32))] [(.int (2 : Int32)), (.int (1 : Int32))])) _
    refine XS.icmpNo X8.here hx rfl (hb hby d2_5) rfl (tlt (by decide : (1 : Int32) < (2 : Int32))).2.1 ?_
    show Steps p.tables e below (T8.setTop (mkF m 8 #[.val (.ref a2_0), .val (.int (1 : Int32))] [])) _
    refine XS.aloadN X8.here hx rfl (hb hby d2_8) rfl rfl ?_
    refine XS.iloadN X8.here hx rfl (hb hby d2_9) rfl ?_
    refine XS.aloadN X8.here hx rfl (hb hby d2_10) rfl rfl ?_
    refine XS.iloadN X8.here hx rfl (hb hby d2_11) rfl ?_
    show Steps p.tables e below (T8.setTop (mkF m 12 #[.val (.ref a2_0), .val (.int (1 : Int32))] [(.int (1 : Int32)), (.ref a2_0), (.int (1 : Int32)), (.ref a2_0)])) _
    refine X8.baloadBooleans hx (j := (1 : Int32)) (v := (.int e1_)) (by rw [e8]; exact Ar17.1) (State.isArrayOf_alike hZ.alike Ar17.2.1) Ar17.2.2 hin17 hat17 (g := (mkF m 12 #[.val (.ref a2_0), .val (.int (1 : Int32))] [(.int (1 : Int32)), (.ref a2_0), (.int (1 : Int32)), (.ref a2_0)])) rfl rfl (hb hby d2_12) _ ?_
    exact k)
  have pre20 : ∀ t, Steps p.tables e below (T8.setTop (mkF m 21 #[.val (.ref a2_0), .val (.int (1 : Int32))] [(.int (bI (e1_ = (0 : Int32)))), (.int (1 : Int32)), (.ref a2_0)])) t → Steps p.tables e below (s₁.setTop (entryFrame m #[(.ref a2_0)] 2)) t := fun t k => pre19 t (by
    by_cases hc18 : e1_ = (0 : Int32)
    · show Steps p.tables e below (T8.setTop (mkF m 13 #[.val (.ref a2_0), .val (.int (1 : Int32))] [(.int e1_), (.int (1 : Int32)), (.ref a2_0)])) _
      refine XS.ifNo X8.here hx rfl (hb hby d2_13) rfl ((if0 _ _).trans (teq hc18).2) ?_
      show Steps p.tables e below (T8.setTop (mkF m 16 #[.val (.ref a2_0), .val (.int (1 : Int32))] [(.int (1 : Int32)), (.ref a2_0)])) _
      refine XS.iconst X8.here hx rfl (hb hby d2_16) ?_
      show Steps p.tables e below (T8.setTop (mkF m 17 #[.val (.ref a2_0), .val (.int (1 : Int32))] [(.int (1 : Int32)), (.int (1 : Int32)), (.ref a2_0)])) _
      refine XS.goto X8.here hx rfl (pc0 := 17) (pc' := 21) rfl (hb hby d2_17) (by decide) (by decide) ?_
      have q21 : (bI (e1_ = (0 : Int32))) = (1 : Int32) := (bI_t hc18)
      exact castTop (g := (mkF m 21 #[.val (.ref a2_0), .val (.int (1 : Int32))] [(.int (1 : Int32)), (.int (1 : Int32)), (.ref a2_0)])) (g' := (mkF m 21 #[.val (.ref a2_0), .val (.int (1 : Int32))] [(.int (bI (e1_ = (0 : Int32)))), (.int (1 : Int32)), (.ref a2_0)])) (by simp only [q21]) k
    · show Steps p.tables e below (T8.setTop (mkF m 13 #[.val (.ref a2_0), .val (.int (1 : Int32))] [(.int e1_), (.int (1 : Int32)), (.ref a2_0)])) _
      refine XS.ifYes X8.here hx rfl (pc0 := 13) (pc' := 20) rfl (hb hby d2_13) rfl ((if0 _ _).trans (feq hc18).2) (by decide) (by decide) ?_
      show Steps p.tables e below (T8.setTop (mkF m 20 #[.val (.ref a2_0), .val (.int (1 : Int32))] [(.int (1 : Int32)), (.ref a2_0)])) _
      refine XS.iconst X8.here hx rfl (hb hby d2_20) ?_
      have q22 : (bI (e1_ = (0 : Int32))) = (0 : Int32) := (bI_f hc18)
      exact castTop (g := (mkF m 21 #[.val (.ref a2_0), .val (.int (1 : Int32))] [(.int (0 : Int32)), (.int (1 : Int32)), (.ref a2_0)])) (g' := (mkF m 21 #[.val (.ref a2_0), .val (.int (1 : Int32))] [(.int (bI (e1_ = (0 : Int32)))), (.int (1 : Int32)), (.ref a2_0)])) (by simp only [q22]) k)
  obtain ⟨cl23, Ar23, q23, S23, N23, H23, G23⟩ := id V9
  have hin23 : ¬ ((1 : Int32) < 0 ∨ cl23.slots.size ≤ ((1 : Int32)).toNatClampNeg) := inb_of S23 ⟨by decide, by decide⟩
  obtain ⟨T23, h23, X23, e23, W23, st23⟩ := stZ X8 hx hZ e8 Ar23 (j := (1 : Int32)) hin23 (g := (mkF m 21 #[.val (.ref a2_0), .val (.int (1 : Int32))] [(.int (bI (e1_ = (0 : Int32)))), (.int (1 : Int32)), (.ref a2_0)])) rfl rfl (hb hby d2_21)
  have V24 : Arv Z h23 a2_0 ka .boolean (2 : Int32) [(.int (bI (e0_ = (0 : Int32)))), (.int (nar .boolean (bI (e1_ = (0 : Int32)))))] (.int (0 : Int32)) := Arv.set Ar23 q23 S23 N23 H23 G23 (fits_nar_bool _) W23 1 rfl (Nat.le_of_ble_eq_true rfl)
  rw [bI_nar] at V24
  have pre25 : ∀ t, Steps p.tables e below (T23.setTop (mkF m 22 #[.val (.ref a2_0), .val (.int (1 : Int32))] [])) t → Steps p.tables e below (s₁.setTop (entryFrame m #[(.ref a2_0)] 2)) t := fun t k => pre20 t (by
    show Steps p.tables e below (T8.setTop (mkF m 21 #[.val (.ref a2_0), .val (.int (1 : Int32))] [(.int (bI (e1_ = (0 : Int32)))), (.int (1 : Int32)), (.ref a2_0)])) _
    refine st23 _ ?_
    exact k)
  have z26 := Nat.le_trans z11 (Keep.of_wr W23).1
  have k27 := k12.wr W23 (Or.inl (List.mem_of_getElem? (i := 0) rfl))
  have N28 := Fr.snoc X23 N13 g_a2_0
  obtain ⟨cl29, Ar29, q29, S29, N29, H29, G29⟩ := id V24
  have hin29 : ¬ ((1 : Int32) < 0 ∨ cl29.slots.size ≤ ((1 : Int32)).toNatClampNeg) := inb_of S29 ⟨by decide, by decide⟩
  have hat29 : cl29.slots[((1 : Int32)).toNatClampNeg]? = some (.int (bI (e1_ = (0 : Int32)))) := Has.at H29 hin29 rfl
  by_cases hc30 : e1_ = (0 : Int32)
  · obtain ⟨fs, hr, hrun, hended, hW, hsame⟩ := X23.leave (v := some (.int (1 : Int32))) (fun h => by rw [Bd.returns] at h; cases h)
    refine ⟨_, _, pre25 _ ?_, hrun, hended, _, _, rfl, ?_, ⟨_, rfl⟩, hW, hsame.mono (by decide) (by decide)⟩
    · show Steps p.tables e below (T23.setTop (mkF m 22 #[.val (.ref a2_0), .val (.int (1 : Int32))] [])) _
      refine XS.aloadN X23.here hx rfl (hb hby d2_22) rfl rfl ?_
      refine XS.iloadN X23.here hx rfl (hb hby d2_23) rfl ?_
      show Steps p.tables e below (T23.setTop (mkF m 24 #[.val (.ref a2_0), .val (.int (1 : Int32))] [(.int (1 : Int32)), (.ref a2_0)])) _
      refine X23.baloadBooleans hx (j := (1 : Int32)) (v := (.int (bI (e1_ = (0 : Int32))))) (by rw [e23]; exact Ar29.1) (State.isArrayOf_alike hZ.alike Ar29.2.1) Ar29.2.2 hin29 hat29 (g := (mkF m 24 #[.val (.ref a2_0), .val (.int (1 : Int32))] [(.int (1 : Int32)), (.ref a2_0)])) rfl rfl (hb hby d2_24) _ ?_
      show Steps p.tables e below (T23.setTop (mkF m 25 #[.val (.ref a2_0), .val (.int (1 : Int32))] [(.int (bI (e1_ = (0 : Int32))))])) _
      refine XS.ifNo X23.here hx rfl (hb hby d2_25) rfl ((if0 _ _).trans (feq (bI_n hc30)).1) ?_
      show Steps p.tables e below (T23.setTop (mkF m 28 #[.val (.ref a2_0), .val (.int (1 : Int32))] [])) _
      refine XS.iconst X23.here hx rfl (hb hby d2_28) ?_
      show Steps p.tables e below (T23.setTop (mkF m 29 #[.val (.ref a2_0), .val (.int (1 : Int32))] [(.int (1 : Int32))])) _
      exact retN X23 hx (t := .boolean) Bd.returns (by simp) (hb hby d2_29) hr
    · show Q2_2 Z a2_0 ka e0_ e1_ h0 n0 _ T23.heap _
      rw [e23]
      exact ⟨(congrArg (fun z => some (Value.int z)) ((bI_t (Or.inr hc30)) : (bI ((e0_ = (0 : Int32)) ∨ (e1_ = (0 : Int32)))) = (1 : Int32)).symm), N28, k27, (by rw [show (if e0_ = (0 : Int32) then e1_ else (bI (e1_ = (0 : Int32)))) = (bI (e1_ = (0 : Int32))) from (if_neg hc15)]; exact V24)⟩
  obtain ⟨cl31, Ar31, q31, S31, N31, H31, G31⟩ := id V24
  obtain ⟨fs, hr, hrun, hended, hW, hsame⟩ := X23.leave (v := some (.int (0 : Int32))) (fun h => by rw [Bd.returns] at h; cases h)
  refine ⟨_, _, pre25 _ ?_, hrun, hended, _, _, rfl, ?_, ⟨_, rfl⟩, hW, hsame.mono (by decide) (by decide)⟩
  · show Steps p.tables e below (T23.setTop (mkF m 22 #[.val (.ref a2_0), .val (.int (1 : Int32))] [])) _
    refine XS.aloadN X23.here hx rfl (hb hby d2_22) rfl rfl ?_
    refine XS.iloadN X23.here hx rfl (hb hby d2_23) rfl ?_
    show Steps p.tables e below (T23.setTop (mkF m 24 #[.val (.ref a2_0), .val (.int (1 : Int32))] [(.int (1 : Int32)), (.ref a2_0)])) _
    refine X23.baloadBooleans hx (j := (1 : Int32)) (v := (.int (bI (e1_ = (0 : Int32))))) (by rw [e23]; exact Ar29.1) (State.isArrayOf_alike hZ.alike Ar29.2.1) Ar29.2.2 hin29 hat29 (g := (mkF m 24 #[.val (.ref a2_0), .val (.int (1 : Int32))] [(.int (1 : Int32)), (.ref a2_0)])) rfl rfl (hb hby d2_24) _ ?_
    show Steps p.tables e below (T23.setTop (mkF m 25 #[.val (.ref a2_0), .val (.int (1 : Int32))] [(.int (bI (e1_ = (0 : Int32))))])) _
    refine XS.ifYes X23.here hx rfl (pc0 := 25) (pc' := 30) rfl (hb hby d2_25) rfl ((if0 _ _).trans (teq (bI_f hc30)).1) (by decide) (by decide) ?_
    show Steps p.tables e below (T23.setTop (mkF m 30 #[.val (.ref a2_0), .val (.int (1 : Int32))] [])) _
    refine XS.iinc X23.here hx rfl (hb hby d2_30) rfl (l' := #[.val (.ref a2_0), .val (.int (2 : Int32))]) rfl ?_
    show Steps p.tables e below (T23.setTop (mkF m 33 #[.val (.ref a2_0), .val (.int (2 : Int32))] [])) _
    refine XS.goto X23.here hx rfl (pc0 := 33) (pc' := 2) rfl (hb hby d2_33) (by decide) (by decide) ?_
    refine XS.iloadN X23.here hx rfl (hb hby d2_2) rfl ?_
    refine XS.aloadN X23.here hx rfl (hb hby d2_3) rfl rfl ?_
    show Steps p.tables e below (T23.setTop (mkF m 4 #[.val (.ref a2_0), .val (.int (2 : Int32))] [(.ref a2_0), (.int (2 : Int32))])) _
    refine X23.arraylength hx (by rw [e23]; exact Ar31.1) (State.isArrayOf_alike hZ.alike Ar31.2.1) (g := (mkF m 4 #[.val (.ref a2_0), .val (.int (2 : Int32))] [(.ref a2_0), (.int (2 : Int32))])) rfl rfl (hb hby d2_4) _ ?_
    rw [len_of S31 N31]
    show Steps p.tables e below (T23.setTop (mkF m 5 #[.val (.ref a2_0), .val (.int (2 : Int32))] [(.int (2 : Int32)), (.int (2 : Int32))])) _
    refine XS.icmpYes X23.here hx rfl (pc0 := 5) (pc' := 36) rfl (hb hby d2_5) rfl (flt (by decide : ¬ ((2 : Int32) < (2 : Int32)))).2.1 (by decide) (by decide) ?_
    show Steps p.tables e below (T23.setTop (mkF m 36 #[.val (.ref a2_0), .val (.int (2 : Int32))] [])) _
    refine XS.iconst X23.here hx rfl (hb hby d2_36) ?_
    show Steps p.tables e below (T23.setTop (mkF m 37 #[.val (.ref a2_0), .val (.int (2 : Int32))] [(.int (0 : Int32))])) _
    exact retN X23 hx (t := .boolean) Bd.returns (by simp) (hb hby d2_37) hr
  · show Q2_2 Z a2_0 ka e0_ e1_ h0 n0 _ T23.heap _
    rw [e23]
    exact ⟨(congrArg (fun z => some (Value.int z)) ((bI_f (fun z => z.elim hc15 hc30)) : (bI ((e0_ = (0 : Int32)) ∨ (e1_ = (0 : Int32)))) = (0 : Int32)).symm), N28, k27, (by rw [show (if e0_ = (0 : Int32) then e1_ else (bI (e1_ = (0 : Int32)))) = (bI (e1_ = (0 : Int32))) from (if_neg hc15)]; exact V24)⟩
def Q2_3 (Z : State) (a2_0 : Addr) (ka : ClassId) (e0_ : Int32) (e1_ : Int32) (e2_ : Int32) (h0 : Heap) (n0 : Nat) (v : Option Value) (h : Heap) (L : List Loc) : Prop := v = some (.int (bI ((e0_ = (0 : Int32)) ∨ ((e1_ = (0 : Int32)) ∨ (e2_ = (0 : Int32)))))) ∧ Fr n0 L ∧ Keep h0 h [a2_0] ∧ Arv Z h a2_0 ka .boolean (3 : Int32) [(.int (bI (e0_ = (0 : Int32)))), (.int (if e0_ = (0 : Int32) then e1_ else (bI (e1_ = (0 : Int32))))), (.int (if e0_ = (0 : Int32) then e2_ else (if e1_ = (0 : Int32) then e2_ else (bI (e2_ = (0 : Int32))))))] (.int (0 : Int32))
set_option maxRecDepth 65536 in
set_option maxHeartbeats 40000000 in
theorem rm2_3 (l : Launch) (Z : State) (a0 : Array Value) (hw : ∀ d ∈ tables_1, d.before a0 Z = true) (ws : List Jvm.Cond) (a2_0 : Addr) (ka : ClassId) (e0_ : Int32) (e1_ : Int32) (e2_ : Int32) (h0 : Heap) (n0 : Nat) (Z0 : n0 ≤ h0.size) (VA : Arv Z h0 a2_0 ka .boolean (3 : Int32) [(.int e0_), (.int e1_), (.int e2_)] (.int (0 : Int32))) (g_a2_0 : n0 ≤ a2_0) :
    MetFree l mn2 (head1 (Jvm.Cond.code mn2 prog_101_method_2_code 2 (some .boolean) :: ws) ({ frames := 0, cells := 0, slots := 0, locals := 0 } : Room)) (fun a U => a = #[(.ref a2_0)] ∧ Z.Warmed39 U.vm ∧ U.heap = h0) (fun _ _ _ _ _ => True) (fun _ U o U' => ∃ v L, o = .returned v ∧ Q2_3 Z a2_0 ka e0_ e1_ e2_ h0 n0 v U'.heap L ∧ FrameEnd U o U' L ({ frames := 0, cells := 0, slots := 0, locals := 0 } : Room).cells ({ frames := 0, cells := 0, slots := 0, locals := 0 } : Room).slots) := by
  refine MetFree.of_bodySF (plainFor_of_name pn_2) hisR ?_
  intro p e s m args below meth c s₁ Bd hml0 hP hK
  obtain ⟨rfl, hZ, hh⟩ := hP
  have hVV : ∀ (i : Nat) (d : Jvm.Cond), tables_1[i]? = some d → d.before a0 Z = true := fun i d h => hw d (List.mem_of_getElem? h)
  have hx := Bd.exec
  have hby := Bd.bytes
  have hml : c.maxLocals = 2 := hml0
  have hown : s.vm.findClass "com/example/regista/regista/Valuations" = some m.cls := findClass_of_methodNamed Bd.named
  have hnm := (name_of_methodNamed Bd.named Bd.method).1
  have X0 : Stand p l e ({ frames := 0, cells := 0, slots := 0, locals := 0 } : Room) s m #[(.ref a2_0)] below meth c s₁ [] 0 0 := Stand.of_body Bd
  have e0 : s₁.heap = h0 := by rw [← hh, Bd.state]; rfl
  have N0 := Fr.nil n0
  have pre0 : ∀ t, Steps p.tables e below (s₁.setTop (mkF m 0 #[.val (.ref a2_0), .unset] [])) t → Steps p.tables e below (s₁.setTop (entryFrame m #[(.ref a2_0)] 2)) t := fun t k => castTop (ef_2 m a2_0) k
  obtain ⟨cl1, Ar1, q1, S1, N1, H1, G1⟩ := id VA
  obtain ⟨cl2, Ar2, q2, S2, N2, H2, G2⟩ := id VA
  have hin2 : ¬ ((0 : Int32) < 0 ∨ cl2.slots.size ≤ ((0 : Int32)).toNatClampNeg) := inb_of S2 ⟨by decide, by decide⟩
  have hat2 : cl2.slots[((0 : Int32)).toNatClampNeg]? = some (.int e0_) := Has.at H2 hin2 rfl
  have pre4 : ∀ t, Steps p.tables e below (s₁.setTop (mkF m 13 #[.val (.ref a2_0), .val (.int (0 : Int32))] [(.int e0_), (.int (0 : Int32)), (.ref a2_0)])) t → Steps p.tables e below (s₁.setTop (entryFrame m #[(.ref a2_0)] 2)) t := fun t k => pre0 t (by
    show Steps p.tables e below (s₁.setTop (mkF m 0 #[.val (.ref a2_0), .unset] [])) _
    refine XS.iconst X0.here hx rfl (hb hby d2_0) ?_
    show Steps p.tables e below (s₁.setTop (mkF m 1 #[.val (.ref a2_0), .unset] [(.int (0 : Int32))])) _
    refine XS.istoreN X0.here hx rfl (hb hby d2_1) rfl (l' := #[.val (.ref a2_0), .val (.int (0 : Int32))]) rfl ?_
    show Steps p.tables e below (s₁.setTop (mkF m 2 #[.val (.ref a2_0), .val (.int (0 : Int32))] [])) _
    refine XS.iloadN X0.here hx rfl (hb hby d2_2) rfl ?_
    refine XS.aloadN X0.here hx rfl (hb hby d2_3) rfl rfl ?_
    show Steps p.tables e below (s₁.setTop (mkF m 4 #[.val (.ref a2_0), .val (.int (0 : Int32))] [(.ref a2_0), (.int (0 : Int32))])) _
    refine X0.arraylength hx (by rw [e0]; exact Ar1.1) (State.isArrayOf_alike hZ.alike Ar1.2.1) (g := (mkF m 4 #[.val (.ref a2_0), .val (.int (0 : Int32))] [(.ref a2_0), (.int (0 : Int32))])) rfl rfl (hb hby d2_4) _ ?_
    rw [len_of S1 N1]
    show Steps p.tables e below (s₁.setTop (mkF m 5 #[.val (.ref a2_0), .val (.int (0 : Int32))] [(.int (3 : Int32)), (.int (0 : Int32))])) _
    refine XS.icmpNo X0.here hx rfl (hb hby d2_5) rfl (tlt (by decide : (0 : Int32) < (3 : Int32))).2.1 ?_
    show Steps p.tables e below (s₁.setTop (mkF m 8 #[.val (.ref a2_0), .val (.int (0 : Int32))] [])) _
    refine XS.aloadN X0.here hx rfl (hb hby d2_8) rfl rfl ?_
    refine XS.iloadN X0.here hx rfl (hb hby d2_9) rfl ?_
    refine XS.aloadN X0.here hx rfl (hb hby d2_10) rfl rfl ?_
    refine XS.iloadN X0.here hx rfl (hb hby d2_11) rfl ?_
    show Steps p.tables e below (s₁.setTop (mkF m 12 #[.val (.ref a2_0), .val (.int (0 : Int32))] [(.int (0 : Int32)), (.ref a2_0), (.int (0 : Int32)), (.ref a2_0)])) _
    refine X0.baloadBooleans hx (j := (0 : Int32)) (v := (.int e0_)) (by rw [e0]; exact Ar2.1) (State.isArrayOf_alike hZ.alike Ar2.2.1) Ar2.2.2 hin2 hat2 (g := (mkF m 12 #[.val (.ref a2_0), .val (.int (0 : Int32))] [(.int (0 : Int32)), (.ref a2_0), (.int (0 : Int32)), (.ref a2_0)])) rfl rfl (hb hby d2_12) _ ?_
    exact k)
  have pre5 : ∀ t, Steps p.tables e below (s₁.setTop (mkF m 21 #[.val (.ref a2_0), .val (.int (0 : Int32))] [(.int (bI (e0_ = (0 : Int32)))), (.int (0 : Int32)), (.ref a2_0)])) t → Steps p.tables e below (s₁.setTop (entryFrame m #[(.ref a2_0)] 2)) t := fun t k => pre4 t (by
    by_cases hc3 : e0_ = (0 : Int32)
    · show Steps p.tables e below (s₁.setTop (mkF m 13 #[.val (.ref a2_0), .val (.int (0 : Int32))] [(.int e0_), (.int (0 : Int32)), (.ref a2_0)])) _
      refine XS.ifNo X0.here hx rfl (hb hby d2_13) rfl ((if0 _ _).trans (teq hc3).2) ?_
      show Steps p.tables e below (s₁.setTop (mkF m 16 #[.val (.ref a2_0), .val (.int (0 : Int32))] [(.int (0 : Int32)), (.ref a2_0)])) _
      refine XS.iconst X0.here hx rfl (hb hby d2_16) ?_
      show Steps p.tables e below (s₁.setTop (mkF m 17 #[.val (.ref a2_0), .val (.int (0 : Int32))] [(.int (1 : Int32)), (.int (0 : Int32)), (.ref a2_0)])) _
      refine XS.goto X0.here hx rfl (pc0 := 17) (pc' := 21) rfl (hb hby d2_17) (by decide) (by decide) ?_
      have q6 : (bI (e0_ = (0 : Int32))) = (1 : Int32) := (bI_t hc3)
      exact castTop (g := (mkF m 21 #[.val (.ref a2_0), .val (.int (0 : Int32))] [(.int (1 : Int32)), (.int (0 : Int32)), (.ref a2_0)])) (g' := (mkF m 21 #[.val (.ref a2_0), .val (.int (0 : Int32))] [(.int (bI (e0_ = (0 : Int32)))), (.int (0 : Int32)), (.ref a2_0)])) (by simp only [q6]) k
    · show Steps p.tables e below (s₁.setTop (mkF m 13 #[.val (.ref a2_0), .val (.int (0 : Int32))] [(.int e0_), (.int (0 : Int32)), (.ref a2_0)])) _
      refine XS.ifYes X0.here hx rfl (pc0 := 13) (pc' := 20) rfl (hb hby d2_13) rfl ((if0 _ _).trans (feq hc3).2) (by decide) (by decide) ?_
      show Steps p.tables e below (s₁.setTop (mkF m 20 #[.val (.ref a2_0), .val (.int (0 : Int32))] [(.int (0 : Int32)), (.ref a2_0)])) _
      refine XS.iconst X0.here hx rfl (hb hby d2_20) ?_
      have q7 : (bI (e0_ = (0 : Int32))) = (0 : Int32) := (bI_f hc3)
      exact castTop (g := (mkF m 21 #[.val (.ref a2_0), .val (.int (0 : Int32))] [(.int (0 : Int32)), (.int (0 : Int32)), (.ref a2_0)])) (g' := (mkF m 21 #[.val (.ref a2_0), .val (.int (0 : Int32))] [(.int (bI (e0_ = (0 : Int32)))), (.int (0 : Int32)), (.ref a2_0)])) (by simp only [q7]) k)
  obtain ⟨cl8, Ar8, q8, S8, N8, H8, G8⟩ := id VA
  have hin8 : ¬ ((0 : Int32) < 0 ∨ cl8.slots.size ≤ ((0 : Int32)).toNatClampNeg) := inb_of S8 ⟨by decide, by decide⟩
  obtain ⟨T8, h8, X8, e8, W8, st8⟩ := stZ X0 hx hZ e0 Ar8 (j := (0 : Int32)) hin8 (g := (mkF m 21 #[.val (.ref a2_0), .val (.int (0 : Int32))] [(.int (bI (e0_ = (0 : Int32)))), (.int (0 : Int32)), (.ref a2_0)])) rfl rfl (hb hby d2_21)
  have V9 : Arv Z h8 a2_0 ka .boolean (3 : Int32) [(.int (nar .boolean (bI (e0_ = (0 : Int32))))), (.int e1_), (.int e2_)] (.int (0 : Int32)) := Arv.set Ar8 q8 S8 N8 H8 G8 (fits_nar_bool _) W8 0 rfl (Nat.le_of_ble_eq_true rfl)
  rw [bI_nar] at V9
  have pre10 : ∀ t, Steps p.tables e below (T8.setTop (mkF m 22 #[.val (.ref a2_0), .val (.int (0 : Int32))] [])) t → Steps p.tables e below (s₁.setTop (entryFrame m #[(.ref a2_0)] 2)) t := fun t k => pre5 t (by
    show Steps p.tables e below (s₁.setTop (mkF m 21 #[.val (.ref a2_0), .val (.int (0 : Int32))] [(.int (bI (e0_ = (0 : Int32)))), (.int (0 : Int32)), (.ref a2_0)])) _
    refine st8 _ ?_
    exact k)
  have z11 := Nat.le_trans Z0 (Keep.of_wr W8).1
  have k12 := (Keep.refl h0 [a2_0]).wr W8 (Or.inl (List.mem_of_getElem? (i := 0) rfl))
  have N13 := Fr.snoc X8 N0 g_a2_0
  obtain ⟨cl14, Ar14, q14, S14, N14, H14, G14⟩ := id V9
  have hin14 : ¬ ((0 : Int32) < 0 ∨ cl14.slots.size ≤ ((0 : Int32)).toNatClampNeg) := inb_of S14 ⟨by decide, by decide⟩
  have hat14 : cl14.slots[((0 : Int32)).toNatClampNeg]? = some (.int (bI (e0_ = (0 : Int32)))) := Has.at H14 hin14 rfl
  by_cases hc15 : e0_ = (0 : Int32)
  · obtain ⟨fs, hr, hrun, hended, hW, hsame⟩ := X8.leave (v := some (.int (1 : Int32))) (fun h => by rw [Bd.returns] at h; cases h)
    refine ⟨_, _, pre10 _ ?_, hrun, hended, _, _, rfl, ?_, ⟨_, rfl⟩, hW, hsame.mono (by decide) (by decide)⟩
    · show Steps p.tables e below (T8.setTop (mkF m 22 #[.val (.ref a2_0), .val (.int (0 : Int32))] [])) _
      refine XS.aloadN X8.here hx rfl (hb hby d2_22) rfl rfl ?_
      refine XS.iloadN X8.here hx rfl (hb hby d2_23) rfl ?_
      show Steps p.tables e below (T8.setTop (mkF m 24 #[.val (.ref a2_0), .val (.int (0 : Int32))] [(.int (0 : Int32)), (.ref a2_0)])) _
      refine X8.baloadBooleans hx (j := (0 : Int32)) (v := (.int (bI (e0_ = (0 : Int32))))) (by rw [e8]; exact Ar14.1) (State.isArrayOf_alike hZ.alike Ar14.2.1) Ar14.2.2 hin14 hat14 (g := (mkF m 24 #[.val (.ref a2_0), .val (.int (0 : Int32))] [(.int (0 : Int32)), (.ref a2_0)])) rfl rfl (hb hby d2_24) _ ?_
      show Steps p.tables e below (T8.setTop (mkF m 25 #[.val (.ref a2_0), .val (.int (0 : Int32))] [(.int (bI (e0_ = (0 : Int32))))])) _
      refine XS.ifNo X8.here hx rfl (hb hby d2_25) rfl ((if0 _ _).trans (feq (bI_n hc15)).1) ?_
      show Steps p.tables e below (T8.setTop (mkF m 28 #[.val (.ref a2_0), .val (.int (0 : Int32))] [])) _
      refine XS.iconst X8.here hx rfl (hb hby d2_28) ?_
      show Steps p.tables e below (T8.setTop (mkF m 29 #[.val (.ref a2_0), .val (.int (0 : Int32))] [(.int (1 : Int32))])) _
      exact retN X8 hx (t := .boolean) Bd.returns (by simp) (hb hby d2_29) hr
    · show Q2_3 Z a2_0 ka e0_ e1_ e2_ h0 n0 _ T8.heap _
      rw [e8]
      exact ⟨(congrArg (fun z => some (Value.int z)) ((bI_t (Or.inl hc15)) : (bI ((e0_ = (0 : Int32)) ∨ ((e1_ = (0 : Int32)) ∨ (e2_ = (0 : Int32))))) = (1 : Int32)).symm), N13, k12, (by rw [show (if e0_ = (0 : Int32) then e1_ else (bI (e1_ = (0 : Int32)))) = e1_ from (if_pos hc15), show (if e0_ = (0 : Int32) then e2_ else (if e1_ = (0 : Int32) then e2_ else (bI (e2_ = (0 : Int32))))) = e2_ from (if_pos hc15)]; exact V9)⟩
  obtain ⟨cl16, Ar16, q16, S16, N16, H16, G16⟩ := id V9
  obtain ⟨cl17, Ar17, q17, S17, N17, H17, G17⟩ := id V9
  have hin17 : ¬ ((1 : Int32) < 0 ∨ cl17.slots.size ≤ ((1 : Int32)).toNatClampNeg) := inb_of S17 ⟨by decide, by decide⟩
  have hat17 : cl17.slots[((1 : Int32)).toNatClampNeg]? = some (.int e1_) := Has.at H17 hin17 rfl
  have pre19 : ∀ t, Steps p.tables e below (T8.setTop (mkF m 13 #[.val (.ref a2_0), .val (.int (1 : Int32))] [(.int e1_), (.int (1 : Int32)), (.ref a2_0)])) t → Steps p.tables e below (s₁.setTop (entryFrame m #[(.ref a2_0)] 2)) t := fun t k => pre10 t (by
    show Steps p.tables e below (T8.setTop (mkF m 22 #[.val (.ref a2_0), .val (.int (0 : Int32))] [])) _
    refine XS.aloadN X8.here hx rfl (hb hby d2_22) rfl rfl ?_
    refine XS.iloadN X8.here hx rfl (hb hby d2_23) rfl ?_
    show Steps p.tables e below (T8.setTop (mkF m 24 #[.val (.ref a2_0), .val (.int (0 : Int32))] [(.int (0 : Int32)), (.ref a2_0)])) _
    refine X8.baloadBooleans hx (j := (0 : Int32)) (v := (.int (bI (e0_ = (0 : Int32))))) (by rw [e8]; exact Ar14.1) (State.isArrayOf_alike hZ.alike Ar14.2.1) Ar14.2.2 hin14 hat14 (g := (mkF m 24 #[.val (.ref a2_0), .val (.int (0 : Int32))] [(.int (0 : Int32)), (.ref a2_0)])) rfl rfl (hb hby d2_24) _ ?_
    show Steps p.tables e below (T8.setTop (mkF m 25 #[.val (.ref a2_0), .val (.int (0 : Int32))] [(.int (bI (e0_ = (0 : Int32))))])) _
    refine XS.ifYes X8.here hx rfl (pc0 := 25) (pc' := 30) rfl (hb hby d2_25) rfl ((if0 _ _).trans (teq (bI_f hc15)).1) (by decide) (by decide) ?_
    show Steps p.tables e below (T8.setTop (mkF m 30 #[.val (.ref a2_0), .val (.int (0 : Int32))] [])) _
    refine XS.iinc X8.here hx rfl (hb hby d2_30) rfl (l' := #[.val (.ref a2_0), .val (.int (1 : Int32))]) rfl ?_
    show Steps p.tables e below (T8.setTop (mkF m 33 #[.val (.ref a2_0), .val (.int (1 : Int32))] [])) _
    refine XS.goto X8.here hx rfl (pc0 := 33) (pc' := 2) rfl (hb hby d2_33) (by decide) (by decide) ?_
    refine XS.iloadN X8.here hx rfl (hb hby d2_2) rfl ?_
    refine XS.aloadN X8.here hx rfl (hb hby d2_3) rfl rfl ?_
    show Steps p.tables e below (T8.setTop (mkF m 4 #[.val (.ref a2_0), .val (.int (1 : Int32))] [(.ref a2_0), (.int (1 : Int32))])) _
    refine X8.arraylength hx (by rw [e8]; exact Ar16.1) (State.isArrayOf_alike hZ.alike Ar16.2.1) (g := (mkF m 4 #[.val (.ref a2_0), .val (.int (1 : Int32))] [(.ref a2_0), (.int (1 : Int32))])) rfl rfl (hb hby d2_4) _ ?_
    rw [len_of S16 N16]
    show Steps p.tables e below (T8.setTop (mkF m 5 #[.val (.ref a2_0), .val (.int (1 : Int32))] [(.int (3 : Int32)), (.int (1 : Int32))])) _
    refine XS.icmpNo X8.here hx rfl (hb hby d2_5) rfl (tlt (by decide : (1 : Int32) < (3 : Int32))).2.1 ?_
    show Steps p.tables e below (T8.setTop (mkF m 8 #[.val (.ref a2_0), .val (.int (1 : Int32))] [])) _
    refine XS.aloadN X8.here hx rfl (hb hby d2_8) rfl rfl ?_
    refine XS.iloadN X8.here hx rfl (hb hby d2_9) rfl ?_
    refine XS.aloadN X8.here hx rfl (hb hby d2_10) rfl rfl ?_
    refine XS.iloadN X8.here hx rfl (hb hby d2_11) rfl ?_
    show Steps p.tables e below (T8.setTop (mkF m 12 #[.val (.ref a2_0), .val (.int (1 : Int32))] [(.int (1 : Int32)), (.ref a2_0), (.int (1 : Int32)), (.ref a2_0)])) _
    refine X8.baloadBooleans hx (j := (1 : Int32)) (v := (.int e1_)) (by rw [e8]; exact Ar17.1) (State.isArrayOf_alike hZ.alike Ar17.2.1) Ar17.2.2 hin17 hat17 (g := (mkF m 12 #[.val (.ref a2_0), .val (.int (1 : Int32))] [(.int (1 : Int32)), (.ref a2_0), (.int (1 : Int32)), (.ref a2_0)])) rfl rfl (hb hby d2_12) _ ?_
    exact k)
  have pre20 : ∀ t, Steps p.tables e below (T8.setTop (mkF m 21 #[.val (.ref a2_0), .val (.int (1 : Int32))] [(.int (bI (e1_ = (0 : Int32)))), (.int (1 : Int32)), (.ref a2_0)])) t → Steps p.tables e below (s₁.setTop (entryFrame m #[(.ref a2_0)] 2)) t := fun t k => pre19 t (by
    by_cases hc18 : e1_ = (0 : Int32)
    · show Steps p.tables e below (T8.setTop (mkF m 13 #[.val (.ref a2_0), .val (.int (1 : Int32))] [(.int e1_), (.int (1 : Int32)), (.ref a2_0)])) _
      refine XS.ifNo X8.here hx rfl (hb hby d2_13) rfl ((if0 _ _).trans (teq hc18).2) ?_
      show Steps p.tables e below (T8.setTop (mkF m 16 #[.val (.ref a2_0), .val (.int (1 : Int32))] [(.int (1 : Int32)), (.ref a2_0)])) _
      refine XS.iconst X8.here hx rfl (hb hby d2_16) ?_
      show Steps p.tables e below (T8.setTop (mkF m 17 #[.val (.ref a2_0), .val (.int (1 : Int32))] [(.int (1 : Int32)), (.int (1 : Int32)), (.ref a2_0)])) _
      refine XS.goto X8.here hx rfl (pc0 := 17) (pc' := 21) rfl (hb hby d2_17) (by decide) (by decide) ?_
      have q21 : (bI (e1_ = (0 : Int32))) = (1 : Int32) := (bI_t hc18)
      exact castTop (g := (mkF m 21 #[.val (.ref a2_0), .val (.int (1 : Int32))] [(.int (1 : Int32)), (.int (1 : Int32)), (.ref a2_0)])) (g' := (mkF m 21 #[.val (.ref a2_0), .val (.int (1 : Int32))] [(.int (bI (e1_ = (0 : Int32)))), (.int (1 : Int32)), (.ref a2_0)])) (by simp only [q21]) k
    · show Steps p.tables e below (T8.setTop (mkF m 13 #[.val (.ref a2_0), .val (.int (1 : Int32))] [(.int e1_), (.int (1 : Int32)), (.ref a2_0)])) _
      refine XS.ifYes X8.here hx rfl (pc0 := 13) (pc' := 20) rfl (hb hby d2_13) rfl ((if0 _ _).trans (feq hc18).2) (by decide) (by decide) ?_
      show Steps p.tables e below (T8.setTop (mkF m 20 #[.val (.ref a2_0), .val (.int (1 : Int32))] [(.int (1 : Int32)), (.ref a2_0)])) _
      refine XS.iconst X8.here hx rfl (hb hby d2_20) ?_
      have q22 : (bI (e1_ = (0 : Int32))) = (0 : Int32) := (bI_f hc18)
      exact castTop (g := (mkF m 21 #[.val (.ref a2_0), .val (.int (1 : Int32))] [(.int (0 : Int32)), (.int (1 : Int32)), (.ref a2_0)])) (g' := (mkF m 21 #[.val (.ref a2_0), .val (.int (1 : Int32))] [(.int (bI (e1_ = (0 : Int32)))), (.int (1 : Int32)), (.ref a2_0)])) (by simp only [q22]) k)
  obtain ⟨cl23, Ar23, q23, S23, N23, H23, G23⟩ := id V9
  have hin23 : ¬ ((1 : Int32) < 0 ∨ cl23.slots.size ≤ ((1 : Int32)).toNatClampNeg) := inb_of S23 ⟨by decide, by decide⟩
  obtain ⟨T23, h23, X23, e23, W23, st23⟩ := stZ X8 hx hZ e8 Ar23 (j := (1 : Int32)) hin23 (g := (mkF m 21 #[.val (.ref a2_0), .val (.int (1 : Int32))] [(.int (bI (e1_ = (0 : Int32)))), (.int (1 : Int32)), (.ref a2_0)])) rfl rfl (hb hby d2_21)
  have V24 : Arv Z h23 a2_0 ka .boolean (3 : Int32) [(.int (bI (e0_ = (0 : Int32)))), (.int (nar .boolean (bI (e1_ = (0 : Int32))))), (.int e2_)] (.int (0 : Int32)) := Arv.set Ar23 q23 S23 N23 H23 G23 (fits_nar_bool _) W23 1 rfl (Nat.le_of_ble_eq_true rfl)
  rw [bI_nar] at V24
  have pre25 : ∀ t, Steps p.tables e below (T23.setTop (mkF m 22 #[.val (.ref a2_0), .val (.int (1 : Int32))] [])) t → Steps p.tables e below (s₁.setTop (entryFrame m #[(.ref a2_0)] 2)) t := fun t k => pre20 t (by
    show Steps p.tables e below (T8.setTop (mkF m 21 #[.val (.ref a2_0), .val (.int (1 : Int32))] [(.int (bI (e1_ = (0 : Int32)))), (.int (1 : Int32)), (.ref a2_0)])) _
    refine st23 _ ?_
    exact k)
  have z26 := Nat.le_trans z11 (Keep.of_wr W23).1
  have k27 := k12.wr W23 (Or.inl (List.mem_of_getElem? (i := 0) rfl))
  have N28 := Fr.snoc X23 N13 g_a2_0
  obtain ⟨cl29, Ar29, q29, S29, N29, H29, G29⟩ := id V24
  have hin29 : ¬ ((1 : Int32) < 0 ∨ cl29.slots.size ≤ ((1 : Int32)).toNatClampNeg) := inb_of S29 ⟨by decide, by decide⟩
  have hat29 : cl29.slots[((1 : Int32)).toNatClampNeg]? = some (.int (bI (e1_ = (0 : Int32)))) := Has.at H29 hin29 rfl
  by_cases hc30 : e1_ = (0 : Int32)
  · obtain ⟨fs, hr, hrun, hended, hW, hsame⟩ := X23.leave (v := some (.int (1 : Int32))) (fun h => by rw [Bd.returns] at h; cases h)
    refine ⟨_, _, pre25 _ ?_, hrun, hended, _, _, rfl, ?_, ⟨_, rfl⟩, hW, hsame.mono (by decide) (by decide)⟩
    · show Steps p.tables e below (T23.setTop (mkF m 22 #[.val (.ref a2_0), .val (.int (1 : Int32))] [])) _
      refine XS.aloadN X23.here hx rfl (hb hby d2_22) rfl rfl ?_
      refine XS.iloadN X23.here hx rfl (hb hby d2_23) rfl ?_
      show Steps p.tables e below (T23.setTop (mkF m 24 #[.val (.ref a2_0), .val (.int (1 : Int32))] [(.int (1 : Int32)), (.ref a2_0)])) _
      refine X23.baloadBooleans hx (j := (1 : Int32)) (v := (.int (bI (e1_ = (0 : Int32))))) (by rw [e23]; exact Ar29.1) (State.isArrayOf_alike hZ.alike Ar29.2.1) Ar29.2.2 hin29 hat29 (g := (mkF m 24 #[.val (.ref a2_0), .val (.int (1 : Int32))] [(.int (1 : Int32)), (.ref a2_0)])) rfl rfl (hb hby d2_24) _ ?_
      show Steps p.tables e below (T23.setTop (mkF m 25 #[.val (.ref a2_0), .val (.int (1 : Int32))] [(.int (bI (e1_ = (0 : Int32))))])) _
      refine XS.ifNo X23.here hx rfl (hb hby d2_25) rfl ((if0 _ _).trans (feq (bI_n hc30)).1) ?_
      show Steps p.tables e below (T23.setTop (mkF m 28 #[.val (.ref a2_0), .val (.int (1 : Int32))] [])) _
      refine XS.iconst X23.here hx rfl (hb hby d2_28) ?_
      show Steps p.tables e below (T23.setTop (mkF m 29 #[.val (.ref a2_0), .val (.int (1 : Int32))] [(.int (1 : Int32))])) _
      exact retN X23 hx (t := .boolean) Bd.returns (by simp) (hb hby d2_29) hr
    · show Q2_3 Z a2_0 ka e0_ e1_ e2_ h0 n0 _ T23.heap _
      rw [e23]
      exact ⟨(congrArg (fun z => some (Value.int z)) ((bI_t (Or.inr (Or.inl hc30))) : (bI ((e0_ = (0 : Int32)) ∨ ((e1_ = (0 : Int32)) ∨ (e2_ = (0 : Int32))))) = (1 : Int32)).symm), N28, k27, (by rw [show (if e0_ = (0 : Int32) then e1_ else (bI (e1_ = (0 : Int32)))) = (bI (e1_ = (0 : Int32))) from (if_neg hc15), show (if e0_ = (0 : Int32) then e2_ else (if e1_ = (0 : Int32) then e2_ else (bI (e2_ = (0 : Int32))))) = e2_ from ((if_neg hc15).trans (if_pos hc30))]; exact V24)⟩
  obtain ⟨cl31, Ar31, q31, S31, N31, H31, G31⟩ := id V24
  obtain ⟨cl32, Ar32, q32, S32, N32, H32, G32⟩ := id V24
  have hin32 : ¬ ((2 : Int32) < 0 ∨ cl32.slots.size ≤ ((2 : Int32)).toNatClampNeg) := inb_of S32 ⟨by decide, by decide⟩
  have hat32 : cl32.slots[((2 : Int32)).toNatClampNeg]? = some (.int e2_) := Has.at H32 hin32 rfl
  have pre34 : ∀ t, Steps p.tables e below (T23.setTop (mkF m 13 #[.val (.ref a2_0), .val (.int (2 : Int32))] [(.int e2_), (.int (2 : Int32)), (.ref a2_0)])) t → Steps p.tables e below (s₁.setTop (entryFrame m #[(.ref a2_0)] 2)) t := fun t k => pre25 t (by
    show Steps p.tables e below (T23.setTop (mkF m 22 #[.val (.ref a2_0), .val (.int (1 : Int32))] [])) _
    refine XS.aloadN X23.here hx rfl (hb hby d2_22) rfl rfl ?_
    refine XS.iloadN X23.here hx rfl (hb hby d2_23) rfl ?_
    show Steps p.tables e below (T23.setTop (mkF m 24 #[.val (.ref a2_0), .val (.int (1 : Int32))] [(.int (1 : Int32)), (.ref a2_0)])) _
    refine X23.baloadBooleans hx (j := (1 : Int32)) (v := (.int (bI (e1_ = (0 : Int32))))) (by rw [e23]; exact Ar29.1) (State.isArrayOf_alike hZ.alike Ar29.2.1) Ar29.2.2 hin29 hat29 (g := (mkF m 24 #[.val (.ref a2_0), .val (.int (1 : Int32))] [(.int (1 : Int32)), (.ref a2_0)])) rfl rfl (hb hby d2_24) _ ?_
    show Steps p.tables e below (T23.setTop (mkF m 25 #[.val (.ref a2_0), .val (.int (1 : Int32))] [(.int (bI (e1_ = (0 : Int32))))])) _
    refine XS.ifYes X23.here hx rfl (pc0 := 25) (pc' := 30) rfl (hb hby d2_25) rfl ((if0 _ _).trans (teq (bI_f hc30)).1) (by decide) (by decide) ?_
    show Steps p.tables e below (T23.setTop (mkF m 30 #[.val (.ref a2_0), .val (.int (1 : Int32))] [])) _
    refine XS.iinc X23.here hx rfl (hb hby d2_30) rfl (l' := #[.val (.ref a2_0), .val (.int (2 : Int32))]) rfl ?_
    show Steps p.tables e below (T23.setTop (mkF m 33 #[.val (.ref a2_0), .val (.int (2 : Int32))] [])) _
    refine XS.goto X23.here hx rfl (pc0 := 33) (pc' := 2) rfl (hb hby d2_33) (by decide) (by decide) ?_
    refine XS.iloadN X23.here hx rfl (hb hby d2_2) rfl ?_
    refine XS.aloadN X23.here hx rfl (hb hby d2_3) rfl rfl ?_
    show Steps p.tables e below (T23.setTop (mkF m 4 #[.val (.ref a2_0), .val (.int (2 : Int32))] [(.ref a2_0), (.int (2 : Int32))])) _
    refine X23.arraylength hx (by rw [e23]; exact Ar31.1) (State.isArrayOf_alike hZ.alike Ar31.2.1) (g := (mkF m 4 #[.val (.ref a2_0), .val (.int (2 : Int32))] [(.ref a2_0), (.int (2 : Int32))])) rfl rfl (hb hby d2_4) _ ?_
    rw [len_of S31 N31]
    show Steps p.tables e below (T23.setTop (mkF m 5 #[.val (.ref a2_0), .val (.int (2 : Int32))] [(.int (3 : Int32)), (.int (2 : Int32))])) _
    refine XS.icmpNo X23.here hx rfl (hb hby d2_5) rfl (tlt (by decide : (2 : Int32) < (3 : Int32))).2.1 ?_
    show Steps p.tables e below (T23.setTop (mkF m 8 #[.val (.ref a2_0), .val (.int (2 : Int32))] [])) _
    refine XS.aloadN X23.here hx rfl (hb hby d2_8) rfl rfl ?_
    refine XS.iloadN X23.here hx rfl (hb hby d2_9) rfl ?_
    refine XS.aloadN X23.here hx rfl (hb hby d2_10) rfl rfl ?_
    refine XS.iloadN X23.here hx rfl (hb hby d2_11) rfl ?_
    show Steps p.tables e below (T23.setTop (mkF m 12 #[.val (.ref a2_0), .val (.int (2 : Int32))] [(.int (2 : Int32)), (.ref a2_0), (.int (2 : Int32)), (.ref a2_0)])) _
    refine X23.baloadBooleans hx (j := (2 : Int32)) (v := (.int e2_)) (by rw [e23]; exact Ar32.1) (State.isArrayOf_alike hZ.alike Ar32.2.1) Ar32.2.2 hin32 hat32 (g := (mkF m 12 #[.val (.ref a2_0), .val (.int (2 : Int32))] [(.int (2 : Int32)), (.ref a2_0), (.int (2 : Int32)), (.ref a2_0)])) rfl rfl (hb hby d2_12) _ ?_
    exact k)
  have pre35 : ∀ t, Steps p.tables e below (T23.setTop (mkF m 21 #[.val (.ref a2_0), .val (.int (2 : Int32))] [(.int (bI (e2_ = (0 : Int32)))), (.int (2 : Int32)), (.ref a2_0)])) t → Steps p.tables e below (s₁.setTop (entryFrame m #[(.ref a2_0)] 2)) t := fun t k => pre34 t (by
    by_cases hc33 : e2_ = (0 : Int32)
    · show Steps p.tables e below (T23.setTop (mkF m 13 #[.val (.ref a2_0), .val (.int (2 : Int32))] [(.int e2_), (.int (2 : Int32)), (.ref a2_0)])) _
      refine XS.ifNo X23.here hx rfl (hb hby d2_13) rfl ((if0 _ _).trans (teq hc33).2) ?_
      show Steps p.tables e below (T23.setTop (mkF m 16 #[.val (.ref a2_0), .val (.int (2 : Int32))] [(.int (2 : Int32)), (.ref a2_0)])) _
      refine XS.iconst X23.here hx rfl (hb hby d2_16) ?_
      show Steps p.tables e below (T23.setTop (mkF m 17 #[.val (.ref a2_0), .val (.int (2 : Int32))] [(.int (1 : Int32)), (.int (2 : Int32)), (.ref a2_0)])) _
      refine XS.goto X23.here hx rfl (pc0 := 17) (pc' := 21) rfl (hb hby d2_17) (by decide) (by decide) ?_
      have q36 : (bI (e2_ = (0 : Int32))) = (1 : Int32) := (bI_t hc33)
      exact castTop (g := (mkF m 21 #[.val (.ref a2_0), .val (.int (2 : Int32))] [(.int (1 : Int32)), (.int (2 : Int32)), (.ref a2_0)])) (g' := (mkF m 21 #[.val (.ref a2_0), .val (.int (2 : Int32))] [(.int (bI (e2_ = (0 : Int32)))), (.int (2 : Int32)), (.ref a2_0)])) (by simp only [q36]) k
    · show Steps p.tables e below (T23.setTop (mkF m 13 #[.val (.ref a2_0), .val (.int (2 : Int32))] [(.int e2_), (.int (2 : Int32)), (.ref a2_0)])) _
      refine XS.ifYes X23.here hx rfl (pc0 := 13) (pc' := 20) rfl (hb hby d2_13) rfl ((if0 _ _).trans (feq hc33).2) (by decide) (by decide) ?_
      show Steps p.tables e below (T23.setTop (mkF m 20 #[.val (.ref a2_0), .val (.int (2 : Int32))] [(.int (2 : Int32)), (.ref a2_0)])) _
      refine XS.iconst X23.here hx rfl (hb hby d2_20) ?_
      have q37 : (bI (e2_ = (0 : Int32))) = (0 : Int32) := (bI_f hc33)
      exact castTop (g := (mkF m 21 #[.val (.ref a2_0), .val (.int (2 : Int32))] [(.int (0 : Int32)), (.int (2 : Int32)), (.ref a2_0)])) (g' := (mkF m 21 #[.val (.ref a2_0), .val (.int (2 : Int32))] [(.int (bI (e2_ = (0 : Int32)))), (.int (2 : Int32)), (.ref a2_0)])) (by simp only [q37]) k)
  obtain ⟨cl38, Ar38, q38, S38, N38, H38, G38⟩ := id V24
  have hin38 : ¬ ((2 : Int32) < 0 ∨ cl38.slots.size ≤ ((2 : Int32)).toNatClampNeg) := inb_of S38 ⟨by decide, by decide⟩
  obtain ⟨T38, h38, X38, e38, W38, st38⟩ := stZ X23 hx hZ e23 Ar38 (j := (2 : Int32)) hin38 (g := (mkF m 21 #[.val (.ref a2_0), .val (.int (2 : Int32))] [(.int (bI (e2_ = (0 : Int32)))), (.int (2 : Int32)), (.ref a2_0)])) rfl rfl (hb hby d2_21)
  have V39 : Arv Z h38 a2_0 ka .boolean (3 : Int32) [(.int (bI (e0_ = (0 : Int32)))), (.int (bI (e1_ = (0 : Int32)))), (.int (nar .boolean (bI (e2_ = (0 : Int32)))))] (.int (0 : Int32)) := Arv.set Ar38 q38 S38 N38 H38 G38 (fits_nar_bool _) W38 2 rfl (Nat.le_of_ble_eq_true rfl)
  rw [bI_nar] at V39
  have pre40 : ∀ t, Steps p.tables e below (T38.setTop (mkF m 22 #[.val (.ref a2_0), .val (.int (2 : Int32))] [])) t → Steps p.tables e below (s₁.setTop (entryFrame m #[(.ref a2_0)] 2)) t := fun t k => pre35 t (by
    show Steps p.tables e below (T23.setTop (mkF m 21 #[.val (.ref a2_0), .val (.int (2 : Int32))] [(.int (bI (e2_ = (0 : Int32)))), (.int (2 : Int32)), (.ref a2_0)])) _
    refine st38 _ ?_
    exact k)
  have z41 := Nat.le_trans z26 (Keep.of_wr W38).1
  have k42 := k27.wr W38 (Or.inl (List.mem_of_getElem? (i := 0) rfl))
  have N43 := Fr.snoc X38 N28 g_a2_0
  obtain ⟨cl44, Ar44, q44, S44, N44, H44, G44⟩ := id V39
  have hin44 : ¬ ((2 : Int32) < 0 ∨ cl44.slots.size ≤ ((2 : Int32)).toNatClampNeg) := inb_of S44 ⟨by decide, by decide⟩
  have hat44 : cl44.slots[((2 : Int32)).toNatClampNeg]? = some (.int (bI (e2_ = (0 : Int32)))) := Has.at H44 hin44 rfl
  by_cases hc45 : e2_ = (0 : Int32)
  · obtain ⟨fs, hr, hrun, hended, hW, hsame⟩ := X38.leave (v := some (.int (1 : Int32))) (fun h => by rw [Bd.returns] at h; cases h)
    refine ⟨_, _, pre40 _ ?_, hrun, hended, _, _, rfl, ?_, ⟨_, rfl⟩, hW, hsame.mono (by decide) (by decide)⟩
    · show Steps p.tables e below (T38.setTop (mkF m 22 #[.val (.ref a2_0), .val (.int (2 : Int32))] [])) _
      refine XS.aloadN X38.here hx rfl (hb hby d2_22) rfl rfl ?_
      refine XS.iloadN X38.here hx rfl (hb hby d2_23) rfl ?_
      show Steps p.tables e below (T38.setTop (mkF m 24 #[.val (.ref a2_0), .val (.int (2 : Int32))] [(.int (2 : Int32)), (.ref a2_0)])) _
      refine X38.baloadBooleans hx (j := (2 : Int32)) (v := (.int (bI (e2_ = (0 : Int32))))) (by rw [e38]; exact Ar44.1) (State.isArrayOf_alike hZ.alike Ar44.2.1) Ar44.2.2 hin44 hat44 (g := (mkF m 24 #[.val (.ref a2_0), .val (.int (2 : Int32))] [(.int (2 : Int32)), (.ref a2_0)])) rfl rfl (hb hby d2_24) _ ?_
      show Steps p.tables e below (T38.setTop (mkF m 25 #[.val (.ref a2_0), .val (.int (2 : Int32))] [(.int (bI (e2_ = (0 : Int32))))])) _
      refine XS.ifNo X38.here hx rfl (hb hby d2_25) rfl ((if0 _ _).trans (feq (bI_n hc45)).1) ?_
      show Steps p.tables e below (T38.setTop (mkF m 28 #[.val (.ref a2_0), .val (.int (2 : Int32))] [])) _
      refine XS.iconst X38.here hx rfl (hb hby d2_28) ?_
      show Steps p.tables e below (T38.setTop (mkF m 29 #[.val (.ref a2_0), .val (.int (2 : Int32))] [(.int (1 : Int32))])) _
      exact retN X38 hx (t := .boolean) Bd.returns (by simp) (hb hby d2_29) hr
    · show Q2_3 Z a2_0 ka e0_ e1_ e2_ h0 n0 _ T38.heap _
      rw [e38]
      exact ⟨(congrArg (fun z => some (Value.int z)) ((bI_t (Or.inr (Or.inr hc45))) : (bI ((e0_ = (0 : Int32)) ∨ ((e1_ = (0 : Int32)) ∨ (e2_ = (0 : Int32))))) = (1 : Int32)).symm), N43, k42, (by rw [show (if e0_ = (0 : Int32) then e1_ else (bI (e1_ = (0 : Int32)))) = (bI (e1_ = (0 : Int32))) from (if_neg hc15), show (if e0_ = (0 : Int32) then e2_ else (if e1_ = (0 : Int32) then e2_ else (bI (e2_ = (0 : Int32))))) = (bI (e2_ = (0 : Int32))) from ((if_neg hc15).trans (if_neg hc30))]; exact V39)⟩
  obtain ⟨cl46, Ar46, q46, S46, N46, H46, G46⟩ := id V39
  obtain ⟨fs, hr, hrun, hended, hW, hsame⟩ := X38.leave (v := some (.int (0 : Int32))) (fun h => by rw [Bd.returns] at h; cases h)
  refine ⟨_, _, pre40 _ ?_, hrun, hended, _, _, rfl, ?_, ⟨_, rfl⟩, hW, hsame.mono (by decide) (by decide)⟩
  · show Steps p.tables e below (T38.setTop (mkF m 22 #[.val (.ref a2_0), .val (.int (2 : Int32))] [])) _
    refine XS.aloadN X38.here hx rfl (hb hby d2_22) rfl rfl ?_
    refine XS.iloadN X38.here hx rfl (hb hby d2_23) rfl ?_
    show Steps p.tables e below (T38.setTop (mkF m 24 #[.val (.ref a2_0), .val (.int (2 : Int32))] [(.int (2 : Int32)), (.ref a2_0)])) _
    refine X38.baloadBooleans hx (j := (2 : Int32)) (v := (.int (bI (e2_ = (0 : Int32))))) (by rw [e38]; exact Ar44.1) (State.isArrayOf_alike hZ.alike Ar44.2.1) Ar44.2.2 hin44 hat44 (g := (mkF m 24 #[.val (.ref a2_0), .val (.int (2 : Int32))] [(.int (2 : Int32)), (.ref a2_0)])) rfl rfl (hb hby d2_24) _ ?_
    show Steps p.tables e below (T38.setTop (mkF m 25 #[.val (.ref a2_0), .val (.int (2 : Int32))] [(.int (bI (e2_ = (0 : Int32))))])) _
    refine XS.ifYes X38.here hx rfl (pc0 := 25) (pc' := 30) rfl (hb hby d2_25) rfl ((if0 _ _).trans (teq (bI_f hc45)).1) (by decide) (by decide) ?_
    show Steps p.tables e below (T38.setTop (mkF m 30 #[.val (.ref a2_0), .val (.int (2 : Int32))] [])) _
    refine XS.iinc X38.here hx rfl (hb hby d2_30) rfl (l' := #[.val (.ref a2_0), .val (.int (3 : Int32))]) rfl ?_
    show Steps p.tables e below (T38.setTop (mkF m 33 #[.val (.ref a2_0), .val (.int (3 : Int32))] [])) _
    refine XS.goto X38.here hx rfl (pc0 := 33) (pc' := 2) rfl (hb hby d2_33) (by decide) (by decide) ?_
    refine XS.iloadN X38.here hx rfl (hb hby d2_2) rfl ?_
    refine XS.aloadN X38.here hx rfl (hb hby d2_3) rfl rfl ?_
    show Steps p.tables e below (T38.setTop (mkF m 4 #[.val (.ref a2_0), .val (.int (3 : Int32))] [(.ref a2_0), (.int (3 : Int32))])) _
    refine X38.arraylength hx (by rw [e38]; exact Ar46.1) (State.isArrayOf_alike hZ.alike Ar46.2.1) (g := (mkF m 4 #[.val (.ref a2_0), .val (.int (3 : Int32))] [(.ref a2_0), (.int (3 : Int32))])) rfl rfl (hb hby d2_4) _ ?_
    rw [len_of S46 N46]
    show Steps p.tables e below (T38.setTop (mkF m 5 #[.val (.ref a2_0), .val (.int (3 : Int32))] [(.int (3 : Int32)), (.int (3 : Int32))])) _
    refine XS.icmpYes X38.here hx rfl (pc0 := 5) (pc' := 36) rfl (hb hby d2_5) rfl (flt (by decide : ¬ ((3 : Int32) < (3 : Int32)))).2.1 (by decide) (by decide) ?_
    show Steps p.tables e below (T38.setTop (mkF m 36 #[.val (.ref a2_0), .val (.int (3 : Int32))] [])) _
    refine XS.iconst X38.here hx rfl (hb hby d2_36) ?_
    show Steps p.tables e below (T38.setTop (mkF m 37 #[.val (.ref a2_0), .val (.int (3 : Int32))] [(.int (0 : Int32))])) _
    exact retN X38 hx (t := .boolean) Bd.returns (by simp) (hb hby d2_37) hr
  · show Q2_3 Z a2_0 ka e0_ e1_ e2_ h0 n0 _ T38.heap _
    rw [e38]
    exact ⟨(congrArg (fun z => some (Value.int z)) ((bI_f (fun z => z.elim hc15 (fun z => z.elim hc30 hc45))) : (bI ((e0_ = (0 : Int32)) ∨ ((e1_ = (0 : Int32)) ∨ (e2_ = (0 : Int32))))) = (0 : Int32)).symm), N43, k42, (by rw [show (if e0_ = (0 : Int32) then e1_ else (bI (e1_ = (0 : Int32)))) = (bI (e1_ = (0 : Int32))) from (if_neg hc15), show (if e0_ = (0 : Int32) then e2_ else (if e1_ = (0 : Int32) then e2_ else (bI (e2_ = (0 : Int32))))) = (bI (e2_ = (0 : Int32))) from ((if_neg hc15).trans (if_neg hc30))]; exact V39)⟩
def Q2_4 (Z : State) (a2_0 : Addr) (ka : ClassId) (e0_ : Int32) (e1_ : Int32) (e2_ : Int32) (e3_ : Int32) (h0 : Heap) (n0 : Nat) (v : Option Value) (h : Heap) (L : List Loc) : Prop := v = some (.int (bI ((e0_ = (0 : Int32)) ∨ ((e1_ = (0 : Int32)) ∨ ((e2_ = (0 : Int32)) ∨ (e3_ = (0 : Int32))))))) ∧ Fr n0 L ∧ Keep h0 h [a2_0] ∧ Arv Z h a2_0 ka .boolean (4 : Int32) [(.int (bI (e0_ = (0 : Int32)))), (.int (if e0_ = (0 : Int32) then e1_ else (bI (e1_ = (0 : Int32))))), (.int (if e0_ = (0 : Int32) then e2_ else (if e1_ = (0 : Int32) then e2_ else (bI (e2_ = (0 : Int32)))))), (.int (if e0_ = (0 : Int32) then e3_ else (if e1_ = (0 : Int32) then e3_ else (if e2_ = (0 : Int32) then e3_ else (bI (e3_ = (0 : Int32)))))))] (.int (0 : Int32))
set_option maxRecDepth 65536 in
set_option maxHeartbeats 40000000 in
theorem rm2_4 (l : Launch) (Z : State) (a0 : Array Value) (hw : ∀ d ∈ tables_1, d.before a0 Z = true) (ws : List Jvm.Cond) (a2_0 : Addr) (ka : ClassId) (e0_ : Int32) (e1_ : Int32) (e2_ : Int32) (e3_ : Int32) (h0 : Heap) (n0 : Nat) (Z0 : n0 ≤ h0.size) (VA : Arv Z h0 a2_0 ka .boolean (4 : Int32) [(.int e0_), (.int e1_), (.int e2_), (.int e3_)] (.int (0 : Int32))) (g_a2_0 : n0 ≤ a2_0) :
    MetFree l mn2 (head1 (Jvm.Cond.code mn2 prog_101_method_2_code 2 (some .boolean) :: ws) ({ frames := 0, cells := 0, slots := 0, locals := 0 } : Room)) (fun a U => a = #[(.ref a2_0)] ∧ Z.Warmed39 U.vm ∧ U.heap = h0) (fun _ _ _ _ _ => True) (fun _ U o U' => ∃ v L, o = .returned v ∧ Q2_4 Z a2_0 ka e0_ e1_ e2_ e3_ h0 n0 v U'.heap L ∧ FrameEnd U o U' L ({ frames := 0, cells := 0, slots := 0, locals := 0 } : Room).cells ({ frames := 0, cells := 0, slots := 0, locals := 0 } : Room).slots) := by
  refine MetFree.of_bodySF (plainFor_of_name pn_2) hisR ?_
  intro p e s m args below meth c s₁ Bd hml0 hP hK
  obtain ⟨rfl, hZ, hh⟩ := hP
  have hVV : ∀ (i : Nat) (d : Jvm.Cond), tables_1[i]? = some d → d.before a0 Z = true := fun i d h => hw d (List.mem_of_getElem? h)
  have hx := Bd.exec
  have hby := Bd.bytes
  have hml : c.maxLocals = 2 := hml0
  have hown : s.vm.findClass "com/example/regista/regista/Valuations" = some m.cls := findClass_of_methodNamed Bd.named
  have hnm := (name_of_methodNamed Bd.named Bd.method).1
  have X0 : Stand p l e ({ frames := 0, cells := 0, slots := 0, locals := 0 } : Room) s m #[(.ref a2_0)] below meth c s₁ [] 0 0 := Stand.of_body Bd
  have e0 : s₁.heap = h0 := by rw [← hh, Bd.state]; rfl
  have N0 := Fr.nil n0
  have pre0 : ∀ t, Steps p.tables e below (s₁.setTop (mkF m 0 #[.val (.ref a2_0), .unset] [])) t → Steps p.tables e below (s₁.setTop (entryFrame m #[(.ref a2_0)] 2)) t := fun t k => castTop (ef_2 m a2_0) k
  obtain ⟨cl1, Ar1, q1, S1, N1, H1, G1⟩ := id VA
  obtain ⟨cl2, Ar2, q2, S2, N2, H2, G2⟩ := id VA
  have hin2 : ¬ ((0 : Int32) < 0 ∨ cl2.slots.size ≤ ((0 : Int32)).toNatClampNeg) := inb_of S2 ⟨by decide, by decide⟩
  have hat2 : cl2.slots[((0 : Int32)).toNatClampNeg]? = some (.int e0_) := Has.at H2 hin2 rfl
  have pre4 : ∀ t, Steps p.tables e below (s₁.setTop (mkF m 13 #[.val (.ref a2_0), .val (.int (0 : Int32))] [(.int e0_), (.int (0 : Int32)), (.ref a2_0)])) t → Steps p.tables e below (s₁.setTop (entryFrame m #[(.ref a2_0)] 2)) t := fun t k => pre0 t (by
    show Steps p.tables e below (s₁.setTop (mkF m 0 #[.val (.ref a2_0), .unset] [])) _
    refine XS.iconst X0.here hx rfl (hb hby d2_0) ?_
    show Steps p.tables e below (s₁.setTop (mkF m 1 #[.val (.ref a2_0), .unset] [(.int (0 : Int32))])) _
    refine XS.istoreN X0.here hx rfl (hb hby d2_1) rfl (l' := #[.val (.ref a2_0), .val (.int (0 : Int32))]) rfl ?_
    show Steps p.tables e below (s₁.setTop (mkF m 2 #[.val (.ref a2_0), .val (.int (0 : Int32))] [])) _
    refine XS.iloadN X0.here hx rfl (hb hby d2_2) rfl ?_
    refine XS.aloadN X0.here hx rfl (hb hby d2_3) rfl rfl ?_
    show Steps p.tables e below (s₁.setTop (mkF m 4 #[.val (.ref a2_0), .val (.int (0 : Int32))] [(.ref a2_0), (.int (0 : Int32))])) _
    refine X0.arraylength hx (by rw [e0]; exact Ar1.1) (State.isArrayOf_alike hZ.alike Ar1.2.1) (g := (mkF m 4 #[.val (.ref a2_0), .val (.int (0 : Int32))] [(.ref a2_0), (.int (0 : Int32))])) rfl rfl (hb hby d2_4) _ ?_
    rw [len_of S1 N1]
    show Steps p.tables e below (s₁.setTop (mkF m 5 #[.val (.ref a2_0), .val (.int (0 : Int32))] [(.int (4 : Int32)), (.int (0 : Int32))])) _
    refine XS.icmpNo X0.here hx rfl (hb hby d2_5) rfl (tlt (by decide : (0 : Int32) < (4 : Int32))).2.1 ?_
    show Steps p.tables e below (s₁.setTop (mkF m 8 #[.val (.ref a2_0), .val (.int (0 : Int32))] [])) _
    refine XS.aloadN X0.here hx rfl (hb hby d2_8) rfl rfl ?_
    refine XS.iloadN X0.here hx rfl (hb hby d2_9) rfl ?_
    refine XS.aloadN X0.here hx rfl (hb hby d2_10) rfl rfl ?_
    refine XS.iloadN X0.here hx rfl (hb hby d2_11) rfl ?_
    show Steps p.tables e below (s₁.setTop (mkF m 12 #[.val (.ref a2_0), .val (.int (0 : Int32))] [(.int (0 : Int32)), (.ref a2_0), (.int (0 : Int32)), (.ref a2_0)])) _
    refine X0.baloadBooleans hx (j := (0 : Int32)) (v := (.int e0_)) (by rw [e0]; exact Ar2.1) (State.isArrayOf_alike hZ.alike Ar2.2.1) Ar2.2.2 hin2 hat2 (g := (mkF m 12 #[.val (.ref a2_0), .val (.int (0 : Int32))] [(.int (0 : Int32)), (.ref a2_0), (.int (0 : Int32)), (.ref a2_0)])) rfl rfl (hb hby d2_12) _ ?_
    exact k)
  have pre5 : ∀ t, Steps p.tables e below (s₁.setTop (mkF m 21 #[.val (.ref a2_0), .val (.int (0 : Int32))] [(.int (bI (e0_ = (0 : Int32)))), (.int (0 : Int32)), (.ref a2_0)])) t → Steps p.tables e below (s₁.setTop (entryFrame m #[(.ref a2_0)] 2)) t := fun t k => pre4 t (by
    by_cases hc3 : e0_ = (0 : Int32)
    · show Steps p.tables e below (s₁.setTop (mkF m 13 #[.val (.ref a2_0), .val (.int (0 : Int32))] [(.int e0_), (.int (0 : Int32)), (.ref a2_0)])) _
      refine XS.ifNo X0.here hx rfl (hb hby d2_13) rfl ((if0 _ _).trans (teq hc3).2) ?_
      show Steps p.tables e below (s₁.setTop (mkF m 16 #[.val (.ref a2_0), .val (.int (0 : Int32))] [(.int (0 : Int32)), (.ref a2_0)])) _
      refine XS.iconst X0.here hx rfl (hb hby d2_16) ?_
      show Steps p.tables e below (s₁.setTop (mkF m 17 #[.val (.ref a2_0), .val (.int (0 : Int32))] [(.int (1 : Int32)), (.int (0 : Int32)), (.ref a2_0)])) _
      refine XS.goto X0.here hx rfl (pc0 := 17) (pc' := 21) rfl (hb hby d2_17) (by decide) (by decide) ?_
      have q6 : (bI (e0_ = (0 : Int32))) = (1 : Int32) := (bI_t hc3)
      exact castTop (g := (mkF m 21 #[.val (.ref a2_0), .val (.int (0 : Int32))] [(.int (1 : Int32)), (.int (0 : Int32)), (.ref a2_0)])) (g' := (mkF m 21 #[.val (.ref a2_0), .val (.int (0 : Int32))] [(.int (bI (e0_ = (0 : Int32)))), (.int (0 : Int32)), (.ref a2_0)])) (by simp only [q6]) k
    · show Steps p.tables e below (s₁.setTop (mkF m 13 #[.val (.ref a2_0), .val (.int (0 : Int32))] [(.int e0_), (.int (0 : Int32)), (.ref a2_0)])) _
      refine XS.ifYes X0.here hx rfl (pc0 := 13) (pc' := 20) rfl (hb hby d2_13) rfl ((if0 _ _).trans (feq hc3).2) (by decide) (by decide) ?_
      show Steps p.tables e below (s₁.setTop (mkF m 20 #[.val (.ref a2_0), .val (.int (0 : Int32))] [(.int (0 : Int32)), (.ref a2_0)])) _
      refine XS.iconst X0.here hx rfl (hb hby d2_20) ?_
      have q7 : (bI (e0_ = (0 : Int32))) = (0 : Int32) := (bI_f hc3)
      exact castTop (g := (mkF m 21 #[.val (.ref a2_0), .val (.int (0 : Int32))] [(.int (0 : Int32)), (.int (0 : Int32)), (.ref a2_0)])) (g' := (mkF m 21 #[.val (.ref a2_0), .val (.int (0 : Int32))] [(.int (bI (e0_ = (0 : Int32)))), (.int (0 : Int32)), (.ref a2_0)])) (by simp only [q7]) k)
  obtain ⟨cl8, Ar8, q8, S8, N8, H8, G8⟩ := id VA
  have hin8 : ¬ ((0 : Int32) < 0 ∨ cl8.slots.size ≤ ((0 : Int32)).toNatClampNeg) := inb_of S8 ⟨by decide, by decide⟩
  obtain ⟨T8, h8, X8, e8, W8, st8⟩ := stZ X0 hx hZ e0 Ar8 (j := (0 : Int32)) hin8 (g := (mkF m 21 #[.val (.ref a2_0), .val (.int (0 : Int32))] [(.int (bI (e0_ = (0 : Int32)))), (.int (0 : Int32)), (.ref a2_0)])) rfl rfl (hb hby d2_21)
  have V9 : Arv Z h8 a2_0 ka .boolean (4 : Int32) [(.int (nar .boolean (bI (e0_ = (0 : Int32))))), (.int e1_), (.int e2_), (.int e3_)] (.int (0 : Int32)) := Arv.set Ar8 q8 S8 N8 H8 G8 (fits_nar_bool _) W8 0 rfl (Nat.le_of_ble_eq_true rfl)
  rw [bI_nar] at V9
  have pre10 : ∀ t, Steps p.tables e below (T8.setTop (mkF m 22 #[.val (.ref a2_0), .val (.int (0 : Int32))] [])) t → Steps p.tables e below (s₁.setTop (entryFrame m #[(.ref a2_0)] 2)) t := fun t k => pre5 t (by
    show Steps p.tables e below (s₁.setTop (mkF m 21 #[.val (.ref a2_0), .val (.int (0 : Int32))] [(.int (bI (e0_ = (0 : Int32)))), (.int (0 : Int32)), (.ref a2_0)])) _
    refine st8 _ ?_
    exact k)
  have z11 := Nat.le_trans Z0 (Keep.of_wr W8).1
  have k12 := (Keep.refl h0 [a2_0]).wr W8 (Or.inl (List.mem_of_getElem? (i := 0) rfl))
  have N13 := Fr.snoc X8 N0 g_a2_0
  obtain ⟨cl14, Ar14, q14, S14, N14, H14, G14⟩ := id V9
  have hin14 : ¬ ((0 : Int32) < 0 ∨ cl14.slots.size ≤ ((0 : Int32)).toNatClampNeg) := inb_of S14 ⟨by decide, by decide⟩
  have hat14 : cl14.slots[((0 : Int32)).toNatClampNeg]? = some (.int (bI (e0_ = (0 : Int32)))) := Has.at H14 hin14 rfl
  by_cases hc15 : e0_ = (0 : Int32)
  · obtain ⟨fs, hr, hrun, hended, hW, hsame⟩ := X8.leave (v := some (.int (1 : Int32))) (fun h => by rw [Bd.returns] at h; cases h)
    refine ⟨_, _, pre10 _ ?_, hrun, hended, _, _, rfl, ?_, ⟨_, rfl⟩, hW, hsame.mono (by decide) (by decide)⟩
    · show Steps p.tables e below (T8.setTop (mkF m 22 #[.val (.ref a2_0), .val (.int (0 : Int32))] [])) _
      refine XS.aloadN X8.here hx rfl (hb hby d2_22) rfl rfl ?_
      refine XS.iloadN X8.here hx rfl (hb hby d2_23) rfl ?_
      show Steps p.tables e below (T8.setTop (mkF m 24 #[.val (.ref a2_0), .val (.int (0 : Int32))] [(.int (0 : Int32)), (.ref a2_0)])) _
      refine X8.baloadBooleans hx (j := (0 : Int32)) (v := (.int (bI (e0_ = (0 : Int32))))) (by rw [e8]; exact Ar14.1) (State.isArrayOf_alike hZ.alike Ar14.2.1) Ar14.2.2 hin14 hat14 (g := (mkF m 24 #[.val (.ref a2_0), .val (.int (0 : Int32))] [(.int (0 : Int32)), (.ref a2_0)])) rfl rfl (hb hby d2_24) _ ?_
      show Steps p.tables e below (T8.setTop (mkF m 25 #[.val (.ref a2_0), .val (.int (0 : Int32))] [(.int (bI (e0_ = (0 : Int32))))])) _
      refine XS.ifNo X8.here hx rfl (hb hby d2_25) rfl ((if0 _ _).trans (feq (bI_n hc15)).1) ?_
      show Steps p.tables e below (T8.setTop (mkF m 28 #[.val (.ref a2_0), .val (.int (0 : Int32))] [])) _
      refine XS.iconst X8.here hx rfl (hb hby d2_28) ?_
      show Steps p.tables e below (T8.setTop (mkF m 29 #[.val (.ref a2_0), .val (.int (0 : Int32))] [(.int (1 : Int32))])) _
      exact retN X8 hx (t := .boolean) Bd.returns (by simp) (hb hby d2_29) hr
    · show Q2_4 Z a2_0 ka e0_ e1_ e2_ e3_ h0 n0 _ T8.heap _
      rw [e8]
      exact ⟨(congrArg (fun z => some (Value.int z)) ((bI_t (Or.inl hc15)) : (bI ((e0_ = (0 : Int32)) ∨ ((e1_ = (0 : Int32)) ∨ ((e2_ = (0 : Int32)) ∨ (e3_ = (0 : Int32)))))) = (1 : Int32)).symm), N13, k12, (by rw [show (if e0_ = (0 : Int32) then e1_ else (bI (e1_ = (0 : Int32)))) = e1_ from (if_pos hc15), show (if e0_ = (0 : Int32) then e2_ else (if e1_ = (0 : Int32) then e2_ else (bI (e2_ = (0 : Int32))))) = e2_ from (if_pos hc15), show (if e0_ = (0 : Int32) then e3_ else (if e1_ = (0 : Int32) then e3_ else (if e2_ = (0 : Int32) then e3_ else (bI (e3_ = (0 : Int32)))))) = e3_ from (if_pos hc15)]; exact V9)⟩
  obtain ⟨cl16, Ar16, q16, S16, N16, H16, G16⟩ := id V9
  obtain ⟨cl17, Ar17, q17, S17, N17, H17, G17⟩ := id V9
  have hin17 : ¬ ((1 : Int32) < 0 ∨ cl17.slots.size ≤ ((1 : Int32)).toNatClampNeg) := inb_of S17 ⟨by decide, by decide⟩
  have hat17 : cl17.slots[((1 : Int32)).toNatClampNeg]? = some (.int e1_) := Has.at H17 hin17 rfl
  have pre19 : ∀ t, Steps p.tables e below (T8.setTop (mkF m 13 #[.val (.ref a2_0), .val (.int (1 : Int32))] [(.int e1_), (.int (1 : Int32)), (.ref a2_0)])) t → Steps p.tables e below (s₁.setTop (entryFrame m #[(.ref a2_0)] 2)) t := fun t k => pre10 t (by
    show Steps p.tables e below (T8.setTop (mkF m 22 #[.val (.ref a2_0), .val (.int (0 : Int32))] [])) _
    refine XS.aloadN X8.here hx rfl (hb hby d2_22) rfl rfl ?_
    refine XS.iloadN X8.here hx rfl (hb hby d2_23) rfl ?_
    show Steps p.tables e below (T8.setTop (mkF m 24 #[.val (.ref a2_0), .val (.int (0 : Int32))] [(.int (0 : Int32)), (.ref a2_0)])) _
    refine X8.baloadBooleans hx (j := (0 : Int32)) (v := (.int (bI (e0_ = (0 : Int32))))) (by rw [e8]; exact Ar14.1) (State.isArrayOf_alike hZ.alike Ar14.2.1) Ar14.2.2 hin14 hat14 (g := (mkF m 24 #[.val (.ref a2_0), .val (.int (0 : Int32))] [(.int (0 : Int32)), (.ref a2_0)])) rfl rfl (hb hby d2_24) _ ?_
    show Steps p.tables e below (T8.setTop (mkF m 25 #[.val (.ref a2_0), .val (.int (0 : Int32))] [(.int (bI (e0_ = (0 : Int32))))])) _
    refine XS.ifYes X8.here hx rfl (pc0 := 25) (pc' := 30) rfl (hb hby d2_25) rfl ((if0 _ _).trans (teq (bI_f hc15)).1) (by decide) (by decide) ?_
    show Steps p.tables e below (T8.setTop (mkF m 30 #[.val (.ref a2_0), .val (.int (0 : Int32))] [])) _
    refine XS.iinc X8.here hx rfl (hb hby d2_30) rfl (l' := #[.val (.ref a2_0), .val (.int (1 : Int32))]) rfl ?_
    show Steps p.tables e below (T8.setTop (mkF m 33 #[.val (.ref a2_0), .val (.int (1 : Int32))] [])) _
    refine XS.goto X8.here hx rfl (pc0 := 33) (pc' := 2) rfl (hb hby d2_33) (by decide) (by decide) ?_
    refine XS.iloadN X8.here hx rfl (hb hby d2_2) rfl ?_
    refine XS.aloadN X8.here hx rfl (hb hby d2_3) rfl rfl ?_
    show Steps p.tables e below (T8.setTop (mkF m 4 #[.val (.ref a2_0), .val (.int (1 : Int32))] [(.ref a2_0), (.int (1 : Int32))])) _
    refine X8.arraylength hx (by rw [e8]; exact Ar16.1) (State.isArrayOf_alike hZ.alike Ar16.2.1) (g := (mkF m 4 #[.val (.ref a2_0), .val (.int (1 : Int32))] [(.ref a2_0), (.int (1 : Int32))])) rfl rfl (hb hby d2_4) _ ?_
    rw [len_of S16 N16]
    show Steps p.tables e below (T8.setTop (mkF m 5 #[.val (.ref a2_0), .val (.int (1 : Int32))] [(.int (4 : Int32)), (.int (1 : Int32))])) _
    refine XS.icmpNo X8.here hx rfl (hb hby d2_5) rfl (tlt (by decide : (1 : Int32) < (4 : Int32))).2.1 ?_
    show Steps p.tables e below (T8.setTop (mkF m 8 #[.val (.ref a2_0), .val (.int (1 : Int32))] [])) _
    refine XS.aloadN X8.here hx rfl (hb hby d2_8) rfl rfl ?_
    refine XS.iloadN X8.here hx rfl (hb hby d2_9) rfl ?_
    refine XS.aloadN X8.here hx rfl (hb hby d2_10) rfl rfl ?_
    refine XS.iloadN X8.here hx rfl (hb hby d2_11) rfl ?_
    show Steps p.tables e below (T8.setTop (mkF m 12 #[.val (.ref a2_0), .val (.int (1 : Int32))] [(.int (1 : Int32)), (.ref a2_0), (.int (1 : Int32)), (.ref a2_0)])) _
    refine X8.baloadBooleans hx (j := (1 : Int32)) (v := (.int e1_)) (by rw [e8]; exact Ar17.1) (State.isArrayOf_alike hZ.alike Ar17.2.1) Ar17.2.2 hin17 hat17 (g := (mkF m 12 #[.val (.ref a2_0), .val (.int (1 : Int32))] [(.int (1 : Int32)), (.ref a2_0), (.int (1 : Int32)), (.ref a2_0)])) rfl rfl (hb hby d2_12) _ ?_
    exact k)
  have pre20 : ∀ t, Steps p.tables e below (T8.setTop (mkF m 21 #[.val (.ref a2_0), .val (.int (1 : Int32))] [(.int (bI (e1_ = (0 : Int32)))), (.int (1 : Int32)), (.ref a2_0)])) t → Steps p.tables e below (s₁.setTop (entryFrame m #[(.ref a2_0)] 2)) t := fun t k => pre19 t (by
    by_cases hc18 : e1_ = (0 : Int32)
    · show Steps p.tables e below (T8.setTop (mkF m 13 #[.val (.ref a2_0), .val (.int (1 : Int32))] [(.int e1_), (.int (1 : Int32)), (.ref a2_0)])) _
      refine XS.ifNo X8.here hx rfl (hb hby d2_13) rfl ((if0 _ _).trans (teq hc18).2) ?_
      show Steps p.tables e below (T8.setTop (mkF m 16 #[.val (.ref a2_0), .val (.int (1 : Int32))] [(.int (1 : Int32)), (.ref a2_0)])) _
      refine XS.iconst X8.here hx rfl (hb hby d2_16) ?_
      show Steps p.tables e below (T8.setTop (mkF m 17 #[.val (.ref a2_0), .val (.int (1 : Int32))] [(.int (1 : Int32)), (.int (1 : Int32)), (.ref a2_0)])) _
      refine XS.goto X8.here hx rfl (pc0 := 17) (pc' := 21) rfl (hb hby d2_17) (by decide) (by decide) ?_
      have q21 : (bI (e1_ = (0 : Int32))) = (1 : Int32) := (bI_t hc18)
      exact castTop (g := (mkF m 21 #[.val (.ref a2_0), .val (.int (1 : Int32))] [(.int (1 : Int32)), (.int (1 : Int32)), (.ref a2_0)])) (g' := (mkF m 21 #[.val (.ref a2_0), .val (.int (1 : Int32))] [(.int (bI (e1_ = (0 : Int32)))), (.int (1 : Int32)), (.ref a2_0)])) (by simp only [q21]) k
    · show Steps p.tables e below (T8.setTop (mkF m 13 #[.val (.ref a2_0), .val (.int (1 : Int32))] [(.int e1_), (.int (1 : Int32)), (.ref a2_0)])) _
      refine XS.ifYes X8.here hx rfl (pc0 := 13) (pc' := 20) rfl (hb hby d2_13) rfl ((if0 _ _).trans (feq hc18).2) (by decide) (by decide) ?_
      show Steps p.tables e below (T8.setTop (mkF m 20 #[.val (.ref a2_0), .val (.int (1 : Int32))] [(.int (1 : Int32)), (.ref a2_0)])) _
      refine XS.iconst X8.here hx rfl (hb hby d2_20) ?_
      have q22 : (bI (e1_ = (0 : Int32))) = (0 : Int32) := (bI_f hc18)
      exact castTop (g := (mkF m 21 #[.val (.ref a2_0), .val (.int (1 : Int32))] [(.int (0 : Int32)), (.int (1 : Int32)), (.ref a2_0)])) (g' := (mkF m 21 #[.val (.ref a2_0), .val (.int (1 : Int32))] [(.int (bI (e1_ = (0 : Int32)))), (.int (1 : Int32)), (.ref a2_0)])) (by simp only [q22]) k)
  obtain ⟨cl23, Ar23, q23, S23, N23, H23, G23⟩ := id V9
  have hin23 : ¬ ((1 : Int32) < 0 ∨ cl23.slots.size ≤ ((1 : Int32)).toNatClampNeg) := inb_of S23 ⟨by decide, by decide⟩
  obtain ⟨T23, h23, X23, e23, W23, st23⟩ := stZ X8 hx hZ e8 Ar23 (j := (1 : Int32)) hin23 (g := (mkF m 21 #[.val (.ref a2_0), .val (.int (1 : Int32))] [(.int (bI (e1_ = (0 : Int32)))), (.int (1 : Int32)), (.ref a2_0)])) rfl rfl (hb hby d2_21)
  have V24 : Arv Z h23 a2_0 ka .boolean (4 : Int32) [(.int (bI (e0_ = (0 : Int32)))), (.int (nar .boolean (bI (e1_ = (0 : Int32))))), (.int e2_), (.int e3_)] (.int (0 : Int32)) := Arv.set Ar23 q23 S23 N23 H23 G23 (fits_nar_bool _) W23 1 rfl (Nat.le_of_ble_eq_true rfl)
  rw [bI_nar] at V24
  have pre25 : ∀ t, Steps p.tables e below (T23.setTop (mkF m 22 #[.val (.ref a2_0), .val (.int (1 : Int32))] [])) t → Steps p.tables e below (s₁.setTop (entryFrame m #[(.ref a2_0)] 2)) t := fun t k => pre20 t (by
    show Steps p.tables e below (T8.setTop (mkF m 21 #[.val (.ref a2_0), .val (.int (1 : Int32))] [(.int (bI (e1_ = (0 : Int32)))), (.int (1 : Int32)), (.ref a2_0)])) _
    refine st23 _ ?_
    exact k)
  have z26 := Nat.le_trans z11 (Keep.of_wr W23).1
  have k27 := k12.wr W23 (Or.inl (List.mem_of_getElem? (i := 0) rfl))
  have N28 := Fr.snoc X23 N13 g_a2_0
  obtain ⟨cl29, Ar29, q29, S29, N29, H29, G29⟩ := id V24
  have hin29 : ¬ ((1 : Int32) < 0 ∨ cl29.slots.size ≤ ((1 : Int32)).toNatClampNeg) := inb_of S29 ⟨by decide, by decide⟩
  have hat29 : cl29.slots[((1 : Int32)).toNatClampNeg]? = some (.int (bI (e1_ = (0 : Int32)))) := Has.at H29 hin29 rfl
  by_cases hc30 : e1_ = (0 : Int32)
  · obtain ⟨fs, hr, hrun, hended, hW, hsame⟩ := X23.leave (v := some (.int (1 : Int32))) (fun h => by rw [Bd.returns] at h; cases h)
    refine ⟨_, _, pre25 _ ?_, hrun, hended, _, _, rfl, ?_, ⟨_, rfl⟩, hW, hsame.mono (by decide) (by decide)⟩
    · show Steps p.tables e below (T23.setTop (mkF m 22 #[.val (.ref a2_0), .val (.int (1 : Int32))] [])) _
      refine XS.aloadN X23.here hx rfl (hb hby d2_22) rfl rfl ?_
      refine XS.iloadN X23.here hx rfl (hb hby d2_23) rfl ?_
      show Steps p.tables e below (T23.setTop (mkF m 24 #[.val (.ref a2_0), .val (.int (1 : Int32))] [(.int (1 : Int32)), (.ref a2_0)])) _
      refine X23.baloadBooleans hx (j := (1 : Int32)) (v := (.int (bI (e1_ = (0 : Int32))))) (by rw [e23]; exact Ar29.1) (State.isArrayOf_alike hZ.alike Ar29.2.1) Ar29.2.2 hin29 hat29 (g := (mkF m 24 #[.val (.ref a2_0), .val (.int (1 : Int32))] [(.int (1 : Int32)), (.ref a2_0)])) rfl rfl (hb hby d2_24) _ ?_
      show Steps p.tables e below (T23.setTop (mkF m 25 #[.val (.ref a2_0), .val (.int (1 : Int32))] [(.int (bI (e1_ = (0 : Int32))))])) _
      refine XS.ifNo X23.here hx rfl (hb hby d2_25) rfl ((if0 _ _).trans (feq (bI_n hc30)).1) ?_
      show Steps p.tables e below (T23.setTop (mkF m 28 #[.val (.ref a2_0), .val (.int (1 : Int32))] [])) _
      refine XS.iconst X23.here hx rfl (hb hby d2_28) ?_
      show Steps p.tables e below (T23.setTop (mkF m 29 #[.val (.ref a2_0), .val (.int (1 : Int32))] [(.int (1 : Int32))])) _
      exact retN X23 hx (t := .boolean) Bd.returns (by simp) (hb hby d2_29) hr
    · show Q2_4 Z a2_0 ka e0_ e1_ e2_ e3_ h0 n0 _ T23.heap _
      rw [e23]
      exact ⟨(congrArg (fun z => some (Value.int z)) ((bI_t (Or.inr (Or.inl hc30))) : (bI ((e0_ = (0 : Int32)) ∨ ((e1_ = (0 : Int32)) ∨ ((e2_ = (0 : Int32)) ∨ (e3_ = (0 : Int32)))))) = (1 : Int32)).symm), N28, k27, (by rw [show (if e0_ = (0 : Int32) then e1_ else (bI (e1_ = (0 : Int32)))) = (bI (e1_ = (0 : Int32))) from (if_neg hc15), show (if e0_ = (0 : Int32) then e2_ else (if e1_ = (0 : Int32) then e2_ else (bI (e2_ = (0 : Int32))))) = e2_ from ((if_neg hc15).trans (if_pos hc30)), show (if e0_ = (0 : Int32) then e3_ else (if e1_ = (0 : Int32) then e3_ else (if e2_ = (0 : Int32) then e3_ else (bI (e3_ = (0 : Int32)))))) = e3_ from ((if_neg hc15).trans (if_pos hc30))]; exact V24)⟩
  obtain ⟨cl31, Ar31, q31, S31, N31, H31, G31⟩ := id V24
  obtain ⟨cl32, Ar32, q32, S32, N32, H32, G32⟩ := id V24
  have hin32 : ¬ ((2 : Int32) < 0 ∨ cl32.slots.size ≤ ((2 : Int32)).toNatClampNeg) := inb_of S32 ⟨by decide, by decide⟩
  have hat32 : cl32.slots[((2 : Int32)).toNatClampNeg]? = some (.int e2_) := Has.at H32 hin32 rfl
  have pre34 : ∀ t, Steps p.tables e below (T23.setTop (mkF m 13 #[.val (.ref a2_0), .val (.int (2 : Int32))] [(.int e2_), (.int (2 : Int32)), (.ref a2_0)])) t → Steps p.tables e below (s₁.setTop (entryFrame m #[(.ref a2_0)] 2)) t := fun t k => pre25 t (by
    show Steps p.tables e below (T23.setTop (mkF m 22 #[.val (.ref a2_0), .val (.int (1 : Int32))] [])) _
    refine XS.aloadN X23.here hx rfl (hb hby d2_22) rfl rfl ?_
    refine XS.iloadN X23.here hx rfl (hb hby d2_23) rfl ?_
    show Steps p.tables e below (T23.setTop (mkF m 24 #[.val (.ref a2_0), .val (.int (1 : Int32))] [(.int (1 : Int32)), (.ref a2_0)])) _
    refine X23.baloadBooleans hx (j := (1 : Int32)) (v := (.int (bI (e1_ = (0 : Int32))))) (by rw [e23]; exact Ar29.1) (State.isArrayOf_alike hZ.alike Ar29.2.1) Ar29.2.2 hin29 hat29 (g := (mkF m 24 #[.val (.ref a2_0), .val (.int (1 : Int32))] [(.int (1 : Int32)), (.ref a2_0)])) rfl rfl (hb hby d2_24) _ ?_
    show Steps p.tables e below (T23.setTop (mkF m 25 #[.val (.ref a2_0), .val (.int (1 : Int32))] [(.int (bI (e1_ = (0 : Int32))))])) _
    refine XS.ifYes X23.here hx rfl (pc0 := 25) (pc' := 30) rfl (hb hby d2_25) rfl ((if0 _ _).trans (teq (bI_f hc30)).1) (by decide) (by decide) ?_
    show Steps p.tables e below (T23.setTop (mkF m 30 #[.val (.ref a2_0), .val (.int (1 : Int32))] [])) _
    refine XS.iinc X23.here hx rfl (hb hby d2_30) rfl (l' := #[.val (.ref a2_0), .val (.int (2 : Int32))]) rfl ?_
    show Steps p.tables e below (T23.setTop (mkF m 33 #[.val (.ref a2_0), .val (.int (2 : Int32))] [])) _
    refine XS.goto X23.here hx rfl (pc0 := 33) (pc' := 2) rfl (hb hby d2_33) (by decide) (by decide) ?_
    refine XS.iloadN X23.here hx rfl (hb hby d2_2) rfl ?_
    refine XS.aloadN X23.here hx rfl (hb hby d2_3) rfl rfl ?_
    show Steps p.tables e below (T23.setTop (mkF m 4 #[.val (.ref a2_0), .val (.int (2 : Int32))] [(.ref a2_0), (.int (2 : Int32))])) _
    refine X23.arraylength hx (by rw [e23]; exact Ar31.1) (State.isArrayOf_alike hZ.alike Ar31.2.1) (g := (mkF m 4 #[.val (.ref a2_0), .val (.int (2 : Int32))] [(.ref a2_0), (.int (2 : Int32))])) rfl rfl (hb hby d2_4) _ ?_
    rw [len_of S31 N31]
    show Steps p.tables e below (T23.setTop (mkF m 5 #[.val (.ref a2_0), .val (.int (2 : Int32))] [(.int (4 : Int32)), (.int (2 : Int32))])) _
    refine XS.icmpNo X23.here hx rfl (hb hby d2_5) rfl (tlt (by decide : (2 : Int32) < (4 : Int32))).2.1 ?_
    show Steps p.tables e below (T23.setTop (mkF m 8 #[.val (.ref a2_0), .val (.int (2 : Int32))] [])) _
    refine XS.aloadN X23.here hx rfl (hb hby d2_8) rfl rfl ?_
    refine XS.iloadN X23.here hx rfl (hb hby d2_9) rfl ?_
    refine XS.aloadN X23.here hx rfl (hb hby d2_10) rfl rfl ?_
    refine XS.iloadN X23.here hx rfl (hb hby d2_11) rfl ?_
    show Steps p.tables e below (T23.setTop (mkF m 12 #[.val (.ref a2_0), .val (.int (2 : Int32))] [(.int (2 : Int32)), (.ref a2_0), (.int (2 : Int32)), (.ref a2_0)])) _
    refine X23.baloadBooleans hx (j := (2 : Int32)) (v := (.int e2_)) (by rw [e23]; exact Ar32.1) (State.isArrayOf_alike hZ.alike Ar32.2.1) Ar32.2.2 hin32 hat32 (g := (mkF m 12 #[.val (.ref a2_0), .val (.int (2 : Int32))] [(.int (2 : Int32)), (.ref a2_0), (.int (2 : Int32)), (.ref a2_0)])) rfl rfl (hb hby d2_12) _ ?_
    exact k)
  have pre35 : ∀ t, Steps p.tables e below (T23.setTop (mkF m 21 #[.val (.ref a2_0), .val (.int (2 : Int32))] [(.int (bI (e2_ = (0 : Int32)))), (.int (2 : Int32)), (.ref a2_0)])) t → Steps p.tables e below (s₁.setTop (entryFrame m #[(.ref a2_0)] 2)) t := fun t k => pre34 t (by
    by_cases hc33 : e2_ = (0 : Int32)
    · show Steps p.tables e below (T23.setTop (mkF m 13 #[.val (.ref a2_0), .val (.int (2 : Int32))] [(.int e2_), (.int (2 : Int32)), (.ref a2_0)])) _
      refine XS.ifNo X23.here hx rfl (hb hby d2_13) rfl ((if0 _ _).trans (teq hc33).2) ?_
      show Steps p.tables e below (T23.setTop (mkF m 16 #[.val (.ref a2_0), .val (.int (2 : Int32))] [(.int (2 : Int32)), (.ref a2_0)])) _
      refine XS.iconst X23.here hx rfl (hb hby d2_16) ?_
      show Steps p.tables e below (T23.setTop (mkF m 17 #[.val (.ref a2_0), .val (.int (2 : Int32))] [(.int (1 : Int32)), (.int (2 : Int32)), (.ref a2_0)])) _
      refine XS.goto X23.here hx rfl (pc0 := 17) (pc' := 21) rfl (hb hby d2_17) (by decide) (by decide) ?_
      have q36 : (bI (e2_ = (0 : Int32))) = (1 : Int32) := (bI_t hc33)
      exact castTop (g := (mkF m 21 #[.val (.ref a2_0), .val (.int (2 : Int32))] [(.int (1 : Int32)), (.int (2 : Int32)), (.ref a2_0)])) (g' := (mkF m 21 #[.val (.ref a2_0), .val (.int (2 : Int32))] [(.int (bI (e2_ = (0 : Int32)))), (.int (2 : Int32)), (.ref a2_0)])) (by simp only [q36]) k
    · show Steps p.tables e below (T23.setTop (mkF m 13 #[.val (.ref a2_0), .val (.int (2 : Int32))] [(.int e2_), (.int (2 : Int32)), (.ref a2_0)])) _
      refine XS.ifYes X23.here hx rfl (pc0 := 13) (pc' := 20) rfl (hb hby d2_13) rfl ((if0 _ _).trans (feq hc33).2) (by decide) (by decide) ?_
      show Steps p.tables e below (T23.setTop (mkF m 20 #[.val (.ref a2_0), .val (.int (2 : Int32))] [(.int (2 : Int32)), (.ref a2_0)])) _
      refine XS.iconst X23.here hx rfl (hb hby d2_20) ?_
      have q37 : (bI (e2_ = (0 : Int32))) = (0 : Int32) := (bI_f hc33)
      exact castTop (g := (mkF m 21 #[.val (.ref a2_0), .val (.int (2 : Int32))] [(.int (0 : Int32)), (.int (2 : Int32)), (.ref a2_0)])) (g' := (mkF m 21 #[.val (.ref a2_0), .val (.int (2 : Int32))] [(.int (bI (e2_ = (0 : Int32)))), (.int (2 : Int32)), (.ref a2_0)])) (by simp only [q37]) k)
  obtain ⟨cl38, Ar38, q38, S38, N38, H38, G38⟩ := id V24
  have hin38 : ¬ ((2 : Int32) < 0 ∨ cl38.slots.size ≤ ((2 : Int32)).toNatClampNeg) := inb_of S38 ⟨by decide, by decide⟩
  obtain ⟨T38, h38, X38, e38, W38, st38⟩ := stZ X23 hx hZ e23 Ar38 (j := (2 : Int32)) hin38 (g := (mkF m 21 #[.val (.ref a2_0), .val (.int (2 : Int32))] [(.int (bI (e2_ = (0 : Int32)))), (.int (2 : Int32)), (.ref a2_0)])) rfl rfl (hb hby d2_21)
  have V39 : Arv Z h38 a2_0 ka .boolean (4 : Int32) [(.int (bI (e0_ = (0 : Int32)))), (.int (bI (e1_ = (0 : Int32)))), (.int (nar .boolean (bI (e2_ = (0 : Int32))))), (.int e3_)] (.int (0 : Int32)) := Arv.set Ar38 q38 S38 N38 H38 G38 (fits_nar_bool _) W38 2 rfl (Nat.le_of_ble_eq_true rfl)
  rw [bI_nar] at V39
  have pre40 : ∀ t, Steps p.tables e below (T38.setTop (mkF m 22 #[.val (.ref a2_0), .val (.int (2 : Int32))] [])) t → Steps p.tables e below (s₁.setTop (entryFrame m #[(.ref a2_0)] 2)) t := fun t k => pre35 t (by
    show Steps p.tables e below (T23.setTop (mkF m 21 #[.val (.ref a2_0), .val (.int (2 : Int32))] [(.int (bI (e2_ = (0 : Int32)))), (.int (2 : Int32)), (.ref a2_0)])) _
    refine st38 _ ?_
    exact k)
  have z41 := Nat.le_trans z26 (Keep.of_wr W38).1
  have k42 := k27.wr W38 (Or.inl (List.mem_of_getElem? (i := 0) rfl))
  have N43 := Fr.snoc X38 N28 g_a2_0
  obtain ⟨cl44, Ar44, q44, S44, N44, H44, G44⟩ := id V39
  have hin44 : ¬ ((2 : Int32) < 0 ∨ cl44.slots.size ≤ ((2 : Int32)).toNatClampNeg) := inb_of S44 ⟨by decide, by decide⟩
  have hat44 : cl44.slots[((2 : Int32)).toNatClampNeg]? = some (.int (bI (e2_ = (0 : Int32)))) := Has.at H44 hin44 rfl
  by_cases hc45 : e2_ = (0 : Int32)
  · obtain ⟨fs, hr, hrun, hended, hW, hsame⟩ := X38.leave (v := some (.int (1 : Int32))) (fun h => by rw [Bd.returns] at h; cases h)
    refine ⟨_, _, pre40 _ ?_, hrun, hended, _, _, rfl, ?_, ⟨_, rfl⟩, hW, hsame.mono (by decide) (by decide)⟩
    · show Steps p.tables e below (T38.setTop (mkF m 22 #[.val (.ref a2_0), .val (.int (2 : Int32))] [])) _
      refine XS.aloadN X38.here hx rfl (hb hby d2_22) rfl rfl ?_
      refine XS.iloadN X38.here hx rfl (hb hby d2_23) rfl ?_
      show Steps p.tables e below (T38.setTop (mkF m 24 #[.val (.ref a2_0), .val (.int (2 : Int32))] [(.int (2 : Int32)), (.ref a2_0)])) _
      refine X38.baloadBooleans hx (j := (2 : Int32)) (v := (.int (bI (e2_ = (0 : Int32))))) (by rw [e38]; exact Ar44.1) (State.isArrayOf_alike hZ.alike Ar44.2.1) Ar44.2.2 hin44 hat44 (g := (mkF m 24 #[.val (.ref a2_0), .val (.int (2 : Int32))] [(.int (2 : Int32)), (.ref a2_0)])) rfl rfl (hb hby d2_24) _ ?_
      show Steps p.tables e below (T38.setTop (mkF m 25 #[.val (.ref a2_0), .val (.int (2 : Int32))] [(.int (bI (e2_ = (0 : Int32))))])) _
      refine XS.ifNo X38.here hx rfl (hb hby d2_25) rfl ((if0 _ _).trans (feq (bI_n hc45)).1) ?_
      show Steps p.tables e below (T38.setTop (mkF m 28 #[.val (.ref a2_0), .val (.int (2 : Int32))] [])) _
      refine XS.iconst X38.here hx rfl (hb hby d2_28) ?_
      show Steps p.tables e below (T38.setTop (mkF m 29 #[.val (.ref a2_0), .val (.int (2 : Int32))] [(.int (1 : Int32))])) _
      exact retN X38 hx (t := .boolean) Bd.returns (by simp) (hb hby d2_29) hr
    · show Q2_4 Z a2_0 ka e0_ e1_ e2_ e3_ h0 n0 _ T38.heap _
      rw [e38]
      exact ⟨(congrArg (fun z => some (Value.int z)) ((bI_t (Or.inr (Or.inr (Or.inl hc45)))) : (bI ((e0_ = (0 : Int32)) ∨ ((e1_ = (0 : Int32)) ∨ ((e2_ = (0 : Int32)) ∨ (e3_ = (0 : Int32)))))) = (1 : Int32)).symm), N43, k42, (by rw [show (if e0_ = (0 : Int32) then e1_ else (bI (e1_ = (0 : Int32)))) = (bI (e1_ = (0 : Int32))) from (if_neg hc15), show (if e0_ = (0 : Int32) then e2_ else (if e1_ = (0 : Int32) then e2_ else (bI (e2_ = (0 : Int32))))) = (bI (e2_ = (0 : Int32))) from ((if_neg hc15).trans (if_neg hc30)), show (if e0_ = (0 : Int32) then e3_ else (if e1_ = (0 : Int32) then e3_ else (if e2_ = (0 : Int32) then e3_ else (bI (e3_ = (0 : Int32)))))) = e3_ from ((if_neg hc15).trans ((if_neg hc30).trans (if_pos hc45)))]; exact V39)⟩
  obtain ⟨cl46, Ar46, q46, S46, N46, H46, G46⟩ := id V39
  obtain ⟨cl47, Ar47, q47, S47, N47, H47, G47⟩ := id V39
  have hin47 : ¬ ((3 : Int32) < 0 ∨ cl47.slots.size ≤ ((3 : Int32)).toNatClampNeg) := inb_of S47 ⟨by decide, by decide⟩
  have hat47 : cl47.slots[((3 : Int32)).toNatClampNeg]? = some (.int e3_) := Has.at H47 hin47 rfl
  have pre49 : ∀ t, Steps p.tables e below (T38.setTop (mkF m 13 #[.val (.ref a2_0), .val (.int (3 : Int32))] [(.int e3_), (.int (3 : Int32)), (.ref a2_0)])) t → Steps p.tables e below (s₁.setTop (entryFrame m #[(.ref a2_0)] 2)) t := fun t k => pre40 t (by
    show Steps p.tables e below (T38.setTop (mkF m 22 #[.val (.ref a2_0), .val (.int (2 : Int32))] [])) _
    refine XS.aloadN X38.here hx rfl (hb hby d2_22) rfl rfl ?_
    refine XS.iloadN X38.here hx rfl (hb hby d2_23) rfl ?_
    show Steps p.tables e below (T38.setTop (mkF m 24 #[.val (.ref a2_0), .val (.int (2 : Int32))] [(.int (2 : Int32)), (.ref a2_0)])) _
    refine X38.baloadBooleans hx (j := (2 : Int32)) (v := (.int (bI (e2_ = (0 : Int32))))) (by rw [e38]; exact Ar44.1) (State.isArrayOf_alike hZ.alike Ar44.2.1) Ar44.2.2 hin44 hat44 (g := (mkF m 24 #[.val (.ref a2_0), .val (.int (2 : Int32))] [(.int (2 : Int32)), (.ref a2_0)])) rfl rfl (hb hby d2_24) _ ?_
    show Steps p.tables e below (T38.setTop (mkF m 25 #[.val (.ref a2_0), .val (.int (2 : Int32))] [(.int (bI (e2_ = (0 : Int32))))])) _
    refine XS.ifYes X38.here hx rfl (pc0 := 25) (pc' := 30) rfl (hb hby d2_25) rfl ((if0 _ _).trans (teq (bI_f hc45)).1) (by decide) (by decide) ?_
    show Steps p.tables e below (T38.setTop (mkF m 30 #[.val (.ref a2_0), .val (.int (2 : Int32))] [])) _
    refine XS.iinc X38.here hx rfl (hb hby d2_30) rfl (l' := #[.val (.ref a2_0), .val (.int (3 : Int32))]) rfl ?_
    show Steps p.tables e below (T38.setTop (mkF m 33 #[.val (.ref a2_0), .val (.int (3 : Int32))] [])) _
    refine XS.goto X38.here hx rfl (pc0 := 33) (pc' := 2) rfl (hb hby d2_33) (by decide) (by decide) ?_
    refine XS.iloadN X38.here hx rfl (hb hby d2_2) rfl ?_
    refine XS.aloadN X38.here hx rfl (hb hby d2_3) rfl rfl ?_
    show Steps p.tables e below (T38.setTop (mkF m 4 #[.val (.ref a2_0), .val (.int (3 : Int32))] [(.ref a2_0), (.int (3 : Int32))])) _
    refine X38.arraylength hx (by rw [e38]; exact Ar46.1) (State.isArrayOf_alike hZ.alike Ar46.2.1) (g := (mkF m 4 #[.val (.ref a2_0), .val (.int (3 : Int32))] [(.ref a2_0), (.int (3 : Int32))])) rfl rfl (hb hby d2_4) _ ?_
    rw [len_of S46 N46]
    show Steps p.tables e below (T38.setTop (mkF m 5 #[.val (.ref a2_0), .val (.int (3 : Int32))] [(.int (4 : Int32)), (.int (3 : Int32))])) _
    refine XS.icmpNo X38.here hx rfl (hb hby d2_5) rfl (tlt (by decide : (3 : Int32) < (4 : Int32))).2.1 ?_
    show Steps p.tables e below (T38.setTop (mkF m 8 #[.val (.ref a2_0), .val (.int (3 : Int32))] [])) _
    refine XS.aloadN X38.here hx rfl (hb hby d2_8) rfl rfl ?_
    refine XS.iloadN X38.here hx rfl (hb hby d2_9) rfl ?_
    refine XS.aloadN X38.here hx rfl (hb hby d2_10) rfl rfl ?_
    refine XS.iloadN X38.here hx rfl (hb hby d2_11) rfl ?_
    show Steps p.tables e below (T38.setTop (mkF m 12 #[.val (.ref a2_0), .val (.int (3 : Int32))] [(.int (3 : Int32)), (.ref a2_0), (.int (3 : Int32)), (.ref a2_0)])) _
    refine X38.baloadBooleans hx (j := (3 : Int32)) (v := (.int e3_)) (by rw [e38]; exact Ar47.1) (State.isArrayOf_alike hZ.alike Ar47.2.1) Ar47.2.2 hin47 hat47 (g := (mkF m 12 #[.val (.ref a2_0), .val (.int (3 : Int32))] [(.int (3 : Int32)), (.ref a2_0), (.int (3 : Int32)), (.ref a2_0)])) rfl rfl (hb hby d2_12) _ ?_
    exact k)
  have pre50 : ∀ t, Steps p.tables e below (T38.setTop (mkF m 21 #[.val (.ref a2_0), .val (.int (3 : Int32))] [(.int (bI (e3_ = (0 : Int32)))), (.int (3 : Int32)), (.ref a2_0)])) t → Steps p.tables e below (s₁.setTop (entryFrame m #[(.ref a2_0)] 2)) t := fun t k => pre49 t (by
    by_cases hc48 : e3_ = (0 : Int32)
    · show Steps p.tables e below (T38.setTop (mkF m 13 #[.val (.ref a2_0), .val (.int (3 : Int32))] [(.int e3_), (.int (3 : Int32)), (.ref a2_0)])) _
      refine XS.ifNo X38.here hx rfl (hb hby d2_13) rfl ((if0 _ _).trans (teq hc48).2) ?_
      show Steps p.tables e below (T38.setTop (mkF m 16 #[.val (.ref a2_0), .val (.int (3 : Int32))] [(.int (3 : Int32)), (.ref a2_0)])) _
      refine XS.iconst X38.here hx rfl (hb hby d2_16) ?_
      show Steps p.tables e below (T38.setTop (mkF m 17 #[.val (.ref a2_0), .val (.int (3 : Int32))] [(.int (1 : Int32)), (.int (3 : Int32)), (.ref a2_0)])) _
      refine XS.goto X38.here hx rfl (pc0 := 17) (pc' := 21) rfl (hb hby d2_17) (by decide) (by decide) ?_
      have q51 : (bI (e3_ = (0 : Int32))) = (1 : Int32) := (bI_t hc48)
      exact castTop (g := (mkF m 21 #[.val (.ref a2_0), .val (.int (3 : Int32))] [(.int (1 : Int32)), (.int (3 : Int32)), (.ref a2_0)])) (g' := (mkF m 21 #[.val (.ref a2_0), .val (.int (3 : Int32))] [(.int (bI (e3_ = (0 : Int32)))), (.int (3 : Int32)), (.ref a2_0)])) (by simp only [q51]) k
    · show Steps p.tables e below (T38.setTop (mkF m 13 #[.val (.ref a2_0), .val (.int (3 : Int32))] [(.int e3_), (.int (3 : Int32)), (.ref a2_0)])) _
      refine XS.ifYes X38.here hx rfl (pc0 := 13) (pc' := 20) rfl (hb hby d2_13) rfl ((if0 _ _).trans (feq hc48).2) (by decide) (by decide) ?_
      show Steps p.tables e below (T38.setTop (mkF m 20 #[.val (.ref a2_0), .val (.int (3 : Int32))] [(.int (3 : Int32)), (.ref a2_0)])) _
      refine XS.iconst X38.here hx rfl (hb hby d2_20) ?_
      have q52 : (bI (e3_ = (0 : Int32))) = (0 : Int32) := (bI_f hc48)
      exact castTop (g := (mkF m 21 #[.val (.ref a2_0), .val (.int (3 : Int32))] [(.int (0 : Int32)), (.int (3 : Int32)), (.ref a2_0)])) (g' := (mkF m 21 #[.val (.ref a2_0), .val (.int (3 : Int32))] [(.int (bI (e3_ = (0 : Int32)))), (.int (3 : Int32)), (.ref a2_0)])) (by simp only [q52]) k)
  obtain ⟨cl53, Ar53, q53, S53, N53, H53, G53⟩ := id V39
  have hin53 : ¬ ((3 : Int32) < 0 ∨ cl53.slots.size ≤ ((3 : Int32)).toNatClampNeg) := inb_of S53 ⟨by decide, by decide⟩
  obtain ⟨T53, h53, X53, e53, W53, st53⟩ := stZ X38 hx hZ e38 Ar53 (j := (3 : Int32)) hin53 (g := (mkF m 21 #[.val (.ref a2_0), .val (.int (3 : Int32))] [(.int (bI (e3_ = (0 : Int32)))), (.int (3 : Int32)), (.ref a2_0)])) rfl rfl (hb hby d2_21)
  have V54 : Arv Z h53 a2_0 ka .boolean (4 : Int32) [(.int (bI (e0_ = (0 : Int32)))), (.int (bI (e1_ = (0 : Int32)))), (.int (bI (e2_ = (0 : Int32)))), (.int (nar .boolean (bI (e3_ = (0 : Int32)))))] (.int (0 : Int32)) := Arv.set Ar53 q53 S53 N53 H53 G53 (fits_nar_bool _) W53 3 rfl (Nat.le_of_ble_eq_true rfl)
  rw [bI_nar] at V54
  have pre55 : ∀ t, Steps p.tables e below (T53.setTop (mkF m 22 #[.val (.ref a2_0), .val (.int (3 : Int32))] [])) t → Steps p.tables e below (s₁.setTop (entryFrame m #[(.ref a2_0)] 2)) t := fun t k => pre50 t (by
    show Steps p.tables e below (T38.setTop (mkF m 21 #[.val (.ref a2_0), .val (.int (3 : Int32))] [(.int (bI (e3_ = (0 : Int32)))), (.int (3 : Int32)), (.ref a2_0)])) _
    refine st53 _ ?_
    exact k)
  have z56 := Nat.le_trans z41 (Keep.of_wr W53).1
  have k57 := k42.wr W53 (Or.inl (List.mem_of_getElem? (i := 0) rfl))
  have N58 := Fr.snoc X53 N43 g_a2_0
  obtain ⟨cl59, Ar59, q59, S59, N59, H59, G59⟩ := id V54
  have hin59 : ¬ ((3 : Int32) < 0 ∨ cl59.slots.size ≤ ((3 : Int32)).toNatClampNeg) := inb_of S59 ⟨by decide, by decide⟩
  have hat59 : cl59.slots[((3 : Int32)).toNatClampNeg]? = some (.int (bI (e3_ = (0 : Int32)))) := Has.at H59 hin59 rfl
  by_cases hc60 : e3_ = (0 : Int32)
  · obtain ⟨fs, hr, hrun, hended, hW, hsame⟩ := X53.leave (v := some (.int (1 : Int32))) (fun h => by rw [Bd.returns] at h; cases h)
    refine ⟨_, _, pre55 _ ?_, hrun, hended, _, _, rfl, ?_, ⟨_, rfl⟩, hW, hsame.mono (by decide) (by decide)⟩
    · show Steps p.tables e below (T53.setTop (mkF m 22 #[.val (.ref a2_0), .val (.int (3 : Int32))] [])) _
      refine XS.aloadN X53.here hx rfl (hb hby d2_22) rfl rfl ?_
      refine XS.iloadN X53.here hx rfl (hb hby d2_23) rfl ?_
      show Steps p.tables e below (T53.setTop (mkF m 24 #[.val (.ref a2_0), .val (.int (3 : Int32))] [(.int (3 : Int32)), (.ref a2_0)])) _
      refine X53.baloadBooleans hx (j := (3 : Int32)) (v := (.int (bI (e3_ = (0 : Int32))))) (by rw [e53]; exact Ar59.1) (State.isArrayOf_alike hZ.alike Ar59.2.1) Ar59.2.2 hin59 hat59 (g := (mkF m 24 #[.val (.ref a2_0), .val (.int (3 : Int32))] [(.int (3 : Int32)), (.ref a2_0)])) rfl rfl (hb hby d2_24) _ ?_
      show Steps p.tables e below (T53.setTop (mkF m 25 #[.val (.ref a2_0), .val (.int (3 : Int32))] [(.int (bI (e3_ = (0 : Int32))))])) _
      refine XS.ifNo X53.here hx rfl (hb hby d2_25) rfl ((if0 _ _).trans (feq (bI_n hc60)).1) ?_
      show Steps p.tables e below (T53.setTop (mkF m 28 #[.val (.ref a2_0), .val (.int (3 : Int32))] [])) _
      refine XS.iconst X53.here hx rfl (hb hby d2_28) ?_
      show Steps p.tables e below (T53.setTop (mkF m 29 #[.val (.ref a2_0), .val (.int (3 : Int32))] [(.int (1 : Int32))])) _
      exact retN X53 hx (t := .boolean) Bd.returns (by simp) (hb hby d2_29) hr
    · show Q2_4 Z a2_0 ka e0_ e1_ e2_ e3_ h0 n0 _ T53.heap _
      rw [e53]
      exact ⟨(congrArg (fun z => some (Value.int z)) ((bI_t (Or.inr (Or.inr (Or.inr hc60)))) : (bI ((e0_ = (0 : Int32)) ∨ ((e1_ = (0 : Int32)) ∨ ((e2_ = (0 : Int32)) ∨ (e3_ = (0 : Int32)))))) = (1 : Int32)).symm), N58, k57, (by rw [show (if e0_ = (0 : Int32) then e1_ else (bI (e1_ = (0 : Int32)))) = (bI (e1_ = (0 : Int32))) from (if_neg hc15), show (if e0_ = (0 : Int32) then e2_ else (if e1_ = (0 : Int32) then e2_ else (bI (e2_ = (0 : Int32))))) = (bI (e2_ = (0 : Int32))) from ((if_neg hc15).trans (if_neg hc30)), show (if e0_ = (0 : Int32) then e3_ else (if e1_ = (0 : Int32) then e3_ else (if e2_ = (0 : Int32) then e3_ else (bI (e3_ = (0 : Int32)))))) = (bI (e3_ = (0 : Int32))) from ((if_neg hc15).trans ((if_neg hc30).trans (if_neg hc45)))]; exact V54)⟩
  obtain ⟨cl61, Ar61, q61, S61, N61, H61, G61⟩ := id V54
  obtain ⟨fs, hr, hrun, hended, hW, hsame⟩ := X53.leave (v := some (.int (0 : Int32))) (fun h => by rw [Bd.returns] at h; cases h)
  refine ⟨_, _, pre55 _ ?_, hrun, hended, _, _, rfl, ?_, ⟨_, rfl⟩, hW, hsame.mono (by decide) (by decide)⟩
  · show Steps p.tables e below (T53.setTop (mkF m 22 #[.val (.ref a2_0), .val (.int (3 : Int32))] [])) _
    refine XS.aloadN X53.here hx rfl (hb hby d2_22) rfl rfl ?_
    refine XS.iloadN X53.here hx rfl (hb hby d2_23) rfl ?_
    show Steps p.tables e below (T53.setTop (mkF m 24 #[.val (.ref a2_0), .val (.int (3 : Int32))] [(.int (3 : Int32)), (.ref a2_0)])) _
    refine X53.baloadBooleans hx (j := (3 : Int32)) (v := (.int (bI (e3_ = (0 : Int32))))) (by rw [e53]; exact Ar59.1) (State.isArrayOf_alike hZ.alike Ar59.2.1) Ar59.2.2 hin59 hat59 (g := (mkF m 24 #[.val (.ref a2_0), .val (.int (3 : Int32))] [(.int (3 : Int32)), (.ref a2_0)])) rfl rfl (hb hby d2_24) _ ?_
    show Steps p.tables e below (T53.setTop (mkF m 25 #[.val (.ref a2_0), .val (.int (3 : Int32))] [(.int (bI (e3_ = (0 : Int32))))])) _
    refine XS.ifYes X53.here hx rfl (pc0 := 25) (pc' := 30) rfl (hb hby d2_25) rfl ((if0 _ _).trans (teq (bI_f hc60)).1) (by decide) (by decide) ?_
    show Steps p.tables e below (T53.setTop (mkF m 30 #[.val (.ref a2_0), .val (.int (3 : Int32))] [])) _
    refine XS.iinc X53.here hx rfl (hb hby d2_30) rfl (l' := #[.val (.ref a2_0), .val (.int (4 : Int32))]) rfl ?_
    show Steps p.tables e below (T53.setTop (mkF m 33 #[.val (.ref a2_0), .val (.int (4 : Int32))] [])) _
    refine XS.goto X53.here hx rfl (pc0 := 33) (pc' := 2) rfl (hb hby d2_33) (by decide) (by decide) ?_
    refine XS.iloadN X53.here hx rfl (hb hby d2_2) rfl ?_
    refine XS.aloadN X53.here hx rfl (hb hby d2_3) rfl rfl ?_
    show Steps p.tables e below (T53.setTop (mkF m 4 #[.val (.ref a2_0), .val (.int (4 : Int32))] [(.ref a2_0), (.int (4 : Int32))])) _
    refine X53.arraylength hx (by rw [e53]; exact Ar61.1) (State.isArrayOf_alike hZ.alike Ar61.2.1) (g := (mkF m 4 #[.val (.ref a2_0), .val (.int (4 : Int32))] [(.ref a2_0), (.int (4 : Int32))])) rfl rfl (hb hby d2_4) _ ?_
    rw [len_of S61 N61]
    show Steps p.tables e below (T53.setTop (mkF m 5 #[.val (.ref a2_0), .val (.int (4 : Int32))] [(.int (4 : Int32)), (.int (4 : Int32))])) _
    refine XS.icmpYes X53.here hx rfl (pc0 := 5) (pc' := 36) rfl (hb hby d2_5) rfl (flt (by decide : ¬ ((4 : Int32) < (4 : Int32)))).2.1 (by decide) (by decide) ?_
    show Steps p.tables e below (T53.setTop (mkF m 36 #[.val (.ref a2_0), .val (.int (4 : Int32))] [])) _
    refine XS.iconst X53.here hx rfl (hb hby d2_36) ?_
    show Steps p.tables e below (T53.setTop (mkF m 37 #[.val (.ref a2_0), .val (.int (4 : Int32))] [(.int (0 : Int32))])) _
    exact retN X53 hx (t := .boolean) Bd.returns (by simp) (hb hby d2_37) hr
  · show Q2_4 Z a2_0 ka e0_ e1_ e2_ e3_ h0 n0 _ T53.heap _
    rw [e53]
    exact ⟨(congrArg (fun z => some (Value.int z)) ((bI_f (fun z => z.elim hc15 (fun z => z.elim hc30 (fun z => z.elim hc45 hc60)))) : (bI ((e0_ = (0 : Int32)) ∨ ((e1_ = (0 : Int32)) ∨ ((e2_ = (0 : Int32)) ∨ (e3_ = (0 : Int32)))))) = (0 : Int32)).symm), N58, k57, (by rw [show (if e0_ = (0 : Int32) then e1_ else (bI (e1_ = (0 : Int32)))) = (bI (e1_ = (0 : Int32))) from (if_neg hc15), show (if e0_ = (0 : Int32) then e2_ else (if e1_ = (0 : Int32) then e2_ else (bI (e2_ = (0 : Int32))))) = (bI (e2_ = (0 : Int32))) from ((if_neg hc15).trans (if_neg hc30)), show (if e0_ = (0 : Int32) then e3_ else (if e1_ = (0 : Int32) then e3_ else (if e2_ = (0 : Int32) then e3_ else (bI (e3_ = (0 : Int32)))))) = (bI (e3_ = (0 : Int32))) from ((if_neg hc15).trans ((if_neg hc30).trans (if_neg hc45)))]; exact V54)⟩
def Q2_5 (Z : State) (a2_0 : Addr) (ka : ClassId) (e0_ : Int32) (e1_ : Int32) (e2_ : Int32) (e3_ : Int32) (e4_ : Int32) (h0 : Heap) (n0 : Nat) (v : Option Value) (h : Heap) (L : List Loc) : Prop := v = some (.int (bI ((e0_ = (0 : Int32)) ∨ ((e1_ = (0 : Int32)) ∨ ((e2_ = (0 : Int32)) ∨ ((e3_ = (0 : Int32)) ∨ (e4_ = (0 : Int32)))))))) ∧ Fr n0 L ∧ Keep h0 h [a2_0] ∧ Arv Z h a2_0 ka .boolean (5 : Int32) [(.int (bI (e0_ = (0 : Int32)))), (.int (if e0_ = (0 : Int32) then e1_ else (bI (e1_ = (0 : Int32))))), (.int (if e0_ = (0 : Int32) then e2_ else (if e1_ = (0 : Int32) then e2_ else (bI (e2_ = (0 : Int32)))))), (.int (if e0_ = (0 : Int32) then e3_ else (if e1_ = (0 : Int32) then e3_ else (if e2_ = (0 : Int32) then e3_ else (bI (e3_ = (0 : Int32))))))), (.int (if e0_ = (0 : Int32) then e4_ else (if e1_ = (0 : Int32) then e4_ else (if e2_ = (0 : Int32) then e4_ else (if e3_ = (0 : Int32) then e4_ else (bI (e4_ = (0 : Int32))))))))] (.int (0 : Int32))
set_option maxRecDepth 65536 in
set_option maxHeartbeats 40000000 in
theorem rm2_5 (l : Launch) (Z : State) (a0 : Array Value) (hw : ∀ d ∈ tables_1, d.before a0 Z = true) (ws : List Jvm.Cond) (a2_0 : Addr) (ka : ClassId) (e0_ : Int32) (e1_ : Int32) (e2_ : Int32) (e3_ : Int32) (e4_ : Int32) (h0 : Heap) (n0 : Nat) (Z0 : n0 ≤ h0.size) (VA : Arv Z h0 a2_0 ka .boolean (5 : Int32) [(.int e0_), (.int e1_), (.int e2_), (.int e3_), (.int e4_)] (.int (0 : Int32))) (g_a2_0 : n0 ≤ a2_0) :
    MetFree l mn2 (head1 (Jvm.Cond.code mn2 prog_101_method_2_code 2 (some .boolean) :: ws) ({ frames := 0, cells := 0, slots := 0, locals := 0 } : Room)) (fun a U => a = #[(.ref a2_0)] ∧ Z.Warmed39 U.vm ∧ U.heap = h0) (fun _ _ _ _ _ => True) (fun _ U o U' => ∃ v L, o = .returned v ∧ Q2_5 Z a2_0 ka e0_ e1_ e2_ e3_ e4_ h0 n0 v U'.heap L ∧ FrameEnd U o U' L ({ frames := 0, cells := 0, slots := 0, locals := 0 } : Room).cells ({ frames := 0, cells := 0, slots := 0, locals := 0 } : Room).slots) := by
  refine MetFree.of_bodySF (plainFor_of_name pn_2) hisR ?_
  intro p e s m args below meth c s₁ Bd hml0 hP hK
  obtain ⟨rfl, hZ, hh⟩ := hP
  have hVV : ∀ (i : Nat) (d : Jvm.Cond), tables_1[i]? = some d → d.before a0 Z = true := fun i d h => hw d (List.mem_of_getElem? h)
  have hx := Bd.exec
  have hby := Bd.bytes
  have hml : c.maxLocals = 2 := hml0
  have hown : s.vm.findClass "com/example/regista/regista/Valuations" = some m.cls := findClass_of_methodNamed Bd.named
  have hnm := (name_of_methodNamed Bd.named Bd.method).1
  have X0 : Stand p l e ({ frames := 0, cells := 0, slots := 0, locals := 0 } : Room) s m #[(.ref a2_0)] below meth c s₁ [] 0 0 := Stand.of_body Bd
  have e0 : s₁.heap = h0 := by rw [← hh, Bd.state]; rfl
  have N0 := Fr.nil n0
  have pre0 : ∀ t, Steps p.tables e below (s₁.setTop (mkF m 0 #[.val (.ref a2_0), .unset] [])) t → Steps p.tables e below (s₁.setTop (entryFrame m #[(.ref a2_0)] 2)) t := fun t k => castTop (ef_2 m a2_0) k
  obtain ⟨cl1, Ar1, q1, S1, N1, H1, G1⟩ := id VA
  obtain ⟨cl2, Ar2, q2, S2, N2, H2, G2⟩ := id VA
  have hin2 : ¬ ((0 : Int32) < 0 ∨ cl2.slots.size ≤ ((0 : Int32)).toNatClampNeg) := inb_of S2 ⟨by decide, by decide⟩
  have hat2 : cl2.slots[((0 : Int32)).toNatClampNeg]? = some (.int e0_) := Has.at H2 hin2 rfl
  have pre4 : ∀ t, Steps p.tables e below (s₁.setTop (mkF m 13 #[.val (.ref a2_0), .val (.int (0 : Int32))] [(.int e0_), (.int (0 : Int32)), (.ref a2_0)])) t → Steps p.tables e below (s₁.setTop (entryFrame m #[(.ref a2_0)] 2)) t := fun t k => pre0 t (by
    show Steps p.tables e below (s₁.setTop (mkF m 0 #[.val (.ref a2_0), .unset] [])) _
    refine XS.iconst X0.here hx rfl (hb hby d2_0) ?_
    show Steps p.tables e below (s₁.setTop (mkF m 1 #[.val (.ref a2_0), .unset] [(.int (0 : Int32))])) _
    refine XS.istoreN X0.here hx rfl (hb hby d2_1) rfl (l' := #[.val (.ref a2_0), .val (.int (0 : Int32))]) rfl ?_
    show Steps p.tables e below (s₁.setTop (mkF m 2 #[.val (.ref a2_0), .val (.int (0 : Int32))] [])) _
    refine XS.iloadN X0.here hx rfl (hb hby d2_2) rfl ?_
    refine XS.aloadN X0.here hx rfl (hb hby d2_3) rfl rfl ?_
    show Steps p.tables e below (s₁.setTop (mkF m 4 #[.val (.ref a2_0), .val (.int (0 : Int32))] [(.ref a2_0), (.int (0 : Int32))])) _
    refine X0.arraylength hx (by rw [e0]; exact Ar1.1) (State.isArrayOf_alike hZ.alike Ar1.2.1) (g := (mkF m 4 #[.val (.ref a2_0), .val (.int (0 : Int32))] [(.ref a2_0), (.int (0 : Int32))])) rfl rfl (hb hby d2_4) _ ?_
    rw [len_of S1 N1]
    show Steps p.tables e below (s₁.setTop (mkF m 5 #[.val (.ref a2_0), .val (.int (0 : Int32))] [(.int (5 : Int32)), (.int (0 : Int32))])) _
    refine XS.icmpNo X0.here hx rfl (hb hby d2_5) rfl (tlt (by decide : (0 : Int32) < (5 : Int32))).2.1 ?_
    show Steps p.tables e below (s₁.setTop (mkF m 8 #[.val (.ref a2_0), .val (.int (0 : Int32))] [])) _
    refine XS.aloadN X0.here hx rfl (hb hby d2_8) rfl rfl ?_
    refine XS.iloadN X0.here hx rfl (hb hby d2_9) rfl ?_
    refine XS.aloadN X0.here hx rfl (hb hby d2_10) rfl rfl ?_
    refine XS.iloadN X0.here hx rfl (hb hby d2_11) rfl ?_
    show Steps p.tables e below (s₁.setTop (mkF m 12 #[.val (.ref a2_0), .val (.int (0 : Int32))] [(.int (0 : Int32)), (.ref a2_0), (.int (0 : Int32)), (.ref a2_0)])) _
    refine X0.baloadBooleans hx (j := (0 : Int32)) (v := (.int e0_)) (by rw [e0]; exact Ar2.1) (State.isArrayOf_alike hZ.alike Ar2.2.1) Ar2.2.2 hin2 hat2 (g := (mkF m 12 #[.val (.ref a2_0), .val (.int (0 : Int32))] [(.int (0 : Int32)), (.ref a2_0), (.int (0 : Int32)), (.ref a2_0)])) rfl rfl (hb hby d2_12) _ ?_
    exact k)
  have pre5 : ∀ t, Steps p.tables e below (s₁.setTop (mkF m 21 #[.val (.ref a2_0), .val (.int (0 : Int32))] [(.int (bI (e0_ = (0 : Int32)))), (.int (0 : Int32)), (.ref a2_0)])) t → Steps p.tables e below (s₁.setTop (entryFrame m #[(.ref a2_0)] 2)) t := fun t k => pre4 t (by
    by_cases hc3 : e0_ = (0 : Int32)
    · show Steps p.tables e below (s₁.setTop (mkF m 13 #[.val (.ref a2_0), .val (.int (0 : Int32))] [(.int e0_), (.int (0 : Int32)), (.ref a2_0)])) _
      refine XS.ifNo X0.here hx rfl (hb hby d2_13) rfl ((if0 _ _).trans (teq hc3).2) ?_
      show Steps p.tables e below (s₁.setTop (mkF m 16 #[.val (.ref a2_0), .val (.int (0 : Int32))] [(.int (0 : Int32)), (.ref a2_0)])) _
      refine XS.iconst X0.here hx rfl (hb hby d2_16) ?_
      show Steps p.tables e below (s₁.setTop (mkF m 17 #[.val (.ref a2_0), .val (.int (0 : Int32))] [(.int (1 : Int32)), (.int (0 : Int32)), (.ref a2_0)])) _
      refine XS.goto X0.here hx rfl (pc0 := 17) (pc' := 21) rfl (hb hby d2_17) (by decide) (by decide) ?_
      have q6 : (bI (e0_ = (0 : Int32))) = (1 : Int32) := (bI_t hc3)
      exact castTop (g := (mkF m 21 #[.val (.ref a2_0), .val (.int (0 : Int32))] [(.int (1 : Int32)), (.int (0 : Int32)), (.ref a2_0)])) (g' := (mkF m 21 #[.val (.ref a2_0), .val (.int (0 : Int32))] [(.int (bI (e0_ = (0 : Int32)))), (.int (0 : Int32)), (.ref a2_0)])) (by simp only [q6]) k
    · show Steps p.tables e below (s₁.setTop (mkF m 13 #[.val (.ref a2_0), .val (.int (0 : Int32))] [(.int e0_), (.int (0 : Int32)), (.ref a2_0)])) _
      refine XS.ifYes X0.here hx rfl (pc0 := 13) (pc' := 20) rfl (hb hby d2_13) rfl ((if0 _ _).trans (feq hc3).2) (by decide) (by decide) ?_
      show Steps p.tables e below (s₁.setTop (mkF m 20 #[.val (.ref a2_0), .val (.int (0 : Int32))] [(.int (0 : Int32)), (.ref a2_0)])) _
      refine XS.iconst X0.here hx rfl (hb hby d2_20) ?_
      have q7 : (bI (e0_ = (0 : Int32))) = (0 : Int32) := (bI_f hc3)
      exact castTop (g := (mkF m 21 #[.val (.ref a2_0), .val (.int (0 : Int32))] [(.int (0 : Int32)), (.int (0 : Int32)), (.ref a2_0)])) (g' := (mkF m 21 #[.val (.ref a2_0), .val (.int (0 : Int32))] [(.int (bI (e0_ = (0 : Int32)))), (.int (0 : Int32)), (.ref a2_0)])) (by simp only [q7]) k)
  obtain ⟨cl8, Ar8, q8, S8, N8, H8, G8⟩ := id VA
  have hin8 : ¬ ((0 : Int32) < 0 ∨ cl8.slots.size ≤ ((0 : Int32)).toNatClampNeg) := inb_of S8 ⟨by decide, by decide⟩
  obtain ⟨T8, h8, X8, e8, W8, st8⟩ := stZ X0 hx hZ e0 Ar8 (j := (0 : Int32)) hin8 (g := (mkF m 21 #[.val (.ref a2_0), .val (.int (0 : Int32))] [(.int (bI (e0_ = (0 : Int32)))), (.int (0 : Int32)), (.ref a2_0)])) rfl rfl (hb hby d2_21)
  have V9 : Arv Z h8 a2_0 ka .boolean (5 : Int32) [(.int (nar .boolean (bI (e0_ = (0 : Int32))))), (.int e1_), (.int e2_), (.int e3_), (.int e4_)] (.int (0 : Int32)) := Arv.set Ar8 q8 S8 N8 H8 G8 (fits_nar_bool _) W8 0 rfl (Nat.le_of_ble_eq_true rfl)
  rw [bI_nar] at V9
  have pre10 : ∀ t, Steps p.tables e below (T8.setTop (mkF m 22 #[.val (.ref a2_0), .val (.int (0 : Int32))] [])) t → Steps p.tables e below (s₁.setTop (entryFrame m #[(.ref a2_0)] 2)) t := fun t k => pre5 t (by
    show Steps p.tables e below (s₁.setTop (mkF m 21 #[.val (.ref a2_0), .val (.int (0 : Int32))] [(.int (bI (e0_ = (0 : Int32)))), (.int (0 : Int32)), (.ref a2_0)])) _
    refine st8 _ ?_
    exact k)
  have z11 := Nat.le_trans Z0 (Keep.of_wr W8).1
  have k12 := (Keep.refl h0 [a2_0]).wr W8 (Or.inl (List.mem_of_getElem? (i := 0) rfl))
  have N13 := Fr.snoc X8 N0 g_a2_0
  obtain ⟨cl14, Ar14, q14, S14, N14, H14, G14⟩ := id V9
  have hin14 : ¬ ((0 : Int32) < 0 ∨ cl14.slots.size ≤ ((0 : Int32)).toNatClampNeg) := inb_of S14 ⟨by decide, by decide⟩
  have hat14 : cl14.slots[((0 : Int32)).toNatClampNeg]? = some (.int (bI (e0_ = (0 : Int32)))) := Has.at H14 hin14 rfl
  by_cases hc15 : e0_ = (0 : Int32)
  · obtain ⟨fs, hr, hrun, hended, hW, hsame⟩ := X8.leave (v := some (.int (1 : Int32))) (fun h => by rw [Bd.returns] at h; cases h)
    refine ⟨_, _, pre10 _ ?_, hrun, hended, _, _, rfl, ?_, ⟨_, rfl⟩, hW, hsame.mono (by decide) (by decide)⟩
    · show Steps p.tables e below (T8.setTop (mkF m 22 #[.val (.ref a2_0), .val (.int (0 : Int32))] [])) _
      refine XS.aloadN X8.here hx rfl (hb hby d2_22) rfl rfl ?_
      refine XS.iloadN X8.here hx rfl (hb hby d2_23) rfl ?_
      show Steps p.tables e below (T8.setTop (mkF m 24 #[.val (.ref a2_0), .val (.int (0 : Int32))] [(.int (0 : Int32)), (.ref a2_0)])) _
      refine X8.baloadBooleans hx (j := (0 : Int32)) (v := (.int (bI (e0_ = (0 : Int32))))) (by rw [e8]; exact Ar14.1) (State.isArrayOf_alike hZ.alike Ar14.2.1) Ar14.2.2 hin14 hat14 (g := (mkF m 24 #[.val (.ref a2_0), .val (.int (0 : Int32))] [(.int (0 : Int32)), (.ref a2_0)])) rfl rfl (hb hby d2_24) _ ?_
      show Steps p.tables e below (T8.setTop (mkF m 25 #[.val (.ref a2_0), .val (.int (0 : Int32))] [(.int (bI (e0_ = (0 : Int32))))])) _
      refine XS.ifNo X8.here hx rfl (hb hby d2_25) rfl ((if0 _ _).trans (feq (bI_n hc15)).1) ?_
      show Steps p.tables e below (T8.setTop (mkF m 28 #[.val (.ref a2_0), .val (.int (0 : Int32))] [])) _
      refine XS.iconst X8.here hx rfl (hb hby d2_28) ?_
      show Steps p.tables e below (T8.setTop (mkF m 29 #[.val (.ref a2_0), .val (.int (0 : Int32))] [(.int (1 : Int32))])) _
      exact retN X8 hx (t := .boolean) Bd.returns (by simp) (hb hby d2_29) hr
    · show Q2_5 Z a2_0 ka e0_ e1_ e2_ e3_ e4_ h0 n0 _ T8.heap _
      rw [e8]
      exact ⟨(congrArg (fun z => some (Value.int z)) ((bI_t (Or.inl hc15)) : (bI ((e0_ = (0 : Int32)) ∨ ((e1_ = (0 : Int32)) ∨ ((e2_ = (0 : Int32)) ∨ ((e3_ = (0 : Int32)) ∨ (e4_ = (0 : Int32))))))) = (1 : Int32)).symm), N13, k12, (by rw [show (if e0_ = (0 : Int32) then e1_ else (bI (e1_ = (0 : Int32)))) = e1_ from (if_pos hc15), show (if e0_ = (0 : Int32) then e2_ else (if e1_ = (0 : Int32) then e2_ else (bI (e2_ = (0 : Int32))))) = e2_ from (if_pos hc15), show (if e0_ = (0 : Int32) then e3_ else (if e1_ = (0 : Int32) then e3_ else (if e2_ = (0 : Int32) then e3_ else (bI (e3_ = (0 : Int32)))))) = e3_ from (if_pos hc15), show (if e0_ = (0 : Int32) then e4_ else (if e1_ = (0 : Int32) then e4_ else (if e2_ = (0 : Int32) then e4_ else (if e3_ = (0 : Int32) then e4_ else (bI (e4_ = (0 : Int32))))))) = e4_ from (if_pos hc15)]; exact V9)⟩
  obtain ⟨cl16, Ar16, q16, S16, N16, H16, G16⟩ := id V9
  obtain ⟨cl17, Ar17, q17, S17, N17, H17, G17⟩ := id V9
  have hin17 : ¬ ((1 : Int32) < 0 ∨ cl17.slots.size ≤ ((1 : Int32)).toNatClampNeg) := inb_of S17 ⟨by decide, by decide⟩
  have hat17 : cl17.slots[((1 : Int32)).toNatClampNeg]? = some (.int e1_) := Has.at H17 hin17 rfl
  have pre19 : ∀ t, Steps p.tables e below (T8.setTop (mkF m 13 #[.val (.ref a2_0), .val (.int (1 : Int32))] [(.int e1_), (.int (1 : Int32)), (.ref a2_0)])) t → Steps p.tables e below (s₁.setTop (entryFrame m #[(.ref a2_0)] 2)) t := fun t k => pre10 t (by
    show Steps p.tables e below (T8.setTop (mkF m 22 #[.val (.ref a2_0), .val (.int (0 : Int32))] [])) _
    refine XS.aloadN X8.here hx rfl (hb hby d2_22) rfl rfl ?_
    refine XS.iloadN X8.here hx rfl (hb hby d2_23) rfl ?_
    show Steps p.tables e below (T8.setTop (mkF m 24 #[.val (.ref a2_0), .val (.int (0 : Int32))] [(.int (0 : Int32)), (.ref a2_0)])) _
    refine X8.baloadBooleans hx (j := (0 : Int32)) (v := (.int (bI (e0_ = (0 : Int32))))) (by rw [e8]; exact Ar14.1) (State.isArrayOf_alike hZ.alike Ar14.2.1) Ar14.2.2 hin14 hat14 (g := (mkF m 24 #[.val (.ref a2_0), .val (.int (0 : Int32))] [(.int (0 : Int32)), (.ref a2_0)])) rfl rfl (hb hby d2_24) _ ?_
    show Steps p.tables e below (T8.setTop (mkF m 25 #[.val (.ref a2_0), .val (.int (0 : Int32))] [(.int (bI (e0_ = (0 : Int32))))])) _
    refine XS.ifYes X8.here hx rfl (pc0 := 25) (pc' := 30) rfl (hb hby d2_25) rfl ((if0 _ _).trans (teq (bI_f hc15)).1) (by decide) (by decide) ?_
    show Steps p.tables e below (T8.setTop (mkF m 30 #[.val (.ref a2_0), .val (.int (0 : Int32))] [])) _
    refine XS.iinc X8.here hx rfl (hb hby d2_30) rfl (l' := #[.val (.ref a2_0), .val (.int (1 : Int32))]) rfl ?_
    show Steps p.tables e below (T8.setTop (mkF m 33 #[.val (.ref a2_0), .val (.int (1 : Int32))] [])) _
    refine XS.goto X8.here hx rfl (pc0 := 33) (pc' := 2) rfl (hb hby d2_33) (by decide) (by decide) ?_
    refine XS.iloadN X8.here hx rfl (hb hby d2_2) rfl ?_
    refine XS.aloadN X8.here hx rfl (hb hby d2_3) rfl rfl ?_
    show Steps p.tables e below (T8.setTop (mkF m 4 #[.val (.ref a2_0), .val (.int (1 : Int32))] [(.ref a2_0), (.int (1 : Int32))])) _
    refine X8.arraylength hx (by rw [e8]; exact Ar16.1) (State.isArrayOf_alike hZ.alike Ar16.2.1) (g := (mkF m 4 #[.val (.ref a2_0), .val (.int (1 : Int32))] [(.ref a2_0), (.int (1 : Int32))])) rfl rfl (hb hby d2_4) _ ?_
    rw [len_of S16 N16]
    show Steps p.tables e below (T8.setTop (mkF m 5 #[.val (.ref a2_0), .val (.int (1 : Int32))] [(.int (5 : Int32)), (.int (1 : Int32))])) _
    refine XS.icmpNo X8.here hx rfl (hb hby d2_5) rfl (tlt (by decide : (1 : Int32) < (5 : Int32))).2.1 ?_
    show Steps p.tables e below (T8.setTop (mkF m 8 #[.val (.ref a2_0), .val (.int (1 : Int32))] [])) _
    refine XS.aloadN X8.here hx rfl (hb hby d2_8) rfl rfl ?_
    refine XS.iloadN X8.here hx rfl (hb hby d2_9) rfl ?_
    refine XS.aloadN X8.here hx rfl (hb hby d2_10) rfl rfl ?_
    refine XS.iloadN X8.here hx rfl (hb hby d2_11) rfl ?_
    show Steps p.tables e below (T8.setTop (mkF m 12 #[.val (.ref a2_0), .val (.int (1 : Int32))] [(.int (1 : Int32)), (.ref a2_0), (.int (1 : Int32)), (.ref a2_0)])) _
    refine X8.baloadBooleans hx (j := (1 : Int32)) (v := (.int e1_)) (by rw [e8]; exact Ar17.1) (State.isArrayOf_alike hZ.alike Ar17.2.1) Ar17.2.2 hin17 hat17 (g := (mkF m 12 #[.val (.ref a2_0), .val (.int (1 : Int32))] [(.int (1 : Int32)), (.ref a2_0), (.int (1 : Int32)), (.ref a2_0)])) rfl rfl (hb hby d2_12) _ ?_
    exact k)
  have pre20 : ∀ t, Steps p.tables e below (T8.setTop (mkF m 21 #[.val (.ref a2_0), .val (.int (1 : Int32))] [(.int (bI (e1_ = (0 : Int32)))), (.int (1 : Int32)), (.ref a2_0)])) t → Steps p.tables e below (s₁.setTop (entryFrame m #[(.ref a2_0)] 2)) t := fun t k => pre19 t (by
    by_cases hc18 : e1_ = (0 : Int32)
    · show Steps p.tables e below (T8.setTop (mkF m 13 #[.val (.ref a2_0), .val (.int (1 : Int32))] [(.int e1_), (.int (1 : Int32)), (.ref a2_0)])) _
      refine XS.ifNo X8.here hx rfl (hb hby d2_13) rfl ((if0 _ _).trans (teq hc18).2) ?_
      show Steps p.tables e below (T8.setTop (mkF m 16 #[.val (.ref a2_0), .val (.int (1 : Int32))] [(.int (1 : Int32)), (.ref a2_0)])) _
      refine XS.iconst X8.here hx rfl (hb hby d2_16) ?_
      show Steps p.tables e below (T8.setTop (mkF m 17 #[.val (.ref a2_0), .val (.int (1 : Int32))] [(.int (1 : Int32)), (.int (1 : Int32)), (.ref a2_0)])) _
      refine XS.goto X8.here hx rfl (pc0 := 17) (pc' := 21) rfl (hb hby d2_17) (by decide) (by decide) ?_
      have q21 : (bI (e1_ = (0 : Int32))) = (1 : Int32) := (bI_t hc18)
      exact castTop (g := (mkF m 21 #[.val (.ref a2_0), .val (.int (1 : Int32))] [(.int (1 : Int32)), (.int (1 : Int32)), (.ref a2_0)])) (g' := (mkF m 21 #[.val (.ref a2_0), .val (.int (1 : Int32))] [(.int (bI (e1_ = (0 : Int32)))), (.int (1 : Int32)), (.ref a2_0)])) (by simp only [q21]) k
    · show Steps p.tables e below (T8.setTop (mkF m 13 #[.val (.ref a2_0), .val (.int (1 : Int32))] [(.int e1_), (.int (1 : Int32)), (.ref a2_0)])) _
      refine XS.ifYes X8.here hx rfl (pc0 := 13) (pc' := 20) rfl (hb hby d2_13) rfl ((if0 _ _).trans (feq hc18).2) (by decide) (by decide) ?_
      show Steps p.tables e below (T8.setTop (mkF m 20 #[.val (.ref a2_0), .val (.int (1 : Int32))] [(.int (1 : Int32)), (.ref a2_0)])) _
      refine XS.iconst X8.here hx rfl (hb hby d2_20) ?_
      have q22 : (bI (e1_ = (0 : Int32))) = (0 : Int32) := (bI_f hc18)
      exact castTop (g := (mkF m 21 #[.val (.ref a2_0), .val (.int (1 : Int32))] [(.int (0 : Int32)), (.int (1 : Int32)), (.ref a2_0)])) (g' := (mkF m 21 #[.val (.ref a2_0), .val (.int (1 : Int32))] [(.int (bI (e1_ = (0 : Int32)))), (.int (1 : Int32)), (.ref a2_0)])) (by simp only [q22]) k)
  obtain ⟨cl23, Ar23, q23, S23, N23, H23, G23⟩ := id V9
  have hin23 : ¬ ((1 : Int32) < 0 ∨ cl23.slots.size ≤ ((1 : Int32)).toNatClampNeg) := inb_of S23 ⟨by decide, by decide⟩
  obtain ⟨T23, h23, X23, e23, W23, st23⟩ := stZ X8 hx hZ e8 Ar23 (j := (1 : Int32)) hin23 (g := (mkF m 21 #[.val (.ref a2_0), .val (.int (1 : Int32))] [(.int (bI (e1_ = (0 : Int32)))), (.int (1 : Int32)), (.ref a2_0)])) rfl rfl (hb hby d2_21)
  have V24 : Arv Z h23 a2_0 ka .boolean (5 : Int32) [(.int (bI (e0_ = (0 : Int32)))), (.int (nar .boolean (bI (e1_ = (0 : Int32))))), (.int e2_), (.int e3_), (.int e4_)] (.int (0 : Int32)) := Arv.set Ar23 q23 S23 N23 H23 G23 (fits_nar_bool _) W23 1 rfl (Nat.le_of_ble_eq_true rfl)
  rw [bI_nar] at V24
  have pre25 : ∀ t, Steps p.tables e below (T23.setTop (mkF m 22 #[.val (.ref a2_0), .val (.int (1 : Int32))] [])) t → Steps p.tables e below (s₁.setTop (entryFrame m #[(.ref a2_0)] 2)) t := fun t k => pre20 t (by
    show Steps p.tables e below (T8.setTop (mkF m 21 #[.val (.ref a2_0), .val (.int (1 : Int32))] [(.int (bI (e1_ = (0 : Int32)))), (.int (1 : Int32)), (.ref a2_0)])) _
    refine st23 _ ?_
    exact k)
  have z26 := Nat.le_trans z11 (Keep.of_wr W23).1
  have k27 := k12.wr W23 (Or.inl (List.mem_of_getElem? (i := 0) rfl))
  have N28 := Fr.snoc X23 N13 g_a2_0
  obtain ⟨cl29, Ar29, q29, S29, N29, H29, G29⟩ := id V24
  have hin29 : ¬ ((1 : Int32) < 0 ∨ cl29.slots.size ≤ ((1 : Int32)).toNatClampNeg) := inb_of S29 ⟨by decide, by decide⟩
  have hat29 : cl29.slots[((1 : Int32)).toNatClampNeg]? = some (.int (bI (e1_ = (0 : Int32)))) := Has.at H29 hin29 rfl
  by_cases hc30 : e1_ = (0 : Int32)
  · obtain ⟨fs, hr, hrun, hended, hW, hsame⟩ := X23.leave (v := some (.int (1 : Int32))) (fun h => by rw [Bd.returns] at h; cases h)
    refine ⟨_, _, pre25 _ ?_, hrun, hended, _, _, rfl, ?_, ⟨_, rfl⟩, hW, hsame.mono (by decide) (by decide)⟩
    · show Steps p.tables e below (T23.setTop (mkF m 22 #[.val (.ref a2_0), .val (.int (1 : Int32))] [])) _
      refine XS.aloadN X23.here hx rfl (hb hby d2_22) rfl rfl ?_
      refine XS.iloadN X23.here hx rfl (hb hby d2_23) rfl ?_
      show Steps p.tables e below (T23.setTop (mkF m 24 #[.val (.ref a2_0), .val (.int (1 : Int32))] [(.int (1 : Int32)), (.ref a2_0)])) _
      refine X23.baloadBooleans hx (j := (1 : Int32)) (v := (.int (bI (e1_ = (0 : Int32))))) (by rw [e23]; exact Ar29.1) (State.isArrayOf_alike hZ.alike Ar29.2.1) Ar29.2.2 hin29 hat29 (g := (mkF m 24 #[.val (.ref a2_0), .val (.int (1 : Int32))] [(.int (1 : Int32)), (.ref a2_0)])) rfl rfl (hb hby d2_24) _ ?_
      show Steps p.tables e below (T23.setTop (mkF m 25 #[.val (.ref a2_0), .val (.int (1 : Int32))] [(.int (bI (e1_ = (0 : Int32))))])) _
      refine XS.ifNo X23.here hx rfl (hb hby d2_25) rfl ((if0 _ _).trans (feq (bI_n hc30)).1) ?_
      show Steps p.tables e below (T23.setTop (mkF m 28 #[.val (.ref a2_0), .val (.int (1 : Int32))] [])) _
      refine XS.iconst X23.here hx rfl (hb hby d2_28) ?_
      show Steps p.tables e below (T23.setTop (mkF m 29 #[.val (.ref a2_0), .val (.int (1 : Int32))] [(.int (1 : Int32))])) _
      exact retN X23 hx (t := .boolean) Bd.returns (by simp) (hb hby d2_29) hr
    · show Q2_5 Z a2_0 ka e0_ e1_ e2_ e3_ e4_ h0 n0 _ T23.heap _
      rw [e23]
      exact ⟨(congrArg (fun z => some (Value.int z)) ((bI_t (Or.inr (Or.inl hc30))) : (bI ((e0_ = (0 : Int32)) ∨ ((e1_ = (0 : Int32)) ∨ ((e2_ = (0 : Int32)) ∨ ((e3_ = (0 : Int32)) ∨ (e4_ = (0 : Int32))))))) = (1 : Int32)).symm), N28, k27, (by rw [show (if e0_ = (0 : Int32) then e1_ else (bI (e1_ = (0 : Int32)))) = (bI (e1_ = (0 : Int32))) from (if_neg hc15), show (if e0_ = (0 : Int32) then e2_ else (if e1_ = (0 : Int32) then e2_ else (bI (e2_ = (0 : Int32))))) = e2_ from ((if_neg hc15).trans (if_pos hc30)), show (if e0_ = (0 : Int32) then e3_ else (if e1_ = (0 : Int32) then e3_ else (if e2_ = (0 : Int32) then e3_ else (bI (e3_ = (0 : Int32)))))) = e3_ from ((if_neg hc15).trans (if_pos hc30)), show (if e0_ = (0 : Int32) then e4_ else (if e1_ = (0 : Int32) then e4_ else (if e2_ = (0 : Int32) then e4_ else (if e3_ = (0 : Int32) then e4_ else (bI (e4_ = (0 : Int32))))))) = e4_ from ((if_neg hc15).trans (if_pos hc30))]; exact V24)⟩
  obtain ⟨cl31, Ar31, q31, S31, N31, H31, G31⟩ := id V24
  obtain ⟨cl32, Ar32, q32, S32, N32, H32, G32⟩ := id V24
  have hin32 : ¬ ((2 : Int32) < 0 ∨ cl32.slots.size ≤ ((2 : Int32)).toNatClampNeg) := inb_of S32 ⟨by decide, by decide⟩
  have hat32 : cl32.slots[((2 : Int32)).toNatClampNeg]? = some (.int e2_) := Has.at H32 hin32 rfl
  have pre34 : ∀ t, Steps p.tables e below (T23.setTop (mkF m 13 #[.val (.ref a2_0), .val (.int (2 : Int32))] [(.int e2_), (.int (2 : Int32)), (.ref a2_0)])) t → Steps p.tables e below (s₁.setTop (entryFrame m #[(.ref a2_0)] 2)) t := fun t k => pre25 t (by
    show Steps p.tables e below (T23.setTop (mkF m 22 #[.val (.ref a2_0), .val (.int (1 : Int32))] [])) _
    refine XS.aloadN X23.here hx rfl (hb hby d2_22) rfl rfl ?_
    refine XS.iloadN X23.here hx rfl (hb hby d2_23) rfl ?_
    show Steps p.tables e below (T23.setTop (mkF m 24 #[.val (.ref a2_0), .val (.int (1 : Int32))] [(.int (1 : Int32)), (.ref a2_0)])) _
    refine X23.baloadBooleans hx (j := (1 : Int32)) (v := (.int (bI (e1_ = (0 : Int32))))) (by rw [e23]; exact Ar29.1) (State.isArrayOf_alike hZ.alike Ar29.2.1) Ar29.2.2 hin29 hat29 (g := (mkF m 24 #[.val (.ref a2_0), .val (.int (1 : Int32))] [(.int (1 : Int32)), (.ref a2_0)])) rfl rfl (hb hby d2_24) _ ?_
    show Steps p.tables e below (T23.setTop (mkF m 25 #[.val (.ref a2_0), .val (.int (1 : Int32))] [(.int (bI (e1_ = (0 : Int32))))])) _
    refine XS.ifYes X23.here hx rfl (pc0 := 25) (pc' := 30) rfl (hb hby d2_25) rfl ((if0 _ _).trans (teq (bI_f hc30)).1) (by decide) (by decide) ?_
    show Steps p.tables e below (T23.setTop (mkF m 30 #[.val (.ref a2_0), .val (.int (1 : Int32))] [])) _
    refine XS.iinc X23.here hx rfl (hb hby d2_30) rfl (l' := #[.val (.ref a2_0), .val (.int (2 : Int32))]) rfl ?_
    show Steps p.tables e below (T23.setTop (mkF m 33 #[.val (.ref a2_0), .val (.int (2 : Int32))] [])) _
    refine XS.goto X23.here hx rfl (pc0 := 33) (pc' := 2) rfl (hb hby d2_33) (by decide) (by decide) ?_
    refine XS.iloadN X23.here hx rfl (hb hby d2_2) rfl ?_
    refine XS.aloadN X23.here hx rfl (hb hby d2_3) rfl rfl ?_
    show Steps p.tables e below (T23.setTop (mkF m 4 #[.val (.ref a2_0), .val (.int (2 : Int32))] [(.ref a2_0), (.int (2 : Int32))])) _
    refine X23.arraylength hx (by rw [e23]; exact Ar31.1) (State.isArrayOf_alike hZ.alike Ar31.2.1) (g := (mkF m 4 #[.val (.ref a2_0), .val (.int (2 : Int32))] [(.ref a2_0), (.int (2 : Int32))])) rfl rfl (hb hby d2_4) _ ?_
    rw [len_of S31 N31]
    show Steps p.tables e below (T23.setTop (mkF m 5 #[.val (.ref a2_0), .val (.int (2 : Int32))] [(.int (5 : Int32)), (.int (2 : Int32))])) _
    refine XS.icmpNo X23.here hx rfl (hb hby d2_5) rfl (tlt (by decide : (2 : Int32) < (5 : Int32))).2.1 ?_
    show Steps p.tables e below (T23.setTop (mkF m 8 #[.val (.ref a2_0), .val (.int (2 : Int32))] [])) _
    refine XS.aloadN X23.here hx rfl (hb hby d2_8) rfl rfl ?_
    refine XS.iloadN X23.here hx rfl (hb hby d2_9) rfl ?_
    refine XS.aloadN X23.here hx rfl (hb hby d2_10) rfl rfl ?_
    refine XS.iloadN X23.here hx rfl (hb hby d2_11) rfl ?_
    show Steps p.tables e below (T23.setTop (mkF m 12 #[.val (.ref a2_0), .val (.int (2 : Int32))] [(.int (2 : Int32)), (.ref a2_0), (.int (2 : Int32)), (.ref a2_0)])) _
    refine X23.baloadBooleans hx (j := (2 : Int32)) (v := (.int e2_)) (by rw [e23]; exact Ar32.1) (State.isArrayOf_alike hZ.alike Ar32.2.1) Ar32.2.2 hin32 hat32 (g := (mkF m 12 #[.val (.ref a2_0), .val (.int (2 : Int32))] [(.int (2 : Int32)), (.ref a2_0), (.int (2 : Int32)), (.ref a2_0)])) rfl rfl (hb hby d2_12) _ ?_
    exact k)
  have pre35 : ∀ t, Steps p.tables e below (T23.setTop (mkF m 21 #[.val (.ref a2_0), .val (.int (2 : Int32))] [(.int (bI (e2_ = (0 : Int32)))), (.int (2 : Int32)), (.ref a2_0)])) t → Steps p.tables e below (s₁.setTop (entryFrame m #[(.ref a2_0)] 2)) t := fun t k => pre34 t (by
    by_cases hc33 : e2_ = (0 : Int32)
    · show Steps p.tables e below (T23.setTop (mkF m 13 #[.val (.ref a2_0), .val (.int (2 : Int32))] [(.int e2_), (.int (2 : Int32)), (.ref a2_0)])) _
      refine XS.ifNo X23.here hx rfl (hb hby d2_13) rfl ((if0 _ _).trans (teq hc33).2) ?_
      show Steps p.tables e below (T23.setTop (mkF m 16 #[.val (.ref a2_0), .val (.int (2 : Int32))] [(.int (2 : Int32)), (.ref a2_0)])) _
      refine XS.iconst X23.here hx rfl (hb hby d2_16) ?_
      show Steps p.tables e below (T23.setTop (mkF m 17 #[.val (.ref a2_0), .val (.int (2 : Int32))] [(.int (1 : Int32)), (.int (2 : Int32)), (.ref a2_0)])) _
      refine XS.goto X23.here hx rfl (pc0 := 17) (pc' := 21) rfl (hb hby d2_17) (by decide) (by decide) ?_
      have q36 : (bI (e2_ = (0 : Int32))) = (1 : Int32) := (bI_t hc33)
      exact castTop (g := (mkF m 21 #[.val (.ref a2_0), .val (.int (2 : Int32))] [(.int (1 : Int32)), (.int (2 : Int32)), (.ref a2_0)])) (g' := (mkF m 21 #[.val (.ref a2_0), .val (.int (2 : Int32))] [(.int (bI (e2_ = (0 : Int32)))), (.int (2 : Int32)), (.ref a2_0)])) (by simp only [q36]) k
    · show Steps p.tables e below (T23.setTop (mkF m 13 #[.val (.ref a2_0), .val (.int (2 : Int32))] [(.int e2_), (.int (2 : Int32)), (.ref a2_0)])) _
      refine XS.ifYes X23.here hx rfl (pc0 := 13) (pc' := 20) rfl (hb hby d2_13) rfl ((if0 _ _).trans (feq hc33).2) (by decide) (by decide) ?_
      show Steps p.tables e below (T23.setTop (mkF m 20 #[.val (.ref a2_0), .val (.int (2 : Int32))] [(.int (2 : Int32)), (.ref a2_0)])) _
      refine XS.iconst X23.here hx rfl (hb hby d2_20) ?_
      have q37 : (bI (e2_ = (0 : Int32))) = (0 : Int32) := (bI_f hc33)
      exact castTop (g := (mkF m 21 #[.val (.ref a2_0), .val (.int (2 : Int32))] [(.int (0 : Int32)), (.int (2 : Int32)), (.ref a2_0)])) (g' := (mkF m 21 #[.val (.ref a2_0), .val (.int (2 : Int32))] [(.int (bI (e2_ = (0 : Int32)))), (.int (2 : Int32)), (.ref a2_0)])) (by simp only [q37]) k)
  obtain ⟨cl38, Ar38, q38, S38, N38, H38, G38⟩ := id V24
  have hin38 : ¬ ((2 : Int32) < 0 ∨ cl38.slots.size ≤ ((2 : Int32)).toNatClampNeg) := inb_of S38 ⟨by decide, by decide⟩
  obtain ⟨T38, h38, X38, e38, W38, st38⟩ := stZ X23 hx hZ e23 Ar38 (j := (2 : Int32)) hin38 (g := (mkF m 21 #[.val (.ref a2_0), .val (.int (2 : Int32))] [(.int (bI (e2_ = (0 : Int32)))), (.int (2 : Int32)), (.ref a2_0)])) rfl rfl (hb hby d2_21)
  have V39 : Arv Z h38 a2_0 ka .boolean (5 : Int32) [(.int (bI (e0_ = (0 : Int32)))), (.int (bI (e1_ = (0 : Int32)))), (.int (nar .boolean (bI (e2_ = (0 : Int32))))), (.int e3_), (.int e4_)] (.int (0 : Int32)) := Arv.set Ar38 q38 S38 N38 H38 G38 (fits_nar_bool _) W38 2 rfl (Nat.le_of_ble_eq_true rfl)
  rw [bI_nar] at V39
  have pre40 : ∀ t, Steps p.tables e below (T38.setTop (mkF m 22 #[.val (.ref a2_0), .val (.int (2 : Int32))] [])) t → Steps p.tables e below (s₁.setTop (entryFrame m #[(.ref a2_0)] 2)) t := fun t k => pre35 t (by
    show Steps p.tables e below (T23.setTop (mkF m 21 #[.val (.ref a2_0), .val (.int (2 : Int32))] [(.int (bI (e2_ = (0 : Int32)))), (.int (2 : Int32)), (.ref a2_0)])) _
    refine st38 _ ?_
    exact k)
  have z41 := Nat.le_trans z26 (Keep.of_wr W38).1
  have k42 := k27.wr W38 (Or.inl (List.mem_of_getElem? (i := 0) rfl))
  have N43 := Fr.snoc X38 N28 g_a2_0
  obtain ⟨cl44, Ar44, q44, S44, N44, H44, G44⟩ := id V39
  have hin44 : ¬ ((2 : Int32) < 0 ∨ cl44.slots.size ≤ ((2 : Int32)).toNatClampNeg) := inb_of S44 ⟨by decide, by decide⟩
  have hat44 : cl44.slots[((2 : Int32)).toNatClampNeg]? = some (.int (bI (e2_ = (0 : Int32)))) := Has.at H44 hin44 rfl
  by_cases hc45 : e2_ = (0 : Int32)
  · obtain ⟨fs, hr, hrun, hended, hW, hsame⟩ := X38.leave (v := some (.int (1 : Int32))) (fun h => by rw [Bd.returns] at h; cases h)
    refine ⟨_, _, pre40 _ ?_, hrun, hended, _, _, rfl, ?_, ⟨_, rfl⟩, hW, hsame.mono (by decide) (by decide)⟩
    · show Steps p.tables e below (T38.setTop (mkF m 22 #[.val (.ref a2_0), .val (.int (2 : Int32))] [])) _
      refine XS.aloadN X38.here hx rfl (hb hby d2_22) rfl rfl ?_
      refine XS.iloadN X38.here hx rfl (hb hby d2_23) rfl ?_
      show Steps p.tables e below (T38.setTop (mkF m 24 #[.val (.ref a2_0), .val (.int (2 : Int32))] [(.int (2 : Int32)), (.ref a2_0)])) _
      refine X38.baloadBooleans hx (j := (2 : Int32)) (v := (.int (bI (e2_ = (0 : Int32))))) (by rw [e38]; exact Ar44.1) (State.isArrayOf_alike hZ.alike Ar44.2.1) Ar44.2.2 hin44 hat44 (g := (mkF m 24 #[.val (.ref a2_0), .val (.int (2 : Int32))] [(.int (2 : Int32)), (.ref a2_0)])) rfl rfl (hb hby d2_24) _ ?_
      show Steps p.tables e below (T38.setTop (mkF m 25 #[.val (.ref a2_0), .val (.int (2 : Int32))] [(.int (bI (e2_ = (0 : Int32))))])) _
      refine XS.ifNo X38.here hx rfl (hb hby d2_25) rfl ((if0 _ _).trans (feq (bI_n hc45)).1) ?_
      show Steps p.tables e below (T38.setTop (mkF m 28 #[.val (.ref a2_0), .val (.int (2 : Int32))] [])) _
      refine XS.iconst X38.here hx rfl (hb hby d2_28) ?_
      show Steps p.tables e below (T38.setTop (mkF m 29 #[.val (.ref a2_0), .val (.int (2 : Int32))] [(.int (1 : Int32))])) _
      exact retN X38 hx (t := .boolean) Bd.returns (by simp) (hb hby d2_29) hr
    · show Q2_5 Z a2_0 ka e0_ e1_ e2_ e3_ e4_ h0 n0 _ T38.heap _
      rw [e38]
      exact ⟨(congrArg (fun z => some (Value.int z)) ((bI_t (Or.inr (Or.inr (Or.inl hc45)))) : (bI ((e0_ = (0 : Int32)) ∨ ((e1_ = (0 : Int32)) ∨ ((e2_ = (0 : Int32)) ∨ ((e3_ = (0 : Int32)) ∨ (e4_ = (0 : Int32))))))) = (1 : Int32)).symm), N43, k42, (by rw [show (if e0_ = (0 : Int32) then e1_ else (bI (e1_ = (0 : Int32)))) = (bI (e1_ = (0 : Int32))) from (if_neg hc15), show (if e0_ = (0 : Int32) then e2_ else (if e1_ = (0 : Int32) then e2_ else (bI (e2_ = (0 : Int32))))) = (bI (e2_ = (0 : Int32))) from ((if_neg hc15).trans (if_neg hc30)), show (if e0_ = (0 : Int32) then e3_ else (if e1_ = (0 : Int32) then e3_ else (if e2_ = (0 : Int32) then e3_ else (bI (e3_ = (0 : Int32)))))) = e3_ from ((if_neg hc15).trans ((if_neg hc30).trans (if_pos hc45))), show (if e0_ = (0 : Int32) then e4_ else (if e1_ = (0 : Int32) then e4_ else (if e2_ = (0 : Int32) then e4_ else (if e3_ = (0 : Int32) then e4_ else (bI (e4_ = (0 : Int32))))))) = e4_ from ((if_neg hc15).trans ((if_neg hc30).trans (if_pos hc45)))]; exact V39)⟩
  obtain ⟨cl46, Ar46, q46, S46, N46, H46, G46⟩ := id V39
  obtain ⟨cl47, Ar47, q47, S47, N47, H47, G47⟩ := id V39
  have hin47 : ¬ ((3 : Int32) < 0 ∨ cl47.slots.size ≤ ((3 : Int32)).toNatClampNeg) := inb_of S47 ⟨by decide, by decide⟩
  have hat47 : cl47.slots[((3 : Int32)).toNatClampNeg]? = some (.int e3_) := Has.at H47 hin47 rfl
  have pre49 : ∀ t, Steps p.tables e below (T38.setTop (mkF m 13 #[.val (.ref a2_0), .val (.int (3 : Int32))] [(.int e3_), (.int (3 : Int32)), (.ref a2_0)])) t → Steps p.tables e below (s₁.setTop (entryFrame m #[(.ref a2_0)] 2)) t := fun t k => pre40 t (by
    show Steps p.tables e below (T38.setTop (mkF m 22 #[.val (.ref a2_0), .val (.int (2 : Int32))] [])) _
    refine XS.aloadN X38.here hx rfl (hb hby d2_22) rfl rfl ?_
    refine XS.iloadN X38.here hx rfl (hb hby d2_23) rfl ?_
    show Steps p.tables e below (T38.setTop (mkF m 24 #[.val (.ref a2_0), .val (.int (2 : Int32))] [(.int (2 : Int32)), (.ref a2_0)])) _
    refine X38.baloadBooleans hx (j := (2 : Int32)) (v := (.int (bI (e2_ = (0 : Int32))))) (by rw [e38]; exact Ar44.1) (State.isArrayOf_alike hZ.alike Ar44.2.1) Ar44.2.2 hin44 hat44 (g := (mkF m 24 #[.val (.ref a2_0), .val (.int (2 : Int32))] [(.int (2 : Int32)), (.ref a2_0)])) rfl rfl (hb hby d2_24) _ ?_
    show Steps p.tables e below (T38.setTop (mkF m 25 #[.val (.ref a2_0), .val (.int (2 : Int32))] [(.int (bI (e2_ = (0 : Int32))))])) _
    refine XS.ifYes X38.here hx rfl (pc0 := 25) (pc' := 30) rfl (hb hby d2_25) rfl ((if0 _ _).trans (teq (bI_f hc45)).1) (by decide) (by decide) ?_
    show Steps p.tables e below (T38.setTop (mkF m 30 #[.val (.ref a2_0), .val (.int (2 : Int32))] [])) _
    refine XS.iinc X38.here hx rfl (hb hby d2_30) rfl (l' := #[.val (.ref a2_0), .val (.int (3 : Int32))]) rfl ?_
    show Steps p.tables e below (T38.setTop (mkF m 33 #[.val (.ref a2_0), .val (.int (3 : Int32))] [])) _
    refine XS.goto X38.here hx rfl (pc0 := 33) (pc' := 2) rfl (hb hby d2_33) (by decide) (by decide) ?_
    refine XS.iloadN X38.here hx rfl (hb hby d2_2) rfl ?_
    refine XS.aloadN X38.here hx rfl (hb hby d2_3) rfl rfl ?_
    show Steps p.tables e below (T38.setTop (mkF m 4 #[.val (.ref a2_0), .val (.int (3 : Int32))] [(.ref a2_0), (.int (3 : Int32))])) _
    refine X38.arraylength hx (by rw [e38]; exact Ar46.1) (State.isArrayOf_alike hZ.alike Ar46.2.1) (g := (mkF m 4 #[.val (.ref a2_0), .val (.int (3 : Int32))] [(.ref a2_0), (.int (3 : Int32))])) rfl rfl (hb hby d2_4) _ ?_
    rw [len_of S46 N46]
    show Steps p.tables e below (T38.setTop (mkF m 5 #[.val (.ref a2_0), .val (.int (3 : Int32))] [(.int (5 : Int32)), (.int (3 : Int32))])) _
    refine XS.icmpNo X38.here hx rfl (hb hby d2_5) rfl (tlt (by decide : (3 : Int32) < (5 : Int32))).2.1 ?_
    show Steps p.tables e below (T38.setTop (mkF m 8 #[.val (.ref a2_0), .val (.int (3 : Int32))] [])) _
    refine XS.aloadN X38.here hx rfl (hb hby d2_8) rfl rfl ?_
    refine XS.iloadN X38.here hx rfl (hb hby d2_9) rfl ?_
    refine XS.aloadN X38.here hx rfl (hb hby d2_10) rfl rfl ?_
    refine XS.iloadN X38.here hx rfl (hb hby d2_11) rfl ?_
    show Steps p.tables e below (T38.setTop (mkF m 12 #[.val (.ref a2_0), .val (.int (3 : Int32))] [(.int (3 : Int32)), (.ref a2_0), (.int (3 : Int32)), (.ref a2_0)])) _
    refine X38.baloadBooleans hx (j := (3 : Int32)) (v := (.int e3_)) (by rw [e38]; exact Ar47.1) (State.isArrayOf_alike hZ.alike Ar47.2.1) Ar47.2.2 hin47 hat47 (g := (mkF m 12 #[.val (.ref a2_0), .val (.int (3 : Int32))] [(.int (3 : Int32)), (.ref a2_0), (.int (3 : Int32)), (.ref a2_0)])) rfl rfl (hb hby d2_12) _ ?_
    exact k)
  have pre50 : ∀ t, Steps p.tables e below (T38.setTop (mkF m 21 #[.val (.ref a2_0), .val (.int (3 : Int32))] [(.int (bI (e3_ = (0 : Int32)))), (.int (3 : Int32)), (.ref a2_0)])) t → Steps p.tables e below (s₁.setTop (entryFrame m #[(.ref a2_0)] 2)) t := fun t k => pre49 t (by
    by_cases hc48 : e3_ = (0 : Int32)
    · show Steps p.tables e below (T38.setTop (mkF m 13 #[.val (.ref a2_0), .val (.int (3 : Int32))] [(.int e3_), (.int (3 : Int32)), (.ref a2_0)])) _
      refine XS.ifNo X38.here hx rfl (hb hby d2_13) rfl ((if0 _ _).trans (teq hc48).2) ?_
      show Steps p.tables e below (T38.setTop (mkF m 16 #[.val (.ref a2_0), .val (.int (3 : Int32))] [(.int (3 : Int32)), (.ref a2_0)])) _
      refine XS.iconst X38.here hx rfl (hb hby d2_16) ?_
      show Steps p.tables e below (T38.setTop (mkF m 17 #[.val (.ref a2_0), .val (.int (3 : Int32))] [(.int (1 : Int32)), (.int (3 : Int32)), (.ref a2_0)])) _
      refine XS.goto X38.here hx rfl (pc0 := 17) (pc' := 21) rfl (hb hby d2_17) (by decide) (by decide) ?_
      have q51 : (bI (e3_ = (0 : Int32))) = (1 : Int32) := (bI_t hc48)
      exact castTop (g := (mkF m 21 #[.val (.ref a2_0), .val (.int (3 : Int32))] [(.int (1 : Int32)), (.int (3 : Int32)), (.ref a2_0)])) (g' := (mkF m 21 #[.val (.ref a2_0), .val (.int (3 : Int32))] [(.int (bI (e3_ = (0 : Int32)))), (.int (3 : Int32)), (.ref a2_0)])) (by simp only [q51]) k
    · show Steps p.tables e below (T38.setTop (mkF m 13 #[.val (.ref a2_0), .val (.int (3 : Int32))] [(.int e3_), (.int (3 : Int32)), (.ref a2_0)])) _
      refine XS.ifYes X38.here hx rfl (pc0 := 13) (pc' := 20) rfl (hb hby d2_13) rfl ((if0 _ _).trans (feq hc48).2) (by decide) (by decide) ?_
      show Steps p.tables e below (T38.setTop (mkF m 20 #[.val (.ref a2_0), .val (.int (3 : Int32))] [(.int (3 : Int32)), (.ref a2_0)])) _
      refine XS.iconst X38.here hx rfl (hb hby d2_20) ?_
      have q52 : (bI (e3_ = (0 : Int32))) = (0 : Int32) := (bI_f hc48)
      exact castTop (g := (mkF m 21 #[.val (.ref a2_0), .val (.int (3 : Int32))] [(.int (0 : Int32)), (.int (3 : Int32)), (.ref a2_0)])) (g' := (mkF m 21 #[.val (.ref a2_0), .val (.int (3 : Int32))] [(.int (bI (e3_ = (0 : Int32)))), (.int (3 : Int32)), (.ref a2_0)])) (by simp only [q52]) k)
  obtain ⟨cl53, Ar53, q53, S53, N53, H53, G53⟩ := id V39
  have hin53 : ¬ ((3 : Int32) < 0 ∨ cl53.slots.size ≤ ((3 : Int32)).toNatClampNeg) := inb_of S53 ⟨by decide, by decide⟩
  obtain ⟨T53, h53, X53, e53, W53, st53⟩ := stZ X38 hx hZ e38 Ar53 (j := (3 : Int32)) hin53 (g := (mkF m 21 #[.val (.ref a2_0), .val (.int (3 : Int32))] [(.int (bI (e3_ = (0 : Int32)))), (.int (3 : Int32)), (.ref a2_0)])) rfl rfl (hb hby d2_21)
  have V54 : Arv Z h53 a2_0 ka .boolean (5 : Int32) [(.int (bI (e0_ = (0 : Int32)))), (.int (bI (e1_ = (0 : Int32)))), (.int (bI (e2_ = (0 : Int32)))), (.int (nar .boolean (bI (e3_ = (0 : Int32))))), (.int e4_)] (.int (0 : Int32)) := Arv.set Ar53 q53 S53 N53 H53 G53 (fits_nar_bool _) W53 3 rfl (Nat.le_of_ble_eq_true rfl)
  rw [bI_nar] at V54
  have pre55 : ∀ t, Steps p.tables e below (T53.setTop (mkF m 22 #[.val (.ref a2_0), .val (.int (3 : Int32))] [])) t → Steps p.tables e below (s₁.setTop (entryFrame m #[(.ref a2_0)] 2)) t := fun t k => pre50 t (by
    show Steps p.tables e below (T38.setTop (mkF m 21 #[.val (.ref a2_0), .val (.int (3 : Int32))] [(.int (bI (e3_ = (0 : Int32)))), (.int (3 : Int32)), (.ref a2_0)])) _
    refine st53 _ ?_
    exact k)
  have z56 := Nat.le_trans z41 (Keep.of_wr W53).1
  have k57 := k42.wr W53 (Or.inl (List.mem_of_getElem? (i := 0) rfl))
  have N58 := Fr.snoc X53 N43 g_a2_0
  obtain ⟨cl59, Ar59, q59, S59, N59, H59, G59⟩ := id V54
  have hin59 : ¬ ((3 : Int32) < 0 ∨ cl59.slots.size ≤ ((3 : Int32)).toNatClampNeg) := inb_of S59 ⟨by decide, by decide⟩
  have hat59 : cl59.slots[((3 : Int32)).toNatClampNeg]? = some (.int (bI (e3_ = (0 : Int32)))) := Has.at H59 hin59 rfl
  by_cases hc60 : e3_ = (0 : Int32)
  · obtain ⟨fs, hr, hrun, hended, hW, hsame⟩ := X53.leave (v := some (.int (1 : Int32))) (fun h => by rw [Bd.returns] at h; cases h)
    refine ⟨_, _, pre55 _ ?_, hrun, hended, _, _, rfl, ?_, ⟨_, rfl⟩, hW, hsame.mono (by decide) (by decide)⟩
    · show Steps p.tables e below (T53.setTop (mkF m 22 #[.val (.ref a2_0), .val (.int (3 : Int32))] [])) _
      refine XS.aloadN X53.here hx rfl (hb hby d2_22) rfl rfl ?_
      refine XS.iloadN X53.here hx rfl (hb hby d2_23) rfl ?_
      show Steps p.tables e below (T53.setTop (mkF m 24 #[.val (.ref a2_0), .val (.int (3 : Int32))] [(.int (3 : Int32)), (.ref a2_0)])) _
      refine X53.baloadBooleans hx (j := (3 : Int32)) (v := (.int (bI (e3_ = (0 : Int32))))) (by rw [e53]; exact Ar59.1) (State.isArrayOf_alike hZ.alike Ar59.2.1) Ar59.2.2 hin59 hat59 (g := (mkF m 24 #[.val (.ref a2_0), .val (.int (3 : Int32))] [(.int (3 : Int32)), (.ref a2_0)])) rfl rfl (hb hby d2_24) _ ?_
      show Steps p.tables e below (T53.setTop (mkF m 25 #[.val (.ref a2_0), .val (.int (3 : Int32))] [(.int (bI (e3_ = (0 : Int32))))])) _
      refine XS.ifNo X53.here hx rfl (hb hby d2_25) rfl ((if0 _ _).trans (feq (bI_n hc60)).1) ?_
      show Steps p.tables e below (T53.setTop (mkF m 28 #[.val (.ref a2_0), .val (.int (3 : Int32))] [])) _
      refine XS.iconst X53.here hx rfl (hb hby d2_28) ?_
      show Steps p.tables e below (T53.setTop (mkF m 29 #[.val (.ref a2_0), .val (.int (3 : Int32))] [(.int (1 : Int32))])) _
      exact retN X53 hx (t := .boolean) Bd.returns (by simp) (hb hby d2_29) hr
    · show Q2_5 Z a2_0 ka e0_ e1_ e2_ e3_ e4_ h0 n0 _ T53.heap _
      rw [e53]
      exact ⟨(congrArg (fun z => some (Value.int z)) ((bI_t (Or.inr (Or.inr (Or.inr (Or.inl hc60))))) : (bI ((e0_ = (0 : Int32)) ∨ ((e1_ = (0 : Int32)) ∨ ((e2_ = (0 : Int32)) ∨ ((e3_ = (0 : Int32)) ∨ (e4_ = (0 : Int32))))))) = (1 : Int32)).symm), N58, k57, (by rw [show (if e0_ = (0 : Int32) then e1_ else (bI (e1_ = (0 : Int32)))) = (bI (e1_ = (0 : Int32))) from (if_neg hc15), show (if e0_ = (0 : Int32) then e2_ else (if e1_ = (0 : Int32) then e2_ else (bI (e2_ = (0 : Int32))))) = (bI (e2_ = (0 : Int32))) from ((if_neg hc15).trans (if_neg hc30)), show (if e0_ = (0 : Int32) then e3_ else (if e1_ = (0 : Int32) then e3_ else (if e2_ = (0 : Int32) then e3_ else (bI (e3_ = (0 : Int32)))))) = (bI (e3_ = (0 : Int32))) from ((if_neg hc15).trans ((if_neg hc30).trans (if_neg hc45))), show (if e0_ = (0 : Int32) then e4_ else (if e1_ = (0 : Int32) then e4_ else (if e2_ = (0 : Int32) then e4_ else (if e3_ = (0 : Int32) then e4_ else (bI (e4_ = (0 : Int32))))))) = e4_ from ((if_neg hc15).trans ((if_neg hc30).trans ((if_neg hc45).trans (if_pos hc60))))]; exact V54)⟩
  obtain ⟨cl61, Ar61, q61, S61, N61, H61, G61⟩ := id V54
  obtain ⟨cl62, Ar62, q62, S62, N62, H62, G62⟩ := id V54
  have hin62 : ¬ ((4 : Int32) < 0 ∨ cl62.slots.size ≤ ((4 : Int32)).toNatClampNeg) := inb_of S62 ⟨by decide, by decide⟩
  have hat62 : cl62.slots[((4 : Int32)).toNatClampNeg]? = some (.int e4_) := Has.at H62 hin62 rfl
  have pre64 : ∀ t, Steps p.tables e below (T53.setTop (mkF m 13 #[.val (.ref a2_0), .val (.int (4 : Int32))] [(.int e4_), (.int (4 : Int32)), (.ref a2_0)])) t → Steps p.tables e below (s₁.setTop (entryFrame m #[(.ref a2_0)] 2)) t := fun t k => pre55 t (by
    show Steps p.tables e below (T53.setTop (mkF m 22 #[.val (.ref a2_0), .val (.int (3 : Int32))] [])) _
    refine XS.aloadN X53.here hx rfl (hb hby d2_22) rfl rfl ?_
    refine XS.iloadN X53.here hx rfl (hb hby d2_23) rfl ?_
    show Steps p.tables e below (T53.setTop (mkF m 24 #[.val (.ref a2_0), .val (.int (3 : Int32))] [(.int (3 : Int32)), (.ref a2_0)])) _
    refine X53.baloadBooleans hx (j := (3 : Int32)) (v := (.int (bI (e3_ = (0 : Int32))))) (by rw [e53]; exact Ar59.1) (State.isArrayOf_alike hZ.alike Ar59.2.1) Ar59.2.2 hin59 hat59 (g := (mkF m 24 #[.val (.ref a2_0), .val (.int (3 : Int32))] [(.int (3 : Int32)), (.ref a2_0)])) rfl rfl (hb hby d2_24) _ ?_
    show Steps p.tables e below (T53.setTop (mkF m 25 #[.val (.ref a2_0), .val (.int (3 : Int32))] [(.int (bI (e3_ = (0 : Int32))))])) _
    refine XS.ifYes X53.here hx rfl (pc0 := 25) (pc' := 30) rfl (hb hby d2_25) rfl ((if0 _ _).trans (teq (bI_f hc60)).1) (by decide) (by decide) ?_
    show Steps p.tables e below (T53.setTop (mkF m 30 #[.val (.ref a2_0), .val (.int (3 : Int32))] [])) _
    refine XS.iinc X53.here hx rfl (hb hby d2_30) rfl (l' := #[.val (.ref a2_0), .val (.int (4 : Int32))]) rfl ?_
    show Steps p.tables e below (T53.setTop (mkF m 33 #[.val (.ref a2_0), .val (.int (4 : Int32))] [])) _
    refine XS.goto X53.here hx rfl (pc0 := 33) (pc' := 2) rfl (hb hby d2_33) (by decide) (by decide) ?_
    refine XS.iloadN X53.here hx rfl (hb hby d2_2) rfl ?_
    refine XS.aloadN X53.here hx rfl (hb hby d2_3) rfl rfl ?_
    show Steps p.tables e below (T53.setTop (mkF m 4 #[.val (.ref a2_0), .val (.int (4 : Int32))] [(.ref a2_0), (.int (4 : Int32))])) _
    refine X53.arraylength hx (by rw [e53]; exact Ar61.1) (State.isArrayOf_alike hZ.alike Ar61.2.1) (g := (mkF m 4 #[.val (.ref a2_0), .val (.int (4 : Int32))] [(.ref a2_0), (.int (4 : Int32))])) rfl rfl (hb hby d2_4) _ ?_
    rw [len_of S61 N61]
    show Steps p.tables e below (T53.setTop (mkF m 5 #[.val (.ref a2_0), .val (.int (4 : Int32))] [(.int (5 : Int32)), (.int (4 : Int32))])) _
    refine XS.icmpNo X53.here hx rfl (hb hby d2_5) rfl (tlt (by decide : (4 : Int32) < (5 : Int32))).2.1 ?_
    show Steps p.tables e below (T53.setTop (mkF m 8 #[.val (.ref a2_0), .val (.int (4 : Int32))] [])) _
    refine XS.aloadN X53.here hx rfl (hb hby d2_8) rfl rfl ?_
    refine XS.iloadN X53.here hx rfl (hb hby d2_9) rfl ?_
    refine XS.aloadN X53.here hx rfl (hb hby d2_10) rfl rfl ?_
    refine XS.iloadN X53.here hx rfl (hb hby d2_11) rfl ?_
    show Steps p.tables e below (T53.setTop (mkF m 12 #[.val (.ref a2_0), .val (.int (4 : Int32))] [(.int (4 : Int32)), (.ref a2_0), (.int (4 : Int32)), (.ref a2_0)])) _
    refine X53.baloadBooleans hx (j := (4 : Int32)) (v := (.int e4_)) (by rw [e53]; exact Ar62.1) (State.isArrayOf_alike hZ.alike Ar62.2.1) Ar62.2.2 hin62 hat62 (g := (mkF m 12 #[.val (.ref a2_0), .val (.int (4 : Int32))] [(.int (4 : Int32)), (.ref a2_0), (.int (4 : Int32)), (.ref a2_0)])) rfl rfl (hb hby d2_12) _ ?_
    exact k)
  have pre65 : ∀ t, Steps p.tables e below (T53.setTop (mkF m 21 #[.val (.ref a2_0), .val (.int (4 : Int32))] [(.int (bI (e4_ = (0 : Int32)))), (.int (4 : Int32)), (.ref a2_0)])) t → Steps p.tables e below (s₁.setTop (entryFrame m #[(.ref a2_0)] 2)) t := fun t k => pre64 t (by
    by_cases hc63 : e4_ = (0 : Int32)
    · show Steps p.tables e below (T53.setTop (mkF m 13 #[.val (.ref a2_0), .val (.int (4 : Int32))] [(.int e4_), (.int (4 : Int32)), (.ref a2_0)])) _
      refine XS.ifNo X53.here hx rfl (hb hby d2_13) rfl ((if0 _ _).trans (teq hc63).2) ?_
      show Steps p.tables e below (T53.setTop (mkF m 16 #[.val (.ref a2_0), .val (.int (4 : Int32))] [(.int (4 : Int32)), (.ref a2_0)])) _
      refine XS.iconst X53.here hx rfl (hb hby d2_16) ?_
      show Steps p.tables e below (T53.setTop (mkF m 17 #[.val (.ref a2_0), .val (.int (4 : Int32))] [(.int (1 : Int32)), (.int (4 : Int32)), (.ref a2_0)])) _
      refine XS.goto X53.here hx rfl (pc0 := 17) (pc' := 21) rfl (hb hby d2_17) (by decide) (by decide) ?_
      have q66 : (bI (e4_ = (0 : Int32))) = (1 : Int32) := (bI_t hc63)
      exact castTop (g := (mkF m 21 #[.val (.ref a2_0), .val (.int (4 : Int32))] [(.int (1 : Int32)), (.int (4 : Int32)), (.ref a2_0)])) (g' := (mkF m 21 #[.val (.ref a2_0), .val (.int (4 : Int32))] [(.int (bI (e4_ = (0 : Int32)))), (.int (4 : Int32)), (.ref a2_0)])) (by simp only [q66]) k
    · show Steps p.tables e below (T53.setTop (mkF m 13 #[.val (.ref a2_0), .val (.int (4 : Int32))] [(.int e4_), (.int (4 : Int32)), (.ref a2_0)])) _
      refine XS.ifYes X53.here hx rfl (pc0 := 13) (pc' := 20) rfl (hb hby d2_13) rfl ((if0 _ _).trans (feq hc63).2) (by decide) (by decide) ?_
      show Steps p.tables e below (T53.setTop (mkF m 20 #[.val (.ref a2_0), .val (.int (4 : Int32))] [(.int (4 : Int32)), (.ref a2_0)])) _
      refine XS.iconst X53.here hx rfl (hb hby d2_20) ?_
      have q67 : (bI (e4_ = (0 : Int32))) = (0 : Int32) := (bI_f hc63)
      exact castTop (g := (mkF m 21 #[.val (.ref a2_0), .val (.int (4 : Int32))] [(.int (0 : Int32)), (.int (4 : Int32)), (.ref a2_0)])) (g' := (mkF m 21 #[.val (.ref a2_0), .val (.int (4 : Int32))] [(.int (bI (e4_ = (0 : Int32)))), (.int (4 : Int32)), (.ref a2_0)])) (by simp only [q67]) k)
  obtain ⟨cl68, Ar68, q68, S68, N68, H68, G68⟩ := id V54
  have hin68 : ¬ ((4 : Int32) < 0 ∨ cl68.slots.size ≤ ((4 : Int32)).toNatClampNeg) := inb_of S68 ⟨by decide, by decide⟩
  obtain ⟨T68, h68, X68, e68, W68, st68⟩ := stZ X53 hx hZ e53 Ar68 (j := (4 : Int32)) hin68 (g := (mkF m 21 #[.val (.ref a2_0), .val (.int (4 : Int32))] [(.int (bI (e4_ = (0 : Int32)))), (.int (4 : Int32)), (.ref a2_0)])) rfl rfl (hb hby d2_21)
  have V69 : Arv Z h68 a2_0 ka .boolean (5 : Int32) [(.int (bI (e0_ = (0 : Int32)))), (.int (bI (e1_ = (0 : Int32)))), (.int (bI (e2_ = (0 : Int32)))), (.int (bI (e3_ = (0 : Int32)))), (.int (nar .boolean (bI (e4_ = (0 : Int32)))))] (.int (0 : Int32)) := Arv.set Ar68 q68 S68 N68 H68 G68 (fits_nar_bool _) W68 4 rfl (Nat.le_of_ble_eq_true rfl)
  rw [bI_nar] at V69
  have pre70 : ∀ t, Steps p.tables e below (T68.setTop (mkF m 22 #[.val (.ref a2_0), .val (.int (4 : Int32))] [])) t → Steps p.tables e below (s₁.setTop (entryFrame m #[(.ref a2_0)] 2)) t := fun t k => pre65 t (by
    show Steps p.tables e below (T53.setTop (mkF m 21 #[.val (.ref a2_0), .val (.int (4 : Int32))] [(.int (bI (e4_ = (0 : Int32)))), (.int (4 : Int32)), (.ref a2_0)])) _
    refine st68 _ ?_
    exact k)
  have z71 := Nat.le_trans z56 (Keep.of_wr W68).1
  have k72 := k57.wr W68 (Or.inl (List.mem_of_getElem? (i := 0) rfl))
  have N73 := Fr.snoc X68 N58 g_a2_0
  obtain ⟨cl74, Ar74, q74, S74, N74, H74, G74⟩ := id V69
  have hin74 : ¬ ((4 : Int32) < 0 ∨ cl74.slots.size ≤ ((4 : Int32)).toNatClampNeg) := inb_of S74 ⟨by decide, by decide⟩
  have hat74 : cl74.slots[((4 : Int32)).toNatClampNeg]? = some (.int (bI (e4_ = (0 : Int32)))) := Has.at H74 hin74 rfl
  by_cases hc75 : e4_ = (0 : Int32)
  · obtain ⟨fs, hr, hrun, hended, hW, hsame⟩ := X68.leave (v := some (.int (1 : Int32))) (fun h => by rw [Bd.returns] at h; cases h)
    refine ⟨_, _, pre70 _ ?_, hrun, hended, _, _, rfl, ?_, ⟨_, rfl⟩, hW, hsame.mono (by decide) (by decide)⟩
    · show Steps p.tables e below (T68.setTop (mkF m 22 #[.val (.ref a2_0), .val (.int (4 : Int32))] [])) _
      refine XS.aloadN X68.here hx rfl (hb hby d2_22) rfl rfl ?_
      refine XS.iloadN X68.here hx rfl (hb hby d2_23) rfl ?_
      show Steps p.tables e below (T68.setTop (mkF m 24 #[.val (.ref a2_0), .val (.int (4 : Int32))] [(.int (4 : Int32)), (.ref a2_0)])) _
      refine X68.baloadBooleans hx (j := (4 : Int32)) (v := (.int (bI (e4_ = (0 : Int32))))) (by rw [e68]; exact Ar74.1) (State.isArrayOf_alike hZ.alike Ar74.2.1) Ar74.2.2 hin74 hat74 (g := (mkF m 24 #[.val (.ref a2_0), .val (.int (4 : Int32))] [(.int (4 : Int32)), (.ref a2_0)])) rfl rfl (hb hby d2_24) _ ?_
      show Steps p.tables e below (T68.setTop (mkF m 25 #[.val (.ref a2_0), .val (.int (4 : Int32))] [(.int (bI (e4_ = (0 : Int32))))])) _
      refine XS.ifNo X68.here hx rfl (hb hby d2_25) rfl ((if0 _ _).trans (feq (bI_n hc75)).1) ?_
      show Steps p.tables e below (T68.setTop (mkF m 28 #[.val (.ref a2_0), .val (.int (4 : Int32))] [])) _
      refine XS.iconst X68.here hx rfl (hb hby d2_28) ?_
      show Steps p.tables e below (T68.setTop (mkF m 29 #[.val (.ref a2_0), .val (.int (4 : Int32))] [(.int (1 : Int32))])) _
      exact retN X68 hx (t := .boolean) Bd.returns (by simp) (hb hby d2_29) hr
    · show Q2_5 Z a2_0 ka e0_ e1_ e2_ e3_ e4_ h0 n0 _ T68.heap _
      rw [e68]
      exact ⟨(congrArg (fun z => some (Value.int z)) ((bI_t (Or.inr (Or.inr (Or.inr (Or.inr hc75))))) : (bI ((e0_ = (0 : Int32)) ∨ ((e1_ = (0 : Int32)) ∨ ((e2_ = (0 : Int32)) ∨ ((e3_ = (0 : Int32)) ∨ (e4_ = (0 : Int32))))))) = (1 : Int32)).symm), N73, k72, (by rw [show (if e0_ = (0 : Int32) then e1_ else (bI (e1_ = (0 : Int32)))) = (bI (e1_ = (0 : Int32))) from (if_neg hc15), show (if e0_ = (0 : Int32) then e2_ else (if e1_ = (0 : Int32) then e2_ else (bI (e2_ = (0 : Int32))))) = (bI (e2_ = (0 : Int32))) from ((if_neg hc15).trans (if_neg hc30)), show (if e0_ = (0 : Int32) then e3_ else (if e1_ = (0 : Int32) then e3_ else (if e2_ = (0 : Int32) then e3_ else (bI (e3_ = (0 : Int32)))))) = (bI (e3_ = (0 : Int32))) from ((if_neg hc15).trans ((if_neg hc30).trans (if_neg hc45))), show (if e0_ = (0 : Int32) then e4_ else (if e1_ = (0 : Int32) then e4_ else (if e2_ = (0 : Int32) then e4_ else (if e3_ = (0 : Int32) then e4_ else (bI (e4_ = (0 : Int32))))))) = (bI (e4_ = (0 : Int32))) from ((if_neg hc15).trans ((if_neg hc30).trans ((if_neg hc45).trans (if_neg hc60))))]; exact V69)⟩
  obtain ⟨cl76, Ar76, q76, S76, N76, H76, G76⟩ := id V69
  obtain ⟨fs, hr, hrun, hended, hW, hsame⟩ := X68.leave (v := some (.int (0 : Int32))) (fun h => by rw [Bd.returns] at h; cases h)
  refine ⟨_, _, pre70 _ ?_, hrun, hended, _, _, rfl, ?_, ⟨_, rfl⟩, hW, hsame.mono (by decide) (by decide)⟩
  · show Steps p.tables e below (T68.setTop (mkF m 22 #[.val (.ref a2_0), .val (.int (4 : Int32))] [])) _
    refine XS.aloadN X68.here hx rfl (hb hby d2_22) rfl rfl ?_
    refine XS.iloadN X68.here hx rfl (hb hby d2_23) rfl ?_
    show Steps p.tables e below (T68.setTop (mkF m 24 #[.val (.ref a2_0), .val (.int (4 : Int32))] [(.int (4 : Int32)), (.ref a2_0)])) _
    refine X68.baloadBooleans hx (j := (4 : Int32)) (v := (.int (bI (e4_ = (0 : Int32))))) (by rw [e68]; exact Ar74.1) (State.isArrayOf_alike hZ.alike Ar74.2.1) Ar74.2.2 hin74 hat74 (g := (mkF m 24 #[.val (.ref a2_0), .val (.int (4 : Int32))] [(.int (4 : Int32)), (.ref a2_0)])) rfl rfl (hb hby d2_24) _ ?_
    show Steps p.tables e below (T68.setTop (mkF m 25 #[.val (.ref a2_0), .val (.int (4 : Int32))] [(.int (bI (e4_ = (0 : Int32))))])) _
    refine XS.ifYes X68.here hx rfl (pc0 := 25) (pc' := 30) rfl (hb hby d2_25) rfl ((if0 _ _).trans (teq (bI_f hc75)).1) (by decide) (by decide) ?_
    show Steps p.tables e below (T68.setTop (mkF m 30 #[.val (.ref a2_0), .val (.int (4 : Int32))] [])) _
    refine XS.iinc X68.here hx rfl (hb hby d2_30) rfl (l' := #[.val (.ref a2_0), .val (.int (5 : Int32))]) rfl ?_
    show Steps p.tables e below (T68.setTop (mkF m 33 #[.val (.ref a2_0), .val (.int (5 : Int32))] [])) _
    refine XS.goto X68.here hx rfl (pc0 := 33) (pc' := 2) rfl (hb hby d2_33) (by decide) (by decide) ?_
    refine XS.iloadN X68.here hx rfl (hb hby d2_2) rfl ?_
    refine XS.aloadN X68.here hx rfl (hb hby d2_3) rfl rfl ?_
    show Steps p.tables e below (T68.setTop (mkF m 4 #[.val (.ref a2_0), .val (.int (5 : Int32))] [(.ref a2_0), (.int (5 : Int32))])) _
    refine X68.arraylength hx (by rw [e68]; exact Ar76.1) (State.isArrayOf_alike hZ.alike Ar76.2.1) (g := (mkF m 4 #[.val (.ref a2_0), .val (.int (5 : Int32))] [(.ref a2_0), (.int (5 : Int32))])) rfl rfl (hb hby d2_4) _ ?_
    rw [len_of S76 N76]
    show Steps p.tables e below (T68.setTop (mkF m 5 #[.val (.ref a2_0), .val (.int (5 : Int32))] [(.int (5 : Int32)), (.int (5 : Int32))])) _
    refine XS.icmpYes X68.here hx rfl (pc0 := 5) (pc' := 36) rfl (hb hby d2_5) rfl (flt (by decide : ¬ ((5 : Int32) < (5 : Int32)))).2.1 (by decide) (by decide) ?_
    show Steps p.tables e below (T68.setTop (mkF m 36 #[.val (.ref a2_0), .val (.int (5 : Int32))] [])) _
    refine XS.iconst X68.here hx rfl (hb hby d2_36) ?_
    show Steps p.tables e below (T68.setTop (mkF m 37 #[.val (.ref a2_0), .val (.int (5 : Int32))] [(.int (0 : Int32))])) _
    exact retN X68 hx (t := .boolean) Bd.returns (by simp) (hb hby d2_37) hr
  · show Q2_5 Z a2_0 ka e0_ e1_ e2_ e3_ e4_ h0 n0 _ T68.heap _
    rw [e68]
    exact ⟨(congrArg (fun z => some (Value.int z)) ((bI_f (fun z => z.elim hc15 (fun z => z.elim hc30 (fun z => z.elim hc45 (fun z => z.elim hc60 hc75))))) : (bI ((e0_ = (0 : Int32)) ∨ ((e1_ = (0 : Int32)) ∨ ((e2_ = (0 : Int32)) ∨ ((e3_ = (0 : Int32)) ∨ (e4_ = (0 : Int32))))))) = (0 : Int32)).symm), N73, k72, (by rw [show (if e0_ = (0 : Int32) then e1_ else (bI (e1_ = (0 : Int32)))) = (bI (e1_ = (0 : Int32))) from (if_neg hc15), show (if e0_ = (0 : Int32) then e2_ else (if e1_ = (0 : Int32) then e2_ else (bI (e2_ = (0 : Int32))))) = (bI (e2_ = (0 : Int32))) from ((if_neg hc15).trans (if_neg hc30)), show (if e0_ = (0 : Int32) then e3_ else (if e1_ = (0 : Int32) then e3_ else (if e2_ = (0 : Int32) then e3_ else (bI (e3_ = (0 : Int32)))))) = (bI (e3_ = (0 : Int32))) from ((if_neg hc15).trans ((if_neg hc30).trans (if_neg hc45))), show (if e0_ = (0 : Int32) then e4_ else (if e1_ = (0 : Int32) then e4_ else (if e2_ = (0 : Int32) then e4_ else (if e3_ = (0 : Int32) then e4_ else (bI (e4_ = (0 : Int32))))))) = (bI (e4_ = (0 : Int32))) from ((if_neg hc15).trans ((if_neg hc30).trans ((if_neg hc45).trans (if_neg hc60))))]; exact V69)⟩
def Q2_6 (Z : State) (a2_0 : Addr) (ka : ClassId) (e0_ : Int32) (e1_ : Int32) (e2_ : Int32) (e3_ : Int32) (e4_ : Int32) (e5_ : Int32) (h0 : Heap) (n0 : Nat) (v : Option Value) (h : Heap) (L : List Loc) : Prop := v = some (.int (bI ((e0_ = (0 : Int32)) ∨ ((e1_ = (0 : Int32)) ∨ ((e2_ = (0 : Int32)) ∨ ((e3_ = (0 : Int32)) ∨ ((e4_ = (0 : Int32)) ∨ (e5_ = (0 : Int32))))))))) ∧ Fr n0 L ∧ Keep h0 h [a2_0] ∧ Arv Z h a2_0 ka .boolean (6 : Int32) [(.int (bI (e0_ = (0 : Int32)))), (.int (if e0_ = (0 : Int32) then e1_ else (bI (e1_ = (0 : Int32))))), (.int (if e0_ = (0 : Int32) then e2_ else (if e1_ = (0 : Int32) then e2_ else (bI (e2_ = (0 : Int32)))))), (.int (if e0_ = (0 : Int32) then e3_ else (if e1_ = (0 : Int32) then e3_ else (if e2_ = (0 : Int32) then e3_ else (bI (e3_ = (0 : Int32))))))), (.int (if e0_ = (0 : Int32) then e4_ else (if e1_ = (0 : Int32) then e4_ else (if e2_ = (0 : Int32) then e4_ else (if e3_ = (0 : Int32) then e4_ else (bI (e4_ = (0 : Int32)))))))), (.int (if e0_ = (0 : Int32) then e5_ else (if e1_ = (0 : Int32) then e5_ else (if e2_ = (0 : Int32) then e5_ else (if e3_ = (0 : Int32) then e5_ else (if e4_ = (0 : Int32) then e5_ else (bI (e5_ = (0 : Int32)))))))))] (.int (0 : Int32))
set_option maxRecDepth 65536 in
set_option maxHeartbeats 40000000 in
theorem rm2_6 (l : Launch) (Z : State) (a0 : Array Value) (hw : ∀ d ∈ tables_1, d.before a0 Z = true) (ws : List Jvm.Cond) (a2_0 : Addr) (ka : ClassId) (e0_ : Int32) (e1_ : Int32) (e2_ : Int32) (e3_ : Int32) (e4_ : Int32) (e5_ : Int32) (h0 : Heap) (n0 : Nat) (Z0 : n0 ≤ h0.size) (VA : Arv Z h0 a2_0 ka .boolean (6 : Int32) [(.int e0_), (.int e1_), (.int e2_), (.int e3_), (.int e4_), (.int e5_)] (.int (0 : Int32))) (g_a2_0 : n0 ≤ a2_0) :
    MetFree l mn2 (head1 (Jvm.Cond.code mn2 prog_101_method_2_code 2 (some .boolean) :: ws) ({ frames := 0, cells := 0, slots := 0, locals := 0 } : Room)) (fun a U => a = #[(.ref a2_0)] ∧ Z.Warmed39 U.vm ∧ U.heap = h0) (fun _ _ _ _ _ => True) (fun _ U o U' => ∃ v L, o = .returned v ∧ Q2_6 Z a2_0 ka e0_ e1_ e2_ e3_ e4_ e5_ h0 n0 v U'.heap L ∧ FrameEnd U o U' L ({ frames := 0, cells := 0, slots := 0, locals := 0 } : Room).cells ({ frames := 0, cells := 0, slots := 0, locals := 0 } : Room).slots) := by
  refine MetFree.of_bodySF (plainFor_of_name pn_2) hisR ?_
  intro p e s m args below meth c s₁ Bd hml0 hP hK
  obtain ⟨rfl, hZ, hh⟩ := hP
  have hVV : ∀ (i : Nat) (d : Jvm.Cond), tables_1[i]? = some d → d.before a0 Z = true := fun i d h => hw d (List.mem_of_getElem? h)
  have hx := Bd.exec
  have hby := Bd.bytes
  have hml : c.maxLocals = 2 := hml0
  have hown : s.vm.findClass "com/example/regista/regista/Valuations" = some m.cls := findClass_of_methodNamed Bd.named
  have hnm := (name_of_methodNamed Bd.named Bd.method).1
  have X0 : Stand p l e ({ frames := 0, cells := 0, slots := 0, locals := 0 } : Room) s m #[(.ref a2_0)] below meth c s₁ [] 0 0 := Stand.of_body Bd
  have e0 : s₁.heap = h0 := by rw [← hh, Bd.state]; rfl
  have N0 := Fr.nil n0
  have pre0 : ∀ t, Steps p.tables e below (s₁.setTop (mkF m 0 #[.val (.ref a2_0), .unset] [])) t → Steps p.tables e below (s₁.setTop (entryFrame m #[(.ref a2_0)] 2)) t := fun t k => castTop (ef_2 m a2_0) k
  obtain ⟨cl1, Ar1, q1, S1, N1, H1, G1⟩ := id VA
  obtain ⟨cl2, Ar2, q2, S2, N2, H2, G2⟩ := id VA
  have hin2 : ¬ ((0 : Int32) < 0 ∨ cl2.slots.size ≤ ((0 : Int32)).toNatClampNeg) := inb_of S2 ⟨by decide, by decide⟩
  have hat2 : cl2.slots[((0 : Int32)).toNatClampNeg]? = some (.int e0_) := Has.at H2 hin2 rfl
  have pre4 : ∀ t, Steps p.tables e below (s₁.setTop (mkF m 13 #[.val (.ref a2_0), .val (.int (0 : Int32))] [(.int e0_), (.int (0 : Int32)), (.ref a2_0)])) t → Steps p.tables e below (s₁.setTop (entryFrame m #[(.ref a2_0)] 2)) t := fun t k => pre0 t (by
    show Steps p.tables e below (s₁.setTop (mkF m 0 #[.val (.ref a2_0), .unset] [])) _
    refine XS.iconst X0.here hx rfl (hb hby d2_0) ?_
    show Steps p.tables e below (s₁.setTop (mkF m 1 #[.val (.ref a2_0), .unset] [(.int (0 : Int32))])) _
    refine XS.istoreN X0.here hx rfl (hb hby d2_1) rfl (l' := #[.val (.ref a2_0), .val (.int (0 : Int32))]) rfl ?_
    show Steps p.tables e below (s₁.setTop (mkF m 2 #[.val (.ref a2_0), .val (.int (0 : Int32))] [])) _
    refine XS.iloadN X0.here hx rfl (hb hby d2_2) rfl ?_
    refine XS.aloadN X0.here hx rfl (hb hby d2_3) rfl rfl ?_
    show Steps p.tables e below (s₁.setTop (mkF m 4 #[.val (.ref a2_0), .val (.int (0 : Int32))] [(.ref a2_0), (.int (0 : Int32))])) _
    refine X0.arraylength hx (by rw [e0]; exact Ar1.1) (State.isArrayOf_alike hZ.alike Ar1.2.1) (g := (mkF m 4 #[.val (.ref a2_0), .val (.int (0 : Int32))] [(.ref a2_0), (.int (0 : Int32))])) rfl rfl (hb hby d2_4) _ ?_
    rw [len_of S1 N1]
    show Steps p.tables e below (s₁.setTop (mkF m 5 #[.val (.ref a2_0), .val (.int (0 : Int32))] [(.int (6 : Int32)), (.int (0 : Int32))])) _
    refine XS.icmpNo X0.here hx rfl (hb hby d2_5) rfl (tlt (by decide : (0 : Int32) < (6 : Int32))).2.1 ?_
    show Steps p.tables e below (s₁.setTop (mkF m 8 #[.val (.ref a2_0), .val (.int (0 : Int32))] [])) _
    refine XS.aloadN X0.here hx rfl (hb hby d2_8) rfl rfl ?_
    refine XS.iloadN X0.here hx rfl (hb hby d2_9) rfl ?_
    refine XS.aloadN X0.here hx rfl (hb hby d2_10) rfl rfl ?_
    refine XS.iloadN X0.here hx rfl (hb hby d2_11) rfl ?_
    show Steps p.tables e below (s₁.setTop (mkF m 12 #[.val (.ref a2_0), .val (.int (0 : Int32))] [(.int (0 : Int32)), (.ref a2_0), (.int (0 : Int32)), (.ref a2_0)])) _
    refine X0.baloadBooleans hx (j := (0 : Int32)) (v := (.int e0_)) (by rw [e0]; exact Ar2.1) (State.isArrayOf_alike hZ.alike Ar2.2.1) Ar2.2.2 hin2 hat2 (g := (mkF m 12 #[.val (.ref a2_0), .val (.int (0 : Int32))] [(.int (0 : Int32)), (.ref a2_0), (.int (0 : Int32)), (.ref a2_0)])) rfl rfl (hb hby d2_12) _ ?_
    exact k)
  have pre5 : ∀ t, Steps p.tables e below (s₁.setTop (mkF m 21 #[.val (.ref a2_0), .val (.int (0 : Int32))] [(.int (bI (e0_ = (0 : Int32)))), (.int (0 : Int32)), (.ref a2_0)])) t → Steps p.tables e below (s₁.setTop (entryFrame m #[(.ref a2_0)] 2)) t := fun t k => pre4 t (by
    by_cases hc3 : e0_ = (0 : Int32)
    · show Steps p.tables e below (s₁.setTop (mkF m 13 #[.val (.ref a2_0), .val (.int (0 : Int32))] [(.int e0_), (.int (0 : Int32)), (.ref a2_0)])) _
      refine XS.ifNo X0.here hx rfl (hb hby d2_13) rfl ((if0 _ _).trans (teq hc3).2) ?_
      show Steps p.tables e below (s₁.setTop (mkF m 16 #[.val (.ref a2_0), .val (.int (0 : Int32))] [(.int (0 : Int32)), (.ref a2_0)])) _
      refine XS.iconst X0.here hx rfl (hb hby d2_16) ?_
      show Steps p.tables e below (s₁.setTop (mkF m 17 #[.val (.ref a2_0), .val (.int (0 : Int32))] [(.int (1 : Int32)), (.int (0 : Int32)), (.ref a2_0)])) _
      refine XS.goto X0.here hx rfl (pc0 := 17) (pc' := 21) rfl (hb hby d2_17) (by decide) (by decide) ?_
      have q6 : (bI (e0_ = (0 : Int32))) = (1 : Int32) := (bI_t hc3)
      exact castTop (g := (mkF m 21 #[.val (.ref a2_0), .val (.int (0 : Int32))] [(.int (1 : Int32)), (.int (0 : Int32)), (.ref a2_0)])) (g' := (mkF m 21 #[.val (.ref a2_0), .val (.int (0 : Int32))] [(.int (bI (e0_ = (0 : Int32)))), (.int (0 : Int32)), (.ref a2_0)])) (by simp only [q6]) k
    · show Steps p.tables e below (s₁.setTop (mkF m 13 #[.val (.ref a2_0), .val (.int (0 : Int32))] [(.int e0_), (.int (0 : Int32)), (.ref a2_0)])) _
      refine XS.ifYes X0.here hx rfl (pc0 := 13) (pc' := 20) rfl (hb hby d2_13) rfl ((if0 _ _).trans (feq hc3).2) (by decide) (by decide) ?_
      show Steps p.tables e below (s₁.setTop (mkF m 20 #[.val (.ref a2_0), .val (.int (0 : Int32))] [(.int (0 : Int32)), (.ref a2_0)])) _
      refine XS.iconst X0.here hx rfl (hb hby d2_20) ?_
      have q7 : (bI (e0_ = (0 : Int32))) = (0 : Int32) := (bI_f hc3)
      exact castTop (g := (mkF m 21 #[.val (.ref a2_0), .val (.int (0 : Int32))] [(.int (0 : Int32)), (.int (0 : Int32)), (.ref a2_0)])) (g' := (mkF m 21 #[.val (.ref a2_0), .val (.int (0 : Int32))] [(.int (bI (e0_ = (0 : Int32)))), (.int (0 : Int32)), (.ref a2_0)])) (by simp only [q7]) k)
  obtain ⟨cl8, Ar8, q8, S8, N8, H8, G8⟩ := id VA
  have hin8 : ¬ ((0 : Int32) < 0 ∨ cl8.slots.size ≤ ((0 : Int32)).toNatClampNeg) := inb_of S8 ⟨by decide, by decide⟩
  obtain ⟨T8, h8, X8, e8, W8, st8⟩ := stZ X0 hx hZ e0 Ar8 (j := (0 : Int32)) hin8 (g := (mkF m 21 #[.val (.ref a2_0), .val (.int (0 : Int32))] [(.int (bI (e0_ = (0 : Int32)))), (.int (0 : Int32)), (.ref a2_0)])) rfl rfl (hb hby d2_21)
  have V9 : Arv Z h8 a2_0 ka .boolean (6 : Int32) [(.int (nar .boolean (bI (e0_ = (0 : Int32))))), (.int e1_), (.int e2_), (.int e3_), (.int e4_), (.int e5_)] (.int (0 : Int32)) := Arv.set Ar8 q8 S8 N8 H8 G8 (fits_nar_bool _) W8 0 rfl (Nat.le_of_ble_eq_true rfl)
  rw [bI_nar] at V9
  have pre10 : ∀ t, Steps p.tables e below (T8.setTop (mkF m 22 #[.val (.ref a2_0), .val (.int (0 : Int32))] [])) t → Steps p.tables e below (s₁.setTop (entryFrame m #[(.ref a2_0)] 2)) t := fun t k => pre5 t (by
    show Steps p.tables e below (s₁.setTop (mkF m 21 #[.val (.ref a2_0), .val (.int (0 : Int32))] [(.int (bI (e0_ = (0 : Int32)))), (.int (0 : Int32)), (.ref a2_0)])) _
    refine st8 _ ?_
    exact k)
  have z11 := Nat.le_trans Z0 (Keep.of_wr W8).1
  have k12 := (Keep.refl h0 [a2_0]).wr W8 (Or.inl (List.mem_of_getElem? (i := 0) rfl))
  have N13 := Fr.snoc X8 N0 g_a2_0
  obtain ⟨cl14, Ar14, q14, S14, N14, H14, G14⟩ := id V9
  have hin14 : ¬ ((0 : Int32) < 0 ∨ cl14.slots.size ≤ ((0 : Int32)).toNatClampNeg) := inb_of S14 ⟨by decide, by decide⟩
  have hat14 : cl14.slots[((0 : Int32)).toNatClampNeg]? = some (.int (bI (e0_ = (0 : Int32)))) := Has.at H14 hin14 rfl
  by_cases hc15 : e0_ = (0 : Int32)
  · obtain ⟨fs, hr, hrun, hended, hW, hsame⟩ := X8.leave (v := some (.int (1 : Int32))) (fun h => by rw [Bd.returns] at h; cases h)
    refine ⟨_, _, pre10 _ ?_, hrun, hended, _, _, rfl, ?_, ⟨_, rfl⟩, hW, hsame.mono (by decide) (by decide)⟩
    · show Steps p.tables e below (T8.setTop (mkF m 22 #[.val (.ref a2_0), .val (.int (0 : Int32))] [])) _
      refine XS.aloadN X8.here hx rfl (hb hby d2_22) rfl rfl ?_
      refine XS.iloadN X8.here hx rfl (hb hby d2_23) rfl ?_
      show Steps p.tables e below (T8.setTop (mkF m 24 #[.val (.ref a2_0), .val (.int (0 : Int32))] [(.int (0 : Int32)), (.ref a2_0)])) _
      refine X8.baloadBooleans hx (j := (0 : Int32)) (v := (.int (bI (e0_ = (0 : Int32))))) (by rw [e8]; exact Ar14.1) (State.isArrayOf_alike hZ.alike Ar14.2.1) Ar14.2.2 hin14 hat14 (g := (mkF m 24 #[.val (.ref a2_0), .val (.int (0 : Int32))] [(.int (0 : Int32)), (.ref a2_0)])) rfl rfl (hb hby d2_24) _ ?_
      show Steps p.tables e below (T8.setTop (mkF m 25 #[.val (.ref a2_0), .val (.int (0 : Int32))] [(.int (bI (e0_ = (0 : Int32))))])) _
      refine XS.ifNo X8.here hx rfl (hb hby d2_25) rfl ((if0 _ _).trans (feq (bI_n hc15)).1) ?_
      show Steps p.tables e below (T8.setTop (mkF m 28 #[.val (.ref a2_0), .val (.int (0 : Int32))] [])) _
      refine XS.iconst X8.here hx rfl (hb hby d2_28) ?_
      show Steps p.tables e below (T8.setTop (mkF m 29 #[.val (.ref a2_0), .val (.int (0 : Int32))] [(.int (1 : Int32))])) _
      exact retN X8 hx (t := .boolean) Bd.returns (by simp) (hb hby d2_29) hr
    · show Q2_6 Z a2_0 ka e0_ e1_ e2_ e3_ e4_ e5_ h0 n0 _ T8.heap _
      rw [e8]
      exact ⟨(congrArg (fun z => some (Value.int z)) ((bI_t (Or.inl hc15)) : (bI ((e0_ = (0 : Int32)) ∨ ((e1_ = (0 : Int32)) ∨ ((e2_ = (0 : Int32)) ∨ ((e3_ = (0 : Int32)) ∨ ((e4_ = (0 : Int32)) ∨ (e5_ = (0 : Int32)))))))) = (1 : Int32)).symm), N13, k12, (by rw [show (if e0_ = (0 : Int32) then e1_ else (bI (e1_ = (0 : Int32)))) = e1_ from (if_pos hc15), show (if e0_ = (0 : Int32) then e2_ else (if e1_ = (0 : Int32) then e2_ else (bI (e2_ = (0 : Int32))))) = e2_ from (if_pos hc15), show (if e0_ = (0 : Int32) then e3_ else (if e1_ = (0 : Int32) then e3_ else (if e2_ = (0 : Int32) then e3_ else (bI (e3_ = (0 : Int32)))))) = e3_ from (if_pos hc15), show (if e0_ = (0 : Int32) then e4_ else (if e1_ = (0 : Int32) then e4_ else (if e2_ = (0 : Int32) then e4_ else (if e3_ = (0 : Int32) then e4_ else (bI (e4_ = (0 : Int32))))))) = e4_ from (if_pos hc15), show (if e0_ = (0 : Int32) then e5_ else (if e1_ = (0 : Int32) then e5_ else (if e2_ = (0 : Int32) then e5_ else (if e3_ = (0 : Int32) then e5_ else (if e4_ = (0 : Int32) then e5_ else (bI (e5_ = (0 : Int32)))))))) = e5_ from (if_pos hc15)]; exact V9)⟩
  obtain ⟨cl16, Ar16, q16, S16, N16, H16, G16⟩ := id V9
  obtain ⟨cl17, Ar17, q17, S17, N17, H17, G17⟩ := id V9
  have hin17 : ¬ ((1 : Int32) < 0 ∨ cl17.slots.size ≤ ((1 : Int32)).toNatClampNeg) := inb_of S17 ⟨by decide, by decide⟩
  have hat17 : cl17.slots[((1 : Int32)).toNatClampNeg]? = some (.int e1_) := Has.at H17 hin17 rfl
  have pre19 : ∀ t, Steps p.tables e below (T8.setTop (mkF m 13 #[.val (.ref a2_0), .val (.int (1 : Int32))] [(.int e1_), (.int (1 : Int32)), (.ref a2_0)])) t → Steps p.tables e below (s₁.setTop (entryFrame m #[(.ref a2_0)] 2)) t := fun t k => pre10 t (by
    show Steps p.tables e below (T8.setTop (mkF m 22 #[.val (.ref a2_0), .val (.int (0 : Int32))] [])) _
    refine XS.aloadN X8.here hx rfl (hb hby d2_22) rfl rfl ?_
    refine XS.iloadN X8.here hx rfl (hb hby d2_23) rfl ?_
    show Steps p.tables e below (T8.setTop (mkF m 24 #[.val (.ref a2_0), .val (.int (0 : Int32))] [(.int (0 : Int32)), (.ref a2_0)])) _
    refine X8.baloadBooleans hx (j := (0 : Int32)) (v := (.int (bI (e0_ = (0 : Int32))))) (by rw [e8]; exact Ar14.1) (State.isArrayOf_alike hZ.alike Ar14.2.1) Ar14.2.2 hin14 hat14 (g := (mkF m 24 #[.val (.ref a2_0), .val (.int (0 : Int32))] [(.int (0 : Int32)), (.ref a2_0)])) rfl rfl (hb hby d2_24) _ ?_
    show Steps p.tables e below (T8.setTop (mkF m 25 #[.val (.ref a2_0), .val (.int (0 : Int32))] [(.int (bI (e0_ = (0 : Int32))))])) _
    refine XS.ifYes X8.here hx rfl (pc0 := 25) (pc' := 30) rfl (hb hby d2_25) rfl ((if0 _ _).trans (teq (bI_f hc15)).1) (by decide) (by decide) ?_
    show Steps p.tables e below (T8.setTop (mkF m 30 #[.val (.ref a2_0), .val (.int (0 : Int32))] [])) _
    refine XS.iinc X8.here hx rfl (hb hby d2_30) rfl (l' := #[.val (.ref a2_0), .val (.int (1 : Int32))]) rfl ?_
    show Steps p.tables e below (T8.setTop (mkF m 33 #[.val (.ref a2_0), .val (.int (1 : Int32))] [])) _
    refine XS.goto X8.here hx rfl (pc0 := 33) (pc' := 2) rfl (hb hby d2_33) (by decide) (by decide) ?_
    refine XS.iloadN X8.here hx rfl (hb hby d2_2) rfl ?_
    refine XS.aloadN X8.here hx rfl (hb hby d2_3) rfl rfl ?_
    show Steps p.tables e below (T8.setTop (mkF m 4 #[.val (.ref a2_0), .val (.int (1 : Int32))] [(.ref a2_0), (.int (1 : Int32))])) _
    refine X8.arraylength hx (by rw [e8]; exact Ar16.1) (State.isArrayOf_alike hZ.alike Ar16.2.1) (g := (mkF m 4 #[.val (.ref a2_0), .val (.int (1 : Int32))] [(.ref a2_0), (.int (1 : Int32))])) rfl rfl (hb hby d2_4) _ ?_
    rw [len_of S16 N16]
    show Steps p.tables e below (T8.setTop (mkF m 5 #[.val (.ref a2_0), .val (.int (1 : Int32))] [(.int (6 : Int32)), (.int (1 : Int32))])) _
    refine XS.icmpNo X8.here hx rfl (hb hby d2_5) rfl (tlt (by decide : (1 : Int32) < (6 : Int32))).2.1 ?_
    show Steps p.tables e below (T8.setTop (mkF m 8 #[.val (.ref a2_0), .val (.int (1 : Int32))] [])) _
    refine XS.aloadN X8.here hx rfl (hb hby d2_8) rfl rfl ?_
    refine XS.iloadN X8.here hx rfl (hb hby d2_9) rfl ?_
    refine XS.aloadN X8.here hx rfl (hb hby d2_10) rfl rfl ?_
    refine XS.iloadN X8.here hx rfl (hb hby d2_11) rfl ?_
    show Steps p.tables e below (T8.setTop (mkF m 12 #[.val (.ref a2_0), .val (.int (1 : Int32))] [(.int (1 : Int32)), (.ref a2_0), (.int (1 : Int32)), (.ref a2_0)])) _
    refine X8.baloadBooleans hx (j := (1 : Int32)) (v := (.int e1_)) (by rw [e8]; exact Ar17.1) (State.isArrayOf_alike hZ.alike Ar17.2.1) Ar17.2.2 hin17 hat17 (g := (mkF m 12 #[.val (.ref a2_0), .val (.int (1 : Int32))] [(.int (1 : Int32)), (.ref a2_0), (.int (1 : Int32)), (.ref a2_0)])) rfl rfl (hb hby d2_12) _ ?_
    exact k)
  have pre20 : ∀ t, Steps p.tables e below (T8.setTop (mkF m 21 #[.val (.ref a2_0), .val (.int (1 : Int32))] [(.int (bI (e1_ = (0 : Int32)))), (.int (1 : Int32)), (.ref a2_0)])) t → Steps p.tables e below (s₁.setTop (entryFrame m #[(.ref a2_0)] 2)) t := fun t k => pre19 t (by
    by_cases hc18 : e1_ = (0 : Int32)
    · show Steps p.tables e below (T8.setTop (mkF m 13 #[.val (.ref a2_0), .val (.int (1 : Int32))] [(.int e1_), (.int (1 : Int32)), (.ref a2_0)])) _
      refine XS.ifNo X8.here hx rfl (hb hby d2_13) rfl ((if0 _ _).trans (teq hc18).2) ?_
      show Steps p.tables e below (T8.setTop (mkF m 16 #[.val (.ref a2_0), .val (.int (1 : Int32))] [(.int (1 : Int32)), (.ref a2_0)])) _
      refine XS.iconst X8.here hx rfl (hb hby d2_16) ?_
      show Steps p.tables e below (T8.setTop (mkF m 17 #[.val (.ref a2_0), .val (.int (1 : Int32))] [(.int (1 : Int32)), (.int (1 : Int32)), (.ref a2_0)])) _
      refine XS.goto X8.here hx rfl (pc0 := 17) (pc' := 21) rfl (hb hby d2_17) (by decide) (by decide) ?_
      have q21 : (bI (e1_ = (0 : Int32))) = (1 : Int32) := (bI_t hc18)
      exact castTop (g := (mkF m 21 #[.val (.ref a2_0), .val (.int (1 : Int32))] [(.int (1 : Int32)), (.int (1 : Int32)), (.ref a2_0)])) (g' := (mkF m 21 #[.val (.ref a2_0), .val (.int (1 : Int32))] [(.int (bI (e1_ = (0 : Int32)))), (.int (1 : Int32)), (.ref a2_0)])) (by simp only [q21]) k
    · show Steps p.tables e below (T8.setTop (mkF m 13 #[.val (.ref a2_0), .val (.int (1 : Int32))] [(.int e1_), (.int (1 : Int32)), (.ref a2_0)])) _
      refine XS.ifYes X8.here hx rfl (pc0 := 13) (pc' := 20) rfl (hb hby d2_13) rfl ((if0 _ _).trans (feq hc18).2) (by decide) (by decide) ?_
      show Steps p.tables e below (T8.setTop (mkF m 20 #[.val (.ref a2_0), .val (.int (1 : Int32))] [(.int (1 : Int32)), (.ref a2_0)])) _
      refine XS.iconst X8.here hx rfl (hb hby d2_20) ?_
      have q22 : (bI (e1_ = (0 : Int32))) = (0 : Int32) := (bI_f hc18)
      exact castTop (g := (mkF m 21 #[.val (.ref a2_0), .val (.int (1 : Int32))] [(.int (0 : Int32)), (.int (1 : Int32)), (.ref a2_0)])) (g' := (mkF m 21 #[.val (.ref a2_0), .val (.int (1 : Int32))] [(.int (bI (e1_ = (0 : Int32)))), (.int (1 : Int32)), (.ref a2_0)])) (by simp only [q22]) k)
  obtain ⟨cl23, Ar23, q23, S23, N23, H23, G23⟩ := id V9
  have hin23 : ¬ ((1 : Int32) < 0 ∨ cl23.slots.size ≤ ((1 : Int32)).toNatClampNeg) := inb_of S23 ⟨by decide, by decide⟩
  obtain ⟨T23, h23, X23, e23, W23, st23⟩ := stZ X8 hx hZ e8 Ar23 (j := (1 : Int32)) hin23 (g := (mkF m 21 #[.val (.ref a2_0), .val (.int (1 : Int32))] [(.int (bI (e1_ = (0 : Int32)))), (.int (1 : Int32)), (.ref a2_0)])) rfl rfl (hb hby d2_21)
  have V24 : Arv Z h23 a2_0 ka .boolean (6 : Int32) [(.int (bI (e0_ = (0 : Int32)))), (.int (nar .boolean (bI (e1_ = (0 : Int32))))), (.int e2_), (.int e3_), (.int e4_), (.int e5_)] (.int (0 : Int32)) := Arv.set Ar23 q23 S23 N23 H23 G23 (fits_nar_bool _) W23 1 rfl (Nat.le_of_ble_eq_true rfl)
  rw [bI_nar] at V24
  have pre25 : ∀ t, Steps p.tables e below (T23.setTop (mkF m 22 #[.val (.ref a2_0), .val (.int (1 : Int32))] [])) t → Steps p.tables e below (s₁.setTop (entryFrame m #[(.ref a2_0)] 2)) t := fun t k => pre20 t (by
    show Steps p.tables e below (T8.setTop (mkF m 21 #[.val (.ref a2_0), .val (.int (1 : Int32))] [(.int (bI (e1_ = (0 : Int32)))), (.int (1 : Int32)), (.ref a2_0)])) _
    refine st23 _ ?_
    exact k)
  have z26 := Nat.le_trans z11 (Keep.of_wr W23).1
  have k27 := k12.wr W23 (Or.inl (List.mem_of_getElem? (i := 0) rfl))
  have N28 := Fr.snoc X23 N13 g_a2_0
  obtain ⟨cl29, Ar29, q29, S29, N29, H29, G29⟩ := id V24
  have hin29 : ¬ ((1 : Int32) < 0 ∨ cl29.slots.size ≤ ((1 : Int32)).toNatClampNeg) := inb_of S29 ⟨by decide, by decide⟩
  have hat29 : cl29.slots[((1 : Int32)).toNatClampNeg]? = some (.int (bI (e1_ = (0 : Int32)))) := Has.at H29 hin29 rfl
  by_cases hc30 : e1_ = (0 : Int32)
  · obtain ⟨fs, hr, hrun, hended, hW, hsame⟩ := X23.leave (v := some (.int (1 : Int32))) (fun h => by rw [Bd.returns] at h; cases h)
    refine ⟨_, _, pre25 _ ?_, hrun, hended, _, _, rfl, ?_, ⟨_, rfl⟩, hW, hsame.mono (by decide) (by decide)⟩
    · show Steps p.tables e below (T23.setTop (mkF m 22 #[.val (.ref a2_0), .val (.int (1 : Int32))] [])) _
      refine XS.aloadN X23.here hx rfl (hb hby d2_22) rfl rfl ?_
      refine XS.iloadN X23.here hx rfl (hb hby d2_23) rfl ?_
      show Steps p.tables e below (T23.setTop (mkF m 24 #[.val (.ref a2_0), .val (.int (1 : Int32))] [(.int (1 : Int32)), (.ref a2_0)])) _
      refine X23.baloadBooleans hx (j := (1 : Int32)) (v := (.int (bI (e1_ = (0 : Int32))))) (by rw [e23]; exact Ar29.1) (State.isArrayOf_alike hZ.alike Ar29.2.1) Ar29.2.2 hin29 hat29 (g := (mkF m 24 #[.val (.ref a2_0), .val (.int (1 : Int32))] [(.int (1 : Int32)), (.ref a2_0)])) rfl rfl (hb hby d2_24) _ ?_
      show Steps p.tables e below (T23.setTop (mkF m 25 #[.val (.ref a2_0), .val (.int (1 : Int32))] [(.int (bI (e1_ = (0 : Int32))))])) _
      refine XS.ifNo X23.here hx rfl (hb hby d2_25) rfl ((if0 _ _).trans (feq (bI_n hc30)).1) ?_
      show Steps p.tables e below (T23.setTop (mkF m 28 #[.val (.ref a2_0), .val (.int (1 : Int32))] [])) _
      refine XS.iconst X23.here hx rfl (hb hby d2_28) ?_
      show Steps p.tables e below (T23.setTop (mkF m 29 #[.val (.ref a2_0), .val (.int (1 : Int32))] [(.int (1 : Int32))])) _
      exact retN X23 hx (t := .boolean) Bd.returns (by simp) (hb hby d2_29) hr
    · show Q2_6 Z a2_0 ka e0_ e1_ e2_ e3_ e4_ e5_ h0 n0 _ T23.heap _
      rw [e23]
      exact ⟨(congrArg (fun z => some (Value.int z)) ((bI_t (Or.inr (Or.inl hc30))) : (bI ((e0_ = (0 : Int32)) ∨ ((e1_ = (0 : Int32)) ∨ ((e2_ = (0 : Int32)) ∨ ((e3_ = (0 : Int32)) ∨ ((e4_ = (0 : Int32)) ∨ (e5_ = (0 : Int32)))))))) = (1 : Int32)).symm), N28, k27, (by rw [show (if e0_ = (0 : Int32) then e1_ else (bI (e1_ = (0 : Int32)))) = (bI (e1_ = (0 : Int32))) from (if_neg hc15), show (if e0_ = (0 : Int32) then e2_ else (if e1_ = (0 : Int32) then e2_ else (bI (e2_ = (0 : Int32))))) = e2_ from ((if_neg hc15).trans (if_pos hc30)), show (if e0_ = (0 : Int32) then e3_ else (if e1_ = (0 : Int32) then e3_ else (if e2_ = (0 : Int32) then e3_ else (bI (e3_ = (0 : Int32)))))) = e3_ from ((if_neg hc15).trans (if_pos hc30)), show (if e0_ = (0 : Int32) then e4_ else (if e1_ = (0 : Int32) then e4_ else (if e2_ = (0 : Int32) then e4_ else (if e3_ = (0 : Int32) then e4_ else (bI (e4_ = (0 : Int32))))))) = e4_ from ((if_neg hc15).trans (if_pos hc30)), show (if e0_ = (0 : Int32) then e5_ else (if e1_ = (0 : Int32) then e5_ else (if e2_ = (0 : Int32) then e5_ else (if e3_ = (0 : Int32) then e5_ else (if e4_ = (0 : Int32) then e5_ else (bI (e5_ = (0 : Int32)))))))) = e5_ from ((if_neg hc15).trans (if_pos hc30))]; exact V24)⟩
  obtain ⟨cl31, Ar31, q31, S31, N31, H31, G31⟩ := id V24
  obtain ⟨cl32, Ar32, q32, S32, N32, H32, G32⟩ := id V24
  have hin32 : ¬ ((2 : Int32) < 0 ∨ cl32.slots.size ≤ ((2 : Int32)).toNatClampNeg) := inb_of S32 ⟨by decide, by decide⟩
  have hat32 : cl32.slots[((2 : Int32)).toNatClampNeg]? = some (.int e2_) := Has.at H32 hin32 rfl
  have pre34 : ∀ t, Steps p.tables e below (T23.setTop (mkF m 13 #[.val (.ref a2_0), .val (.int (2 : Int32))] [(.int e2_), (.int (2 : Int32)), (.ref a2_0)])) t → Steps p.tables e below (s₁.setTop (entryFrame m #[(.ref a2_0)] 2)) t := fun t k => pre25 t (by
    show Steps p.tables e below (T23.setTop (mkF m 22 #[.val (.ref a2_0), .val (.int (1 : Int32))] [])) _
    refine XS.aloadN X23.here hx rfl (hb hby d2_22) rfl rfl ?_
    refine XS.iloadN X23.here hx rfl (hb hby d2_23) rfl ?_
    show Steps p.tables e below (T23.setTop (mkF m 24 #[.val (.ref a2_0), .val (.int (1 : Int32))] [(.int (1 : Int32)), (.ref a2_0)])) _
    refine X23.baloadBooleans hx (j := (1 : Int32)) (v := (.int (bI (e1_ = (0 : Int32))))) (by rw [e23]; exact Ar29.1) (State.isArrayOf_alike hZ.alike Ar29.2.1) Ar29.2.2 hin29 hat29 (g := (mkF m 24 #[.val (.ref a2_0), .val (.int (1 : Int32))] [(.int (1 : Int32)), (.ref a2_0)])) rfl rfl (hb hby d2_24) _ ?_
    show Steps p.tables e below (T23.setTop (mkF m 25 #[.val (.ref a2_0), .val (.int (1 : Int32))] [(.int (bI (e1_ = (0 : Int32))))])) _
    refine XS.ifYes X23.here hx rfl (pc0 := 25) (pc' := 30) rfl (hb hby d2_25) rfl ((if0 _ _).trans (teq (bI_f hc30)).1) (by decide) (by decide) ?_
    show Steps p.tables e below (T23.setTop (mkF m 30 #[.val (.ref a2_0), .val (.int (1 : Int32))] [])) _
    refine XS.iinc X23.here hx rfl (hb hby d2_30) rfl (l' := #[.val (.ref a2_0), .val (.int (2 : Int32))]) rfl ?_
    show Steps p.tables e below (T23.setTop (mkF m 33 #[.val (.ref a2_0), .val (.int (2 : Int32))] [])) _
    refine XS.goto X23.here hx rfl (pc0 := 33) (pc' := 2) rfl (hb hby d2_33) (by decide) (by decide) ?_
    refine XS.iloadN X23.here hx rfl (hb hby d2_2) rfl ?_
    refine XS.aloadN X23.here hx rfl (hb hby d2_3) rfl rfl ?_
    show Steps p.tables e below (T23.setTop (mkF m 4 #[.val (.ref a2_0), .val (.int (2 : Int32))] [(.ref a2_0), (.int (2 : Int32))])) _
    refine X23.arraylength hx (by rw [e23]; exact Ar31.1) (State.isArrayOf_alike hZ.alike Ar31.2.1) (g := (mkF m 4 #[.val (.ref a2_0), .val (.int (2 : Int32))] [(.ref a2_0), (.int (2 : Int32))])) rfl rfl (hb hby d2_4) _ ?_
    rw [len_of S31 N31]
    show Steps p.tables e below (T23.setTop (mkF m 5 #[.val (.ref a2_0), .val (.int (2 : Int32))] [(.int (6 : Int32)), (.int (2 : Int32))])) _
    refine XS.icmpNo X23.here hx rfl (hb hby d2_5) rfl (tlt (by decide : (2 : Int32) < (6 : Int32))).2.1 ?_
    show Steps p.tables e below (T23.setTop (mkF m 8 #[.val (.ref a2_0), .val (.int (2 : Int32))] [])) _
    refine XS.aloadN X23.here hx rfl (hb hby d2_8) rfl rfl ?_
    refine XS.iloadN X23.here hx rfl (hb hby d2_9) rfl ?_
    refine XS.aloadN X23.here hx rfl (hb hby d2_10) rfl rfl ?_
    refine XS.iloadN X23.here hx rfl (hb hby d2_11) rfl ?_
    show Steps p.tables e below (T23.setTop (mkF m 12 #[.val (.ref a2_0), .val (.int (2 : Int32))] [(.int (2 : Int32)), (.ref a2_0), (.int (2 : Int32)), (.ref a2_0)])) _
    refine X23.baloadBooleans hx (j := (2 : Int32)) (v := (.int e2_)) (by rw [e23]; exact Ar32.1) (State.isArrayOf_alike hZ.alike Ar32.2.1) Ar32.2.2 hin32 hat32 (g := (mkF m 12 #[.val (.ref a2_0), .val (.int (2 : Int32))] [(.int (2 : Int32)), (.ref a2_0), (.int (2 : Int32)), (.ref a2_0)])) rfl rfl (hb hby d2_12) _ ?_
    exact k)
  have pre35 : ∀ t, Steps p.tables e below (T23.setTop (mkF m 21 #[.val (.ref a2_0), .val (.int (2 : Int32))] [(.int (bI (e2_ = (0 : Int32)))), (.int (2 : Int32)), (.ref a2_0)])) t → Steps p.tables e below (s₁.setTop (entryFrame m #[(.ref a2_0)] 2)) t := fun t k => pre34 t (by
    by_cases hc33 : e2_ = (0 : Int32)
    · show Steps p.tables e below (T23.setTop (mkF m 13 #[.val (.ref a2_0), .val (.int (2 : Int32))] [(.int e2_), (.int (2 : Int32)), (.ref a2_0)])) _
      refine XS.ifNo X23.here hx rfl (hb hby d2_13) rfl ((if0 _ _).trans (teq hc33).2) ?_
      show Steps p.tables e below (T23.setTop (mkF m 16 #[.val (.ref a2_0), .val (.int (2 : Int32))] [(.int (2 : Int32)), (.ref a2_0)])) _
      refine XS.iconst X23.here hx rfl (hb hby d2_16) ?_
      show Steps p.tables e below (T23.setTop (mkF m 17 #[.val (.ref a2_0), .val (.int (2 : Int32))] [(.int (1 : Int32)), (.int (2 : Int32)), (.ref a2_0)])) _
      refine XS.goto X23.here hx rfl (pc0 := 17) (pc' := 21) rfl (hb hby d2_17) (by decide) (by decide) ?_
      have q36 : (bI (e2_ = (0 : Int32))) = (1 : Int32) := (bI_t hc33)
      exact castTop (g := (mkF m 21 #[.val (.ref a2_0), .val (.int (2 : Int32))] [(.int (1 : Int32)), (.int (2 : Int32)), (.ref a2_0)])) (g' := (mkF m 21 #[.val (.ref a2_0), .val (.int (2 : Int32))] [(.int (bI (e2_ = (0 : Int32)))), (.int (2 : Int32)), (.ref a2_0)])) (by simp only [q36]) k
    · show Steps p.tables e below (T23.setTop (mkF m 13 #[.val (.ref a2_0), .val (.int (2 : Int32))] [(.int e2_), (.int (2 : Int32)), (.ref a2_0)])) _
      refine XS.ifYes X23.here hx rfl (pc0 := 13) (pc' := 20) rfl (hb hby d2_13) rfl ((if0 _ _).trans (feq hc33).2) (by decide) (by decide) ?_
      show Steps p.tables e below (T23.setTop (mkF m 20 #[.val (.ref a2_0), .val (.int (2 : Int32))] [(.int (2 : Int32)), (.ref a2_0)])) _
      refine XS.iconst X23.here hx rfl (hb hby d2_20) ?_
      have q37 : (bI (e2_ = (0 : Int32))) = (0 : Int32) := (bI_f hc33)
      exact castTop (g := (mkF m 21 #[.val (.ref a2_0), .val (.int (2 : Int32))] [(.int (0 : Int32)), (.int (2 : Int32)), (.ref a2_0)])) (g' := (mkF m 21 #[.val (.ref a2_0), .val (.int (2 : Int32))] [(.int (bI (e2_ = (0 : Int32)))), (.int (2 : Int32)), (.ref a2_0)])) (by simp only [q37]) k)
  obtain ⟨cl38, Ar38, q38, S38, N38, H38, G38⟩ := id V24
  have hin38 : ¬ ((2 : Int32) < 0 ∨ cl38.slots.size ≤ ((2 : Int32)).toNatClampNeg) := inb_of S38 ⟨by decide, by decide⟩
  obtain ⟨T38, h38, X38, e38, W38, st38⟩ := stZ X23 hx hZ e23 Ar38 (j := (2 : Int32)) hin38 (g := (mkF m 21 #[.val (.ref a2_0), .val (.int (2 : Int32))] [(.int (bI (e2_ = (0 : Int32)))), (.int (2 : Int32)), (.ref a2_0)])) rfl rfl (hb hby d2_21)
  have V39 : Arv Z h38 a2_0 ka .boolean (6 : Int32) [(.int (bI (e0_ = (0 : Int32)))), (.int (bI (e1_ = (0 : Int32)))), (.int (nar .boolean (bI (e2_ = (0 : Int32))))), (.int e3_), (.int e4_), (.int e5_)] (.int (0 : Int32)) := Arv.set Ar38 q38 S38 N38 H38 G38 (fits_nar_bool _) W38 2 rfl (Nat.le_of_ble_eq_true rfl)
  rw [bI_nar] at V39
  have pre40 : ∀ t, Steps p.tables e below (T38.setTop (mkF m 22 #[.val (.ref a2_0), .val (.int (2 : Int32))] [])) t → Steps p.tables e below (s₁.setTop (entryFrame m #[(.ref a2_0)] 2)) t := fun t k => pre35 t (by
    show Steps p.tables e below (T23.setTop (mkF m 21 #[.val (.ref a2_0), .val (.int (2 : Int32))] [(.int (bI (e2_ = (0 : Int32)))), (.int (2 : Int32)), (.ref a2_0)])) _
    refine st38 _ ?_
    exact k)
  have z41 := Nat.le_trans z26 (Keep.of_wr W38).1
  have k42 := k27.wr W38 (Or.inl (List.mem_of_getElem? (i := 0) rfl))
  have N43 := Fr.snoc X38 N28 g_a2_0
  obtain ⟨cl44, Ar44, q44, S44, N44, H44, G44⟩ := id V39
  have hin44 : ¬ ((2 : Int32) < 0 ∨ cl44.slots.size ≤ ((2 : Int32)).toNatClampNeg) := inb_of S44 ⟨by decide, by decide⟩
  have hat44 : cl44.slots[((2 : Int32)).toNatClampNeg]? = some (.int (bI (e2_ = (0 : Int32)))) := Has.at H44 hin44 rfl
  by_cases hc45 : e2_ = (0 : Int32)
  · obtain ⟨fs, hr, hrun, hended, hW, hsame⟩ := X38.leave (v := some (.int (1 : Int32))) (fun h => by rw [Bd.returns] at h; cases h)
    refine ⟨_, _, pre40 _ ?_, hrun, hended, _, _, rfl, ?_, ⟨_, rfl⟩, hW, hsame.mono (by decide) (by decide)⟩
    · show Steps p.tables e below (T38.setTop (mkF m 22 #[.val (.ref a2_0), .val (.int (2 : Int32))] [])) _
      refine XS.aloadN X38.here hx rfl (hb hby d2_22) rfl rfl ?_
      refine XS.iloadN X38.here hx rfl (hb hby d2_23) rfl ?_
      show Steps p.tables e below (T38.setTop (mkF m 24 #[.val (.ref a2_0), .val (.int (2 : Int32))] [(.int (2 : Int32)), (.ref a2_0)])) _
      refine X38.baloadBooleans hx (j := (2 : Int32)) (v := (.int (bI (e2_ = (0 : Int32))))) (by rw [e38]; exact Ar44.1) (State.isArrayOf_alike hZ.alike Ar44.2.1) Ar44.2.2 hin44 hat44 (g := (mkF m 24 #[.val (.ref a2_0), .val (.int (2 : Int32))] [(.int (2 : Int32)), (.ref a2_0)])) rfl rfl (hb hby d2_24) _ ?_
      show Steps p.tables e below (T38.setTop (mkF m 25 #[.val (.ref a2_0), .val (.int (2 : Int32))] [(.int (bI (e2_ = (0 : Int32))))])) _
      refine XS.ifNo X38.here hx rfl (hb hby d2_25) rfl ((if0 _ _).trans (feq (bI_n hc45)).1) ?_
      show Steps p.tables e below (T38.setTop (mkF m 28 #[.val (.ref a2_0), .val (.int (2 : Int32))] [])) _
      refine XS.iconst X38.here hx rfl (hb hby d2_28) ?_
      show Steps p.tables e below (T38.setTop (mkF m 29 #[.val (.ref a2_0), .val (.int (2 : Int32))] [(.int (1 : Int32))])) _
      exact retN X38 hx (t := .boolean) Bd.returns (by simp) (hb hby d2_29) hr
    · show Q2_6 Z a2_0 ka e0_ e1_ e2_ e3_ e4_ e5_ h0 n0 _ T38.heap _
      rw [e38]
      exact ⟨(congrArg (fun z => some (Value.int z)) ((bI_t (Or.inr (Or.inr (Or.inl hc45)))) : (bI ((e0_ = (0 : Int32)) ∨ ((e1_ = (0 : Int32)) ∨ ((e2_ = (0 : Int32)) ∨ ((e3_ = (0 : Int32)) ∨ ((e4_ = (0 : Int32)) ∨ (e5_ = (0 : Int32)))))))) = (1 : Int32)).symm), N43, k42, (by rw [show (if e0_ = (0 : Int32) then e1_ else (bI (e1_ = (0 : Int32)))) = (bI (e1_ = (0 : Int32))) from (if_neg hc15), show (if e0_ = (0 : Int32) then e2_ else (if e1_ = (0 : Int32) then e2_ else (bI (e2_ = (0 : Int32))))) = (bI (e2_ = (0 : Int32))) from ((if_neg hc15).trans (if_neg hc30)), show (if e0_ = (0 : Int32) then e3_ else (if e1_ = (0 : Int32) then e3_ else (if e2_ = (0 : Int32) then e3_ else (bI (e3_ = (0 : Int32)))))) = e3_ from ((if_neg hc15).trans ((if_neg hc30).trans (if_pos hc45))), show (if e0_ = (0 : Int32) then e4_ else (if e1_ = (0 : Int32) then e4_ else (if e2_ = (0 : Int32) then e4_ else (if e3_ = (0 : Int32) then e4_ else (bI (e4_ = (0 : Int32))))))) = e4_ from ((if_neg hc15).trans ((if_neg hc30).trans (if_pos hc45))), show (if e0_ = (0 : Int32) then e5_ else (if e1_ = (0 : Int32) then e5_ else (if e2_ = (0 : Int32) then e5_ else (if e3_ = (0 : Int32) then e5_ else (if e4_ = (0 : Int32) then e5_ else (bI (e5_ = (0 : Int32)))))))) = e5_ from ((if_neg hc15).trans ((if_neg hc30).trans (if_pos hc45)))]; exact V39)⟩
  obtain ⟨cl46, Ar46, q46, S46, N46, H46, G46⟩ := id V39
  obtain ⟨cl47, Ar47, q47, S47, N47, H47, G47⟩ := id V39
  have hin47 : ¬ ((3 : Int32) < 0 ∨ cl47.slots.size ≤ ((3 : Int32)).toNatClampNeg) := inb_of S47 ⟨by decide, by decide⟩
  have hat47 : cl47.slots[((3 : Int32)).toNatClampNeg]? = some (.int e3_) := Has.at H47 hin47 rfl
  have pre49 : ∀ t, Steps p.tables e below (T38.setTop (mkF m 13 #[.val (.ref a2_0), .val (.int (3 : Int32))] [(.int e3_), (.int (3 : Int32)), (.ref a2_0)])) t → Steps p.tables e below (s₁.setTop (entryFrame m #[(.ref a2_0)] 2)) t := fun t k => pre40 t (by
    show Steps p.tables e below (T38.setTop (mkF m 22 #[.val (.ref a2_0), .val (.int (2 : Int32))] [])) _
    refine XS.aloadN X38.here hx rfl (hb hby d2_22) rfl rfl ?_
    refine XS.iloadN X38.here hx rfl (hb hby d2_23) rfl ?_
    show Steps p.tables e below (T38.setTop (mkF m 24 #[.val (.ref a2_0), .val (.int (2 : Int32))] [(.int (2 : Int32)), (.ref a2_0)])) _
    refine X38.baloadBooleans hx (j := (2 : Int32)) (v := (.int (bI (e2_ = (0 : Int32))))) (by rw [e38]; exact Ar44.1) (State.isArrayOf_alike hZ.alike Ar44.2.1) Ar44.2.2 hin44 hat44 (g := (mkF m 24 #[.val (.ref a2_0), .val (.int (2 : Int32))] [(.int (2 : Int32)), (.ref a2_0)])) rfl rfl (hb hby d2_24) _ ?_
    show Steps p.tables e below (T38.setTop (mkF m 25 #[.val (.ref a2_0), .val (.int (2 : Int32))] [(.int (bI (e2_ = (0 : Int32))))])) _
    refine XS.ifYes X38.here hx rfl (pc0 := 25) (pc' := 30) rfl (hb hby d2_25) rfl ((if0 _ _).trans (teq (bI_f hc45)).1) (by decide) (by decide) ?_
    show Steps p.tables e below (T38.setTop (mkF m 30 #[.val (.ref a2_0), .val (.int (2 : Int32))] [])) _
    refine XS.iinc X38.here hx rfl (hb hby d2_30) rfl (l' := #[.val (.ref a2_0), .val (.int (3 : Int32))]) rfl ?_
    show Steps p.tables e below (T38.setTop (mkF m 33 #[.val (.ref a2_0), .val (.int (3 : Int32))] [])) _
    refine XS.goto X38.here hx rfl (pc0 := 33) (pc' := 2) rfl (hb hby d2_33) (by decide) (by decide) ?_
    refine XS.iloadN X38.here hx rfl (hb hby d2_2) rfl ?_
    refine XS.aloadN X38.here hx rfl (hb hby d2_3) rfl rfl ?_
    show Steps p.tables e below (T38.setTop (mkF m 4 #[.val (.ref a2_0), .val (.int (3 : Int32))] [(.ref a2_0), (.int (3 : Int32))])) _
    refine X38.arraylength hx (by rw [e38]; exact Ar46.1) (State.isArrayOf_alike hZ.alike Ar46.2.1) (g := (mkF m 4 #[.val (.ref a2_0), .val (.int (3 : Int32))] [(.ref a2_0), (.int (3 : Int32))])) rfl rfl (hb hby d2_4) _ ?_
    rw [len_of S46 N46]
    show Steps p.tables e below (T38.setTop (mkF m 5 #[.val (.ref a2_0), .val (.int (3 : Int32))] [(.int (6 : Int32)), (.int (3 : Int32))])) _
    refine XS.icmpNo X38.here hx rfl (hb hby d2_5) rfl (tlt (by decide : (3 : Int32) < (6 : Int32))).2.1 ?_
    show Steps p.tables e below (T38.setTop (mkF m 8 #[.val (.ref a2_0), .val (.int (3 : Int32))] [])) _
    refine XS.aloadN X38.here hx rfl (hb hby d2_8) rfl rfl ?_
    refine XS.iloadN X38.here hx rfl (hb hby d2_9) rfl ?_
    refine XS.aloadN X38.here hx rfl (hb hby d2_10) rfl rfl ?_
    refine XS.iloadN X38.here hx rfl (hb hby d2_11) rfl ?_
    show Steps p.tables e below (T38.setTop (mkF m 12 #[.val (.ref a2_0), .val (.int (3 : Int32))] [(.int (3 : Int32)), (.ref a2_0), (.int (3 : Int32)), (.ref a2_0)])) _
    refine X38.baloadBooleans hx (j := (3 : Int32)) (v := (.int e3_)) (by rw [e38]; exact Ar47.1) (State.isArrayOf_alike hZ.alike Ar47.2.1) Ar47.2.2 hin47 hat47 (g := (mkF m 12 #[.val (.ref a2_0), .val (.int (3 : Int32))] [(.int (3 : Int32)), (.ref a2_0), (.int (3 : Int32)), (.ref a2_0)])) rfl rfl (hb hby d2_12) _ ?_
    exact k)
  have pre50 : ∀ t, Steps p.tables e below (T38.setTop (mkF m 21 #[.val (.ref a2_0), .val (.int (3 : Int32))] [(.int (bI (e3_ = (0 : Int32)))), (.int (3 : Int32)), (.ref a2_0)])) t → Steps p.tables e below (s₁.setTop (entryFrame m #[(.ref a2_0)] 2)) t := fun t k => pre49 t (by
    by_cases hc48 : e3_ = (0 : Int32)
    · show Steps p.tables e below (T38.setTop (mkF m 13 #[.val (.ref a2_0), .val (.int (3 : Int32))] [(.int e3_), (.int (3 : Int32)), (.ref a2_0)])) _
      refine XS.ifNo X38.here hx rfl (hb hby d2_13) rfl ((if0 _ _).trans (teq hc48).2) ?_
      show Steps p.tables e below (T38.setTop (mkF m 16 #[.val (.ref a2_0), .val (.int (3 : Int32))] [(.int (3 : Int32)), (.ref a2_0)])) _
      refine XS.iconst X38.here hx rfl (hb hby d2_16) ?_
      show Steps p.tables e below (T38.setTop (mkF m 17 #[.val (.ref a2_0), .val (.int (3 : Int32))] [(.int (1 : Int32)), (.int (3 : Int32)), (.ref a2_0)])) _
      refine XS.goto X38.here hx rfl (pc0 := 17) (pc' := 21) rfl (hb hby d2_17) (by decide) (by decide) ?_
      have q51 : (bI (e3_ = (0 : Int32))) = (1 : Int32) := (bI_t hc48)
      exact castTop (g := (mkF m 21 #[.val (.ref a2_0), .val (.int (3 : Int32))] [(.int (1 : Int32)), (.int (3 : Int32)), (.ref a2_0)])) (g' := (mkF m 21 #[.val (.ref a2_0), .val (.int (3 : Int32))] [(.int (bI (e3_ = (0 : Int32)))), (.int (3 : Int32)), (.ref a2_0)])) (by simp only [q51]) k
    · show Steps p.tables e below (T38.setTop (mkF m 13 #[.val (.ref a2_0), .val (.int (3 : Int32))] [(.int e3_), (.int (3 : Int32)), (.ref a2_0)])) _
      refine XS.ifYes X38.here hx rfl (pc0 := 13) (pc' := 20) rfl (hb hby d2_13) rfl ((if0 _ _).trans (feq hc48).2) (by decide) (by decide) ?_
      show Steps p.tables e below (T38.setTop (mkF m 20 #[.val (.ref a2_0), .val (.int (3 : Int32))] [(.int (3 : Int32)), (.ref a2_0)])) _
      refine XS.iconst X38.here hx rfl (hb hby d2_20) ?_
      have q52 : (bI (e3_ = (0 : Int32))) = (0 : Int32) := (bI_f hc48)
      exact castTop (g := (mkF m 21 #[.val (.ref a2_0), .val (.int (3 : Int32))] [(.int (0 : Int32)), (.int (3 : Int32)), (.ref a2_0)])) (g' := (mkF m 21 #[.val (.ref a2_0), .val (.int (3 : Int32))] [(.int (bI (e3_ = (0 : Int32)))), (.int (3 : Int32)), (.ref a2_0)])) (by simp only [q52]) k)
  obtain ⟨cl53, Ar53, q53, S53, N53, H53, G53⟩ := id V39
  have hin53 : ¬ ((3 : Int32) < 0 ∨ cl53.slots.size ≤ ((3 : Int32)).toNatClampNeg) := inb_of S53 ⟨by decide, by decide⟩
  obtain ⟨T53, h53, X53, e53, W53, st53⟩ := stZ X38 hx hZ e38 Ar53 (j := (3 : Int32)) hin53 (g := (mkF m 21 #[.val (.ref a2_0), .val (.int (3 : Int32))] [(.int (bI (e3_ = (0 : Int32)))), (.int (3 : Int32)), (.ref a2_0)])) rfl rfl (hb hby d2_21)
  have V54 : Arv Z h53 a2_0 ka .boolean (6 : Int32) [(.int (bI (e0_ = (0 : Int32)))), (.int (bI (e1_ = (0 : Int32)))), (.int (bI (e2_ = (0 : Int32)))), (.int (nar .boolean (bI (e3_ = (0 : Int32))))), (.int e4_), (.int e5_)] (.int (0 : Int32)) := Arv.set Ar53 q53 S53 N53 H53 G53 (fits_nar_bool _) W53 3 rfl (Nat.le_of_ble_eq_true rfl)
  rw [bI_nar] at V54
  have pre55 : ∀ t, Steps p.tables e below (T53.setTop (mkF m 22 #[.val (.ref a2_0), .val (.int (3 : Int32))] [])) t → Steps p.tables e below (s₁.setTop (entryFrame m #[(.ref a2_0)] 2)) t := fun t k => pre50 t (by
    show Steps p.tables e below (T38.setTop (mkF m 21 #[.val (.ref a2_0), .val (.int (3 : Int32))] [(.int (bI (e3_ = (0 : Int32)))), (.int (3 : Int32)), (.ref a2_0)])) _
    refine st53 _ ?_
    exact k)
  have z56 := Nat.le_trans z41 (Keep.of_wr W53).1
  have k57 := k42.wr W53 (Or.inl (List.mem_of_getElem? (i := 0) rfl))
  have N58 := Fr.snoc X53 N43 g_a2_0
  obtain ⟨cl59, Ar59, q59, S59, N59, H59, G59⟩ := id V54
  have hin59 : ¬ ((3 : Int32) < 0 ∨ cl59.slots.size ≤ ((3 : Int32)).toNatClampNeg) := inb_of S59 ⟨by decide, by decide⟩
  have hat59 : cl59.slots[((3 : Int32)).toNatClampNeg]? = some (.int (bI (e3_ = (0 : Int32)))) := Has.at H59 hin59 rfl
  by_cases hc60 : e3_ = (0 : Int32)
  · obtain ⟨fs, hr, hrun, hended, hW, hsame⟩ := X53.leave (v := some (.int (1 : Int32))) (fun h => by rw [Bd.returns] at h; cases h)
    refine ⟨_, _, pre55 _ ?_, hrun, hended, _, _, rfl, ?_, ⟨_, rfl⟩, hW, hsame.mono (by decide) (by decide)⟩
    · show Steps p.tables e below (T53.setTop (mkF m 22 #[.val (.ref a2_0), .val (.int (3 : Int32))] [])) _
      refine XS.aloadN X53.here hx rfl (hb hby d2_22) rfl rfl ?_
      refine XS.iloadN X53.here hx rfl (hb hby d2_23) rfl ?_
      show Steps p.tables e below (T53.setTop (mkF m 24 #[.val (.ref a2_0), .val (.int (3 : Int32))] [(.int (3 : Int32)), (.ref a2_0)])) _
      refine X53.baloadBooleans hx (j := (3 : Int32)) (v := (.int (bI (e3_ = (0 : Int32))))) (by rw [e53]; exact Ar59.1) (State.isArrayOf_alike hZ.alike Ar59.2.1) Ar59.2.2 hin59 hat59 (g := (mkF m 24 #[.val (.ref a2_0), .val (.int (3 : Int32))] [(.int (3 : Int32)), (.ref a2_0)])) rfl rfl (hb hby d2_24) _ ?_
      show Steps p.tables e below (T53.setTop (mkF m 25 #[.val (.ref a2_0), .val (.int (3 : Int32))] [(.int (bI (e3_ = (0 : Int32))))])) _
      refine XS.ifNo X53.here hx rfl (hb hby d2_25) rfl ((if0 _ _).trans (feq (bI_n hc60)).1) ?_
      show Steps p.tables e below (T53.setTop (mkF m 28 #[.val (.ref a2_0), .val (.int (3 : Int32))] [])) _
      refine XS.iconst X53.here hx rfl (hb hby d2_28) ?_
      show Steps p.tables e below (T53.setTop (mkF m 29 #[.val (.ref a2_0), .val (.int (3 : Int32))] [(.int (1 : Int32))])) _
      exact retN X53 hx (t := .boolean) Bd.returns (by simp) (hb hby d2_29) hr
    · show Q2_6 Z a2_0 ka e0_ e1_ e2_ e3_ e4_ e5_ h0 n0 _ T53.heap _
      rw [e53]
      exact ⟨(congrArg (fun z => some (Value.int z)) ((bI_t (Or.inr (Or.inr (Or.inr (Or.inl hc60))))) : (bI ((e0_ = (0 : Int32)) ∨ ((e1_ = (0 : Int32)) ∨ ((e2_ = (0 : Int32)) ∨ ((e3_ = (0 : Int32)) ∨ ((e4_ = (0 : Int32)) ∨ (e5_ = (0 : Int32)))))))) = (1 : Int32)).symm), N58, k57, (by rw [show (if e0_ = (0 : Int32) then e1_ else (bI (e1_ = (0 : Int32)))) = (bI (e1_ = (0 : Int32))) from (if_neg hc15), show (if e0_ = (0 : Int32) then e2_ else (if e1_ = (0 : Int32) then e2_ else (bI (e2_ = (0 : Int32))))) = (bI (e2_ = (0 : Int32))) from ((if_neg hc15).trans (if_neg hc30)), show (if e0_ = (0 : Int32) then e3_ else (if e1_ = (0 : Int32) then e3_ else (if e2_ = (0 : Int32) then e3_ else (bI (e3_ = (0 : Int32)))))) = (bI (e3_ = (0 : Int32))) from ((if_neg hc15).trans ((if_neg hc30).trans (if_neg hc45))), show (if e0_ = (0 : Int32) then e4_ else (if e1_ = (0 : Int32) then e4_ else (if e2_ = (0 : Int32) then e4_ else (if e3_ = (0 : Int32) then e4_ else (bI (e4_ = (0 : Int32))))))) = e4_ from ((if_neg hc15).trans ((if_neg hc30).trans ((if_neg hc45).trans (if_pos hc60)))), show (if e0_ = (0 : Int32) then e5_ else (if e1_ = (0 : Int32) then e5_ else (if e2_ = (0 : Int32) then e5_ else (if e3_ = (0 : Int32) then e5_ else (if e4_ = (0 : Int32) then e5_ else (bI (e5_ = (0 : Int32)))))))) = e5_ from ((if_neg hc15).trans ((if_neg hc30).trans ((if_neg hc45).trans (if_pos hc60))))]; exact V54)⟩
  obtain ⟨cl61, Ar61, q61, S61, N61, H61, G61⟩ := id V54
  obtain ⟨cl62, Ar62, q62, S62, N62, H62, G62⟩ := id V54
  have hin62 : ¬ ((4 : Int32) < 0 ∨ cl62.slots.size ≤ ((4 : Int32)).toNatClampNeg) := inb_of S62 ⟨by decide, by decide⟩
  have hat62 : cl62.slots[((4 : Int32)).toNatClampNeg]? = some (.int e4_) := Has.at H62 hin62 rfl
  have pre64 : ∀ t, Steps p.tables e below (T53.setTop (mkF m 13 #[.val (.ref a2_0), .val (.int (4 : Int32))] [(.int e4_), (.int (4 : Int32)), (.ref a2_0)])) t → Steps p.tables e below (s₁.setTop (entryFrame m #[(.ref a2_0)] 2)) t := fun t k => pre55 t (by
    show Steps p.tables e below (T53.setTop (mkF m 22 #[.val (.ref a2_0), .val (.int (3 : Int32))] [])) _
    refine XS.aloadN X53.here hx rfl (hb hby d2_22) rfl rfl ?_
    refine XS.iloadN X53.here hx rfl (hb hby d2_23) rfl ?_
    show Steps p.tables e below (T53.setTop (mkF m 24 #[.val (.ref a2_0), .val (.int (3 : Int32))] [(.int (3 : Int32)), (.ref a2_0)])) _
    refine X53.baloadBooleans hx (j := (3 : Int32)) (v := (.int (bI (e3_ = (0 : Int32))))) (by rw [e53]; exact Ar59.1) (State.isArrayOf_alike hZ.alike Ar59.2.1) Ar59.2.2 hin59 hat59 (g := (mkF m 24 #[.val (.ref a2_0), .val (.int (3 : Int32))] [(.int (3 : Int32)), (.ref a2_0)])) rfl rfl (hb hby d2_24) _ ?_
    show Steps p.tables e below (T53.setTop (mkF m 25 #[.val (.ref a2_0), .val (.int (3 : Int32))] [(.int (bI (e3_ = (0 : Int32))))])) _
    refine XS.ifYes X53.here hx rfl (pc0 := 25) (pc' := 30) rfl (hb hby d2_25) rfl ((if0 _ _).trans (teq (bI_f hc60)).1) (by decide) (by decide) ?_
    show Steps p.tables e below (T53.setTop (mkF m 30 #[.val (.ref a2_0), .val (.int (3 : Int32))] [])) _
    refine XS.iinc X53.here hx rfl (hb hby d2_30) rfl (l' := #[.val (.ref a2_0), .val (.int (4 : Int32))]) rfl ?_
    show Steps p.tables e below (T53.setTop (mkF m 33 #[.val (.ref a2_0), .val (.int (4 : Int32))] [])) _
    refine XS.goto X53.here hx rfl (pc0 := 33) (pc' := 2) rfl (hb hby d2_33) (by decide) (by decide) ?_
    refine XS.iloadN X53.here hx rfl (hb hby d2_2) rfl ?_
    refine XS.aloadN X53.here hx rfl (hb hby d2_3) rfl rfl ?_
    show Steps p.tables e below (T53.setTop (mkF m 4 #[.val (.ref a2_0), .val (.int (4 : Int32))] [(.ref a2_0), (.int (4 : Int32))])) _
    refine X53.arraylength hx (by rw [e53]; exact Ar61.1) (State.isArrayOf_alike hZ.alike Ar61.2.1) (g := (mkF m 4 #[.val (.ref a2_0), .val (.int (4 : Int32))] [(.ref a2_0), (.int (4 : Int32))])) rfl rfl (hb hby d2_4) _ ?_
    rw [len_of S61 N61]
    show Steps p.tables e below (T53.setTop (mkF m 5 #[.val (.ref a2_0), .val (.int (4 : Int32))] [(.int (6 : Int32)), (.int (4 : Int32))])) _
    refine XS.icmpNo X53.here hx rfl (hb hby d2_5) rfl (tlt (by decide : (4 : Int32) < (6 : Int32))).2.1 ?_
    show Steps p.tables e below (T53.setTop (mkF m 8 #[.val (.ref a2_0), .val (.int (4 : Int32))] [])) _
    refine XS.aloadN X53.here hx rfl (hb hby d2_8) rfl rfl ?_
    refine XS.iloadN X53.here hx rfl (hb hby d2_9) rfl ?_
    refine XS.aloadN X53.here hx rfl (hb hby d2_10) rfl rfl ?_
    refine XS.iloadN X53.here hx rfl (hb hby d2_11) rfl ?_
    show Steps p.tables e below (T53.setTop (mkF m 12 #[.val (.ref a2_0), .val (.int (4 : Int32))] [(.int (4 : Int32)), (.ref a2_0), (.int (4 : Int32)), (.ref a2_0)])) _
    refine X53.baloadBooleans hx (j := (4 : Int32)) (v := (.int e4_)) (by rw [e53]; exact Ar62.1) (State.isArrayOf_alike hZ.alike Ar62.2.1) Ar62.2.2 hin62 hat62 (g := (mkF m 12 #[.val (.ref a2_0), .val (.int (4 : Int32))] [(.int (4 : Int32)), (.ref a2_0), (.int (4 : Int32)), (.ref a2_0)])) rfl rfl (hb hby d2_12) _ ?_
    exact k)
  have pre65 : ∀ t, Steps p.tables e below (T53.setTop (mkF m 21 #[.val (.ref a2_0), .val (.int (4 : Int32))] [(.int (bI (e4_ = (0 : Int32)))), (.int (4 : Int32)), (.ref a2_0)])) t → Steps p.tables e below (s₁.setTop (entryFrame m #[(.ref a2_0)] 2)) t := fun t k => pre64 t (by
    by_cases hc63 : e4_ = (0 : Int32)
    · show Steps p.tables e below (T53.setTop (mkF m 13 #[.val (.ref a2_0), .val (.int (4 : Int32))] [(.int e4_), (.int (4 : Int32)), (.ref a2_0)])) _
      refine XS.ifNo X53.here hx rfl (hb hby d2_13) rfl ((if0 _ _).trans (teq hc63).2) ?_
      show Steps p.tables e below (T53.setTop (mkF m 16 #[.val (.ref a2_0), .val (.int (4 : Int32))] [(.int (4 : Int32)), (.ref a2_0)])) _
      refine XS.iconst X53.here hx rfl (hb hby d2_16) ?_
      show Steps p.tables e below (T53.setTop (mkF m 17 #[.val (.ref a2_0), .val (.int (4 : Int32))] [(.int (1 : Int32)), (.int (4 : Int32)), (.ref a2_0)])) _
      refine XS.goto X53.here hx rfl (pc0 := 17) (pc' := 21) rfl (hb hby d2_17) (by decide) (by decide) ?_
      have q66 : (bI (e4_ = (0 : Int32))) = (1 : Int32) := (bI_t hc63)
      exact castTop (g := (mkF m 21 #[.val (.ref a2_0), .val (.int (4 : Int32))] [(.int (1 : Int32)), (.int (4 : Int32)), (.ref a2_0)])) (g' := (mkF m 21 #[.val (.ref a2_0), .val (.int (4 : Int32))] [(.int (bI (e4_ = (0 : Int32)))), (.int (4 : Int32)), (.ref a2_0)])) (by simp only [q66]) k
    · show Steps p.tables e below (T53.setTop (mkF m 13 #[.val (.ref a2_0), .val (.int (4 : Int32))] [(.int e4_), (.int (4 : Int32)), (.ref a2_0)])) _
      refine XS.ifYes X53.here hx rfl (pc0 := 13) (pc' := 20) rfl (hb hby d2_13) rfl ((if0 _ _).trans (feq hc63).2) (by decide) (by decide) ?_
      show Steps p.tables e below (T53.setTop (mkF m 20 #[.val (.ref a2_0), .val (.int (4 : Int32))] [(.int (4 : Int32)), (.ref a2_0)])) _
      refine XS.iconst X53.here hx rfl (hb hby d2_20) ?_
      have q67 : (bI (e4_ = (0 : Int32))) = (0 : Int32) := (bI_f hc63)
      exact castTop (g := (mkF m 21 #[.val (.ref a2_0), .val (.int (4 : Int32))] [(.int (0 : Int32)), (.int (4 : Int32)), (.ref a2_0)])) (g' := (mkF m 21 #[.val (.ref a2_0), .val (.int (4 : Int32))] [(.int (bI (e4_ = (0 : Int32)))), (.int (4 : Int32)), (.ref a2_0)])) (by simp only [q67]) k)
  obtain ⟨cl68, Ar68, q68, S68, N68, H68, G68⟩ := id V54
  have hin68 : ¬ ((4 : Int32) < 0 ∨ cl68.slots.size ≤ ((4 : Int32)).toNatClampNeg) := inb_of S68 ⟨by decide, by decide⟩
  obtain ⟨T68, h68, X68, e68, W68, st68⟩ := stZ X53 hx hZ e53 Ar68 (j := (4 : Int32)) hin68 (g := (mkF m 21 #[.val (.ref a2_0), .val (.int (4 : Int32))] [(.int (bI (e4_ = (0 : Int32)))), (.int (4 : Int32)), (.ref a2_0)])) rfl rfl (hb hby d2_21)
  have V69 : Arv Z h68 a2_0 ka .boolean (6 : Int32) [(.int (bI (e0_ = (0 : Int32)))), (.int (bI (e1_ = (0 : Int32)))), (.int (bI (e2_ = (0 : Int32)))), (.int (bI (e3_ = (0 : Int32)))), (.int (nar .boolean (bI (e4_ = (0 : Int32))))), (.int e5_)] (.int (0 : Int32)) := Arv.set Ar68 q68 S68 N68 H68 G68 (fits_nar_bool _) W68 4 rfl (Nat.le_of_ble_eq_true rfl)
  rw [bI_nar] at V69
  have pre70 : ∀ t, Steps p.tables e below (T68.setTop (mkF m 22 #[.val (.ref a2_0), .val (.int (4 : Int32))] [])) t → Steps p.tables e below (s₁.setTop (entryFrame m #[(.ref a2_0)] 2)) t := fun t k => pre65 t (by
    show Steps p.tables e below (T53.setTop (mkF m 21 #[.val (.ref a2_0), .val (.int (4 : Int32))] [(.int (bI (e4_ = (0 : Int32)))), (.int (4 : Int32)), (.ref a2_0)])) _
    refine st68 _ ?_
    exact k)
  have z71 := Nat.le_trans z56 (Keep.of_wr W68).1
  have k72 := k57.wr W68 (Or.inl (List.mem_of_getElem? (i := 0) rfl))
  have N73 := Fr.snoc X68 N58 g_a2_0
  obtain ⟨cl74, Ar74, q74, S74, N74, H74, G74⟩ := id V69
  have hin74 : ¬ ((4 : Int32) < 0 ∨ cl74.slots.size ≤ ((4 : Int32)).toNatClampNeg) := inb_of S74 ⟨by decide, by decide⟩
  have hat74 : cl74.slots[((4 : Int32)).toNatClampNeg]? = some (.int (bI (e4_ = (0 : Int32)))) := Has.at H74 hin74 rfl
  by_cases hc75 : e4_ = (0 : Int32)
  · obtain ⟨fs, hr, hrun, hended, hW, hsame⟩ := X68.leave (v := some (.int (1 : Int32))) (fun h => by rw [Bd.returns] at h; cases h)
    refine ⟨_, _, pre70 _ ?_, hrun, hended, _, _, rfl, ?_, ⟨_, rfl⟩, hW, hsame.mono (by decide) (by decide)⟩
    · show Steps p.tables e below (T68.setTop (mkF m 22 #[.val (.ref a2_0), .val (.int (4 : Int32))] [])) _
      refine XS.aloadN X68.here hx rfl (hb hby d2_22) rfl rfl ?_
      refine XS.iloadN X68.here hx rfl (hb hby d2_23) rfl ?_
      show Steps p.tables e below (T68.setTop (mkF m 24 #[.val (.ref a2_0), .val (.int (4 : Int32))] [(.int (4 : Int32)), (.ref a2_0)])) _
      refine X68.baloadBooleans hx (j := (4 : Int32)) (v := (.int (bI (e4_ = (0 : Int32))))) (by rw [e68]; exact Ar74.1) (State.isArrayOf_alike hZ.alike Ar74.2.1) Ar74.2.2 hin74 hat74 (g := (mkF m 24 #[.val (.ref a2_0), .val (.int (4 : Int32))] [(.int (4 : Int32)), (.ref a2_0)])) rfl rfl (hb hby d2_24) _ ?_
      show Steps p.tables e below (T68.setTop (mkF m 25 #[.val (.ref a2_0), .val (.int (4 : Int32))] [(.int (bI (e4_ = (0 : Int32))))])) _
      refine XS.ifNo X68.here hx rfl (hb hby d2_25) rfl ((if0 _ _).trans (feq (bI_n hc75)).1) ?_
      show Steps p.tables e below (T68.setTop (mkF m 28 #[.val (.ref a2_0), .val (.int (4 : Int32))] [])) _
      refine XS.iconst X68.here hx rfl (hb hby d2_28) ?_
      show Steps p.tables e below (T68.setTop (mkF m 29 #[.val (.ref a2_0), .val (.int (4 : Int32))] [(.int (1 : Int32))])) _
      exact retN X68 hx (t := .boolean) Bd.returns (by simp) (hb hby d2_29) hr
    · show Q2_6 Z a2_0 ka e0_ e1_ e2_ e3_ e4_ e5_ h0 n0 _ T68.heap _
      rw [e68]
      exact ⟨(congrArg (fun z => some (Value.int z)) ((bI_t (Or.inr (Or.inr (Or.inr (Or.inr (Or.inl hc75)))))) : (bI ((e0_ = (0 : Int32)) ∨ ((e1_ = (0 : Int32)) ∨ ((e2_ = (0 : Int32)) ∨ ((e3_ = (0 : Int32)) ∨ ((e4_ = (0 : Int32)) ∨ (e5_ = (0 : Int32)))))))) = (1 : Int32)).symm), N73, k72, (by rw [show (if e0_ = (0 : Int32) then e1_ else (bI (e1_ = (0 : Int32)))) = (bI (e1_ = (0 : Int32))) from (if_neg hc15), show (if e0_ = (0 : Int32) then e2_ else (if e1_ = (0 : Int32) then e2_ else (bI (e2_ = (0 : Int32))))) = (bI (e2_ = (0 : Int32))) from ((if_neg hc15).trans (if_neg hc30)), show (if e0_ = (0 : Int32) then e3_ else (if e1_ = (0 : Int32) then e3_ else (if e2_ = (0 : Int32) then e3_ else (bI (e3_ = (0 : Int32)))))) = (bI (e3_ = (0 : Int32))) from ((if_neg hc15).trans ((if_neg hc30).trans (if_neg hc45))), show (if e0_ = (0 : Int32) then e4_ else (if e1_ = (0 : Int32) then e4_ else (if e2_ = (0 : Int32) then e4_ else (if e3_ = (0 : Int32) then e4_ else (bI (e4_ = (0 : Int32))))))) = (bI (e4_ = (0 : Int32))) from ((if_neg hc15).trans ((if_neg hc30).trans ((if_neg hc45).trans (if_neg hc60)))), show (if e0_ = (0 : Int32) then e5_ else (if e1_ = (0 : Int32) then e5_ else (if e2_ = (0 : Int32) then e5_ else (if e3_ = (0 : Int32) then e5_ else (if e4_ = (0 : Int32) then e5_ else (bI (e5_ = (0 : Int32)))))))) = e5_ from ((if_neg hc15).trans ((if_neg hc30).trans ((if_neg hc45).trans ((if_neg hc60).trans (if_pos hc75)))))]; exact V69)⟩
  obtain ⟨cl76, Ar76, q76, S76, N76, H76, G76⟩ := id V69
  obtain ⟨cl77, Ar77, q77, S77, N77, H77, G77⟩ := id V69
  have hin77 : ¬ ((5 : Int32) < 0 ∨ cl77.slots.size ≤ ((5 : Int32)).toNatClampNeg) := inb_of S77 ⟨by decide, by decide⟩
  have hat77 : cl77.slots[((5 : Int32)).toNatClampNeg]? = some (.int e5_) := Has.at H77 hin77 rfl
  have pre79 : ∀ t, Steps p.tables e below (T68.setTop (mkF m 13 #[.val (.ref a2_0), .val (.int (5 : Int32))] [(.int e5_), (.int (5 : Int32)), (.ref a2_0)])) t → Steps p.tables e below (s₁.setTop (entryFrame m #[(.ref a2_0)] 2)) t := fun t k => pre70 t (by
    show Steps p.tables e below (T68.setTop (mkF m 22 #[.val (.ref a2_0), .val (.int (4 : Int32))] [])) _
    refine XS.aloadN X68.here hx rfl (hb hby d2_22) rfl rfl ?_
    refine XS.iloadN X68.here hx rfl (hb hby d2_23) rfl ?_
    show Steps p.tables e below (T68.setTop (mkF m 24 #[.val (.ref a2_0), .val (.int (4 : Int32))] [(.int (4 : Int32)), (.ref a2_0)])) _
    refine X68.baloadBooleans hx (j := (4 : Int32)) (v := (.int (bI (e4_ = (0 : Int32))))) (by rw [e68]; exact Ar74.1) (State.isArrayOf_alike hZ.alike Ar74.2.1) Ar74.2.2 hin74 hat74 (g := (mkF m 24 #[.val (.ref a2_0), .val (.int (4 : Int32))] [(.int (4 : Int32)), (.ref a2_0)])) rfl rfl (hb hby d2_24) _ ?_
    show Steps p.tables e below (T68.setTop (mkF m 25 #[.val (.ref a2_0), .val (.int (4 : Int32))] [(.int (bI (e4_ = (0 : Int32))))])) _
    refine XS.ifYes X68.here hx rfl (pc0 := 25) (pc' := 30) rfl (hb hby d2_25) rfl ((if0 _ _).trans (teq (bI_f hc75)).1) (by decide) (by decide) ?_
    show Steps p.tables e below (T68.setTop (mkF m 30 #[.val (.ref a2_0), .val (.int (4 : Int32))] [])) _
    refine XS.iinc X68.here hx rfl (hb hby d2_30) rfl (l' := #[.val (.ref a2_0), .val (.int (5 : Int32))]) rfl ?_
    show Steps p.tables e below (T68.setTop (mkF m 33 #[.val (.ref a2_0), .val (.int (5 : Int32))] [])) _
    refine XS.goto X68.here hx rfl (pc0 := 33) (pc' := 2) rfl (hb hby d2_33) (by decide) (by decide) ?_
    refine XS.iloadN X68.here hx rfl (hb hby d2_2) rfl ?_
    refine XS.aloadN X68.here hx rfl (hb hby d2_3) rfl rfl ?_
    show Steps p.tables e below (T68.setTop (mkF m 4 #[.val (.ref a2_0), .val (.int (5 : Int32))] [(.ref a2_0), (.int (5 : Int32))])) _
    refine X68.arraylength hx (by rw [e68]; exact Ar76.1) (State.isArrayOf_alike hZ.alike Ar76.2.1) (g := (mkF m 4 #[.val (.ref a2_0), .val (.int (5 : Int32))] [(.ref a2_0), (.int (5 : Int32))])) rfl rfl (hb hby d2_4) _ ?_
    rw [len_of S76 N76]
    show Steps p.tables e below (T68.setTop (mkF m 5 #[.val (.ref a2_0), .val (.int (5 : Int32))] [(.int (6 : Int32)), (.int (5 : Int32))])) _
    refine XS.icmpNo X68.here hx rfl (hb hby d2_5) rfl (tlt (by decide : (5 : Int32) < (6 : Int32))).2.1 ?_
    show Steps p.tables e below (T68.setTop (mkF m 8 #[.val (.ref a2_0), .val (.int (5 : Int32))] [])) _
    refine XS.aloadN X68.here hx rfl (hb hby d2_8) rfl rfl ?_
    refine XS.iloadN X68.here hx rfl (hb hby d2_9) rfl ?_
    refine XS.aloadN X68.here hx rfl (hb hby d2_10) rfl rfl ?_
    refine XS.iloadN X68.here hx rfl (hb hby d2_11) rfl ?_
    show Steps p.tables e below (T68.setTop (mkF m 12 #[.val (.ref a2_0), .val (.int (5 : Int32))] [(.int (5 : Int32)), (.ref a2_0), (.int (5 : Int32)), (.ref a2_0)])) _
    refine X68.baloadBooleans hx (j := (5 : Int32)) (v := (.int e5_)) (by rw [e68]; exact Ar77.1) (State.isArrayOf_alike hZ.alike Ar77.2.1) Ar77.2.2 hin77 hat77 (g := (mkF m 12 #[.val (.ref a2_0), .val (.int (5 : Int32))] [(.int (5 : Int32)), (.ref a2_0), (.int (5 : Int32)), (.ref a2_0)])) rfl rfl (hb hby d2_12) _ ?_
    exact k)
  have pre80 : ∀ t, Steps p.tables e below (T68.setTop (mkF m 21 #[.val (.ref a2_0), .val (.int (5 : Int32))] [(.int (bI (e5_ = (0 : Int32)))), (.int (5 : Int32)), (.ref a2_0)])) t → Steps p.tables e below (s₁.setTop (entryFrame m #[(.ref a2_0)] 2)) t := fun t k => pre79 t (by
    by_cases hc78 : e5_ = (0 : Int32)
    · show Steps p.tables e below (T68.setTop (mkF m 13 #[.val (.ref a2_0), .val (.int (5 : Int32))] [(.int e5_), (.int (5 : Int32)), (.ref a2_0)])) _
      refine XS.ifNo X68.here hx rfl (hb hby d2_13) rfl ((if0 _ _).trans (teq hc78).2) ?_
      show Steps p.tables e below (T68.setTop (mkF m 16 #[.val (.ref a2_0), .val (.int (5 : Int32))] [(.int (5 : Int32)), (.ref a2_0)])) _
      refine XS.iconst X68.here hx rfl (hb hby d2_16) ?_
      show Steps p.tables e below (T68.setTop (mkF m 17 #[.val (.ref a2_0), .val (.int (5 : Int32))] [(.int (1 : Int32)), (.int (5 : Int32)), (.ref a2_0)])) _
      refine XS.goto X68.here hx rfl (pc0 := 17) (pc' := 21) rfl (hb hby d2_17) (by decide) (by decide) ?_
      have q81 : (bI (e5_ = (0 : Int32))) = (1 : Int32) := (bI_t hc78)
      exact castTop (g := (mkF m 21 #[.val (.ref a2_0), .val (.int (5 : Int32))] [(.int (1 : Int32)), (.int (5 : Int32)), (.ref a2_0)])) (g' := (mkF m 21 #[.val (.ref a2_0), .val (.int (5 : Int32))] [(.int (bI (e5_ = (0 : Int32)))), (.int (5 : Int32)), (.ref a2_0)])) (by simp only [q81]) k
    · show Steps p.tables e below (T68.setTop (mkF m 13 #[.val (.ref a2_0), .val (.int (5 : Int32))] [(.int e5_), (.int (5 : Int32)), (.ref a2_0)])) _
      refine XS.ifYes X68.here hx rfl (pc0 := 13) (pc' := 20) rfl (hb hby d2_13) rfl ((if0 _ _).trans (feq hc78).2) (by decide) (by decide) ?_
      show Steps p.tables e below (T68.setTop (mkF m 20 #[.val (.ref a2_0), .val (.int (5 : Int32))] [(.int (5 : Int32)), (.ref a2_0)])) _
      refine XS.iconst X68.here hx rfl (hb hby d2_20) ?_
      have q82 : (bI (e5_ = (0 : Int32))) = (0 : Int32) := (bI_f hc78)
      exact castTop (g := (mkF m 21 #[.val (.ref a2_0), .val (.int (5 : Int32))] [(.int (0 : Int32)), (.int (5 : Int32)), (.ref a2_0)])) (g' := (mkF m 21 #[.val (.ref a2_0), .val (.int (5 : Int32))] [(.int (bI (e5_ = (0 : Int32)))), (.int (5 : Int32)), (.ref a2_0)])) (by simp only [q82]) k)
  obtain ⟨cl83, Ar83, q83, S83, N83, H83, G83⟩ := id V69
  have hin83 : ¬ ((5 : Int32) < 0 ∨ cl83.slots.size ≤ ((5 : Int32)).toNatClampNeg) := inb_of S83 ⟨by decide, by decide⟩
  obtain ⟨T83, h83, X83, e83, W83, st83⟩ := stZ X68 hx hZ e68 Ar83 (j := (5 : Int32)) hin83 (g := (mkF m 21 #[.val (.ref a2_0), .val (.int (5 : Int32))] [(.int (bI (e5_ = (0 : Int32)))), (.int (5 : Int32)), (.ref a2_0)])) rfl rfl (hb hby d2_21)
  have V84 : Arv Z h83 a2_0 ka .boolean (6 : Int32) [(.int (bI (e0_ = (0 : Int32)))), (.int (bI (e1_ = (0 : Int32)))), (.int (bI (e2_ = (0 : Int32)))), (.int (bI (e3_ = (0 : Int32)))), (.int (bI (e4_ = (0 : Int32)))), (.int (nar .boolean (bI (e5_ = (0 : Int32)))))] (.int (0 : Int32)) := Arv.set Ar83 q83 S83 N83 H83 G83 (fits_nar_bool _) W83 5 rfl (Nat.le_of_ble_eq_true rfl)
  rw [bI_nar] at V84
  have pre85 : ∀ t, Steps p.tables e below (T83.setTop (mkF m 22 #[.val (.ref a2_0), .val (.int (5 : Int32))] [])) t → Steps p.tables e below (s₁.setTop (entryFrame m #[(.ref a2_0)] 2)) t := fun t k => pre80 t (by
    show Steps p.tables e below (T68.setTop (mkF m 21 #[.val (.ref a2_0), .val (.int (5 : Int32))] [(.int (bI (e5_ = (0 : Int32)))), (.int (5 : Int32)), (.ref a2_0)])) _
    refine st83 _ ?_
    exact k)
  have z86 := Nat.le_trans z71 (Keep.of_wr W83).1
  have k87 := k72.wr W83 (Or.inl (List.mem_of_getElem? (i := 0) rfl))
  have N88 := Fr.snoc X83 N73 g_a2_0
  obtain ⟨cl89, Ar89, q89, S89, N89, H89, G89⟩ := id V84
  have hin89 : ¬ ((5 : Int32) < 0 ∨ cl89.slots.size ≤ ((5 : Int32)).toNatClampNeg) := inb_of S89 ⟨by decide, by decide⟩
  have hat89 : cl89.slots[((5 : Int32)).toNatClampNeg]? = some (.int (bI (e5_ = (0 : Int32)))) := Has.at H89 hin89 rfl
  by_cases hc90 : e5_ = (0 : Int32)
  · obtain ⟨fs, hr, hrun, hended, hW, hsame⟩ := X83.leave (v := some (.int (1 : Int32))) (fun h => by rw [Bd.returns] at h; cases h)
    refine ⟨_, _, pre85 _ ?_, hrun, hended, _, _, rfl, ?_, ⟨_, rfl⟩, hW, hsame.mono (by decide) (by decide)⟩
    · show Steps p.tables e below (T83.setTop (mkF m 22 #[.val (.ref a2_0), .val (.int (5 : Int32))] [])) _
      refine XS.aloadN X83.here hx rfl (hb hby d2_22) rfl rfl ?_
      refine XS.iloadN X83.here hx rfl (hb hby d2_23) rfl ?_
      show Steps p.tables e below (T83.setTop (mkF m 24 #[.val (.ref a2_0), .val (.int (5 : Int32))] [(.int (5 : Int32)), (.ref a2_0)])) _
      refine X83.baloadBooleans hx (j := (5 : Int32)) (v := (.int (bI (e5_ = (0 : Int32))))) (by rw [e83]; exact Ar89.1) (State.isArrayOf_alike hZ.alike Ar89.2.1) Ar89.2.2 hin89 hat89 (g := (mkF m 24 #[.val (.ref a2_0), .val (.int (5 : Int32))] [(.int (5 : Int32)), (.ref a2_0)])) rfl rfl (hb hby d2_24) _ ?_
      show Steps p.tables e below (T83.setTop (mkF m 25 #[.val (.ref a2_0), .val (.int (5 : Int32))] [(.int (bI (e5_ = (0 : Int32))))])) _
      refine XS.ifNo X83.here hx rfl (hb hby d2_25) rfl ((if0 _ _).trans (feq (bI_n hc90)).1) ?_
      show Steps p.tables e below (T83.setTop (mkF m 28 #[.val (.ref a2_0), .val (.int (5 : Int32))] [])) _
      refine XS.iconst X83.here hx rfl (hb hby d2_28) ?_
      show Steps p.tables e below (T83.setTop (mkF m 29 #[.val (.ref a2_0), .val (.int (5 : Int32))] [(.int (1 : Int32))])) _
      exact retN X83 hx (t := .boolean) Bd.returns (by simp) (hb hby d2_29) hr
    · show Q2_6 Z a2_0 ka e0_ e1_ e2_ e3_ e4_ e5_ h0 n0 _ T83.heap _
      rw [e83]
      exact ⟨(congrArg (fun z => some (Value.int z)) ((bI_t (Or.inr (Or.inr (Or.inr (Or.inr (Or.inr hc90)))))) : (bI ((e0_ = (0 : Int32)) ∨ ((e1_ = (0 : Int32)) ∨ ((e2_ = (0 : Int32)) ∨ ((e3_ = (0 : Int32)) ∨ ((e4_ = (0 : Int32)) ∨ (e5_ = (0 : Int32)))))))) = (1 : Int32)).symm), N88, k87, (by rw [show (if e0_ = (0 : Int32) then e1_ else (bI (e1_ = (0 : Int32)))) = (bI (e1_ = (0 : Int32))) from (if_neg hc15), show (if e0_ = (0 : Int32) then e2_ else (if e1_ = (0 : Int32) then e2_ else (bI (e2_ = (0 : Int32))))) = (bI (e2_ = (0 : Int32))) from ((if_neg hc15).trans (if_neg hc30)), show (if e0_ = (0 : Int32) then e3_ else (if e1_ = (0 : Int32) then e3_ else (if e2_ = (0 : Int32) then e3_ else (bI (e3_ = (0 : Int32)))))) = (bI (e3_ = (0 : Int32))) from ((if_neg hc15).trans ((if_neg hc30).trans (if_neg hc45))), show (if e0_ = (0 : Int32) then e4_ else (if e1_ = (0 : Int32) then e4_ else (if e2_ = (0 : Int32) then e4_ else (if e3_ = (0 : Int32) then e4_ else (bI (e4_ = (0 : Int32))))))) = (bI (e4_ = (0 : Int32))) from ((if_neg hc15).trans ((if_neg hc30).trans ((if_neg hc45).trans (if_neg hc60)))), show (if e0_ = (0 : Int32) then e5_ else (if e1_ = (0 : Int32) then e5_ else (if e2_ = (0 : Int32) then e5_ else (if e3_ = (0 : Int32) then e5_ else (if e4_ = (0 : Int32) then e5_ else (bI (e5_ = (0 : Int32)))))))) = (bI (e5_ = (0 : Int32))) from ((if_neg hc15).trans ((if_neg hc30).trans ((if_neg hc45).trans ((if_neg hc60).trans (if_neg hc75)))))]; exact V84)⟩
  obtain ⟨cl91, Ar91, q91, S91, N91, H91, G91⟩ := id V84
  obtain ⟨fs, hr, hrun, hended, hW, hsame⟩ := X83.leave (v := some (.int (0 : Int32))) (fun h => by rw [Bd.returns] at h; cases h)
  refine ⟨_, _, pre85 _ ?_, hrun, hended, _, _, rfl, ?_, ⟨_, rfl⟩, hW, hsame.mono (by decide) (by decide)⟩
  · show Steps p.tables e below (T83.setTop (mkF m 22 #[.val (.ref a2_0), .val (.int (5 : Int32))] [])) _
    refine XS.aloadN X83.here hx rfl (hb hby d2_22) rfl rfl ?_
    refine XS.iloadN X83.here hx rfl (hb hby d2_23) rfl ?_
    show Steps p.tables e below (T83.setTop (mkF m 24 #[.val (.ref a2_0), .val (.int (5 : Int32))] [(.int (5 : Int32)), (.ref a2_0)])) _
    refine X83.baloadBooleans hx (j := (5 : Int32)) (v := (.int (bI (e5_ = (0 : Int32))))) (by rw [e83]; exact Ar89.1) (State.isArrayOf_alike hZ.alike Ar89.2.1) Ar89.2.2 hin89 hat89 (g := (mkF m 24 #[.val (.ref a2_0), .val (.int (5 : Int32))] [(.int (5 : Int32)), (.ref a2_0)])) rfl rfl (hb hby d2_24) _ ?_
    show Steps p.tables e below (T83.setTop (mkF m 25 #[.val (.ref a2_0), .val (.int (5 : Int32))] [(.int (bI (e5_ = (0 : Int32))))])) _
    refine XS.ifYes X83.here hx rfl (pc0 := 25) (pc' := 30) rfl (hb hby d2_25) rfl ((if0 _ _).trans (teq (bI_f hc90)).1) (by decide) (by decide) ?_
    show Steps p.tables e below (T83.setTop (mkF m 30 #[.val (.ref a2_0), .val (.int (5 : Int32))] [])) _
    refine XS.iinc X83.here hx rfl (hb hby d2_30) rfl (l' := #[.val (.ref a2_0), .val (.int (6 : Int32))]) rfl ?_
    show Steps p.tables e below (T83.setTop (mkF m 33 #[.val (.ref a2_0), .val (.int (6 : Int32))] [])) _
    refine XS.goto X83.here hx rfl (pc0 := 33) (pc' := 2) rfl (hb hby d2_33) (by decide) (by decide) ?_
    refine XS.iloadN X83.here hx rfl (hb hby d2_2) rfl ?_
    refine XS.aloadN X83.here hx rfl (hb hby d2_3) rfl rfl ?_
    show Steps p.tables e below (T83.setTop (mkF m 4 #[.val (.ref a2_0), .val (.int (6 : Int32))] [(.ref a2_0), (.int (6 : Int32))])) _
    refine X83.arraylength hx (by rw [e83]; exact Ar91.1) (State.isArrayOf_alike hZ.alike Ar91.2.1) (g := (mkF m 4 #[.val (.ref a2_0), .val (.int (6 : Int32))] [(.ref a2_0), (.int (6 : Int32))])) rfl rfl (hb hby d2_4) _ ?_
    rw [len_of S91 N91]
    show Steps p.tables e below (T83.setTop (mkF m 5 #[.val (.ref a2_0), .val (.int (6 : Int32))] [(.int (6 : Int32)), (.int (6 : Int32))])) _
    refine XS.icmpYes X83.here hx rfl (pc0 := 5) (pc' := 36) rfl (hb hby d2_5) rfl (flt (by decide : ¬ ((6 : Int32) < (6 : Int32)))).2.1 (by decide) (by decide) ?_
    show Steps p.tables e below (T83.setTop (mkF m 36 #[.val (.ref a2_0), .val (.int (6 : Int32))] [])) _
    refine XS.iconst X83.here hx rfl (hb hby d2_36) ?_
    show Steps p.tables e below (T83.setTop (mkF m 37 #[.val (.ref a2_0), .val (.int (6 : Int32))] [(.int (0 : Int32))])) _
    exact retN X83 hx (t := .boolean) Bd.returns (by simp) (hb hby d2_37) hr
  · show Q2_6 Z a2_0 ka e0_ e1_ e2_ e3_ e4_ e5_ h0 n0 _ T83.heap _
    rw [e83]
    exact ⟨(congrArg (fun z => some (Value.int z)) ((bI_f (fun z => z.elim hc15 (fun z => z.elim hc30 (fun z => z.elim hc45 (fun z => z.elim hc60 (fun z => z.elim hc75 hc90)))))) : (bI ((e0_ = (0 : Int32)) ∨ ((e1_ = (0 : Int32)) ∨ ((e2_ = (0 : Int32)) ∨ ((e3_ = (0 : Int32)) ∨ ((e4_ = (0 : Int32)) ∨ (e5_ = (0 : Int32)))))))) = (0 : Int32)).symm), N88, k87, (by rw [show (if e0_ = (0 : Int32) then e1_ else (bI (e1_ = (0 : Int32)))) = (bI (e1_ = (0 : Int32))) from (if_neg hc15), show (if e0_ = (0 : Int32) then e2_ else (if e1_ = (0 : Int32) then e2_ else (bI (e2_ = (0 : Int32))))) = (bI (e2_ = (0 : Int32))) from ((if_neg hc15).trans (if_neg hc30)), show (if e0_ = (0 : Int32) then e3_ else (if e1_ = (0 : Int32) then e3_ else (if e2_ = (0 : Int32) then e3_ else (bI (e3_ = (0 : Int32)))))) = (bI (e3_ = (0 : Int32))) from ((if_neg hc15).trans ((if_neg hc30).trans (if_neg hc45))), show (if e0_ = (0 : Int32) then e4_ else (if e1_ = (0 : Int32) then e4_ else (if e2_ = (0 : Int32) then e4_ else (if e3_ = (0 : Int32) then e4_ else (bI (e4_ = (0 : Int32))))))) = (bI (e4_ = (0 : Int32))) from ((if_neg hc15).trans ((if_neg hc30).trans ((if_neg hc45).trans (if_neg hc60)))), show (if e0_ = (0 : Int32) then e5_ else (if e1_ = (0 : Int32) then e5_ else (if e2_ = (0 : Int32) then e5_ else (if e3_ = (0 : Int32) then e5_ else (if e4_ = (0 : Int32) then e5_ else (bI (e5_ = (0 : Int32)))))))) = (bI (e5_ = (0 : Int32))) from ((if_neg hc15).trans ((if_neg hc30).trans ((if_neg hc45).trans ((if_neg hc60).trans (if_neg hc75)))))]; exact V84)⟩
def Q2_7 (Z : State) (a2_0 : Addr) (ka : ClassId) (e0_ : Int32) (e1_ : Int32) (e2_ : Int32) (e3_ : Int32) (e4_ : Int32) (e5_ : Int32) (e6_ : Int32) (h0 : Heap) (n0 : Nat) (v : Option Value) (h : Heap) (L : List Loc) : Prop := v = some (.int (bI ((e0_ = (0 : Int32)) ∨ ((e1_ = (0 : Int32)) ∨ ((e2_ = (0 : Int32)) ∨ ((e3_ = (0 : Int32)) ∨ ((e4_ = (0 : Int32)) ∨ ((e5_ = (0 : Int32)) ∨ (e6_ = (0 : Int32)))))))))) ∧ Fr n0 L ∧ Keep h0 h [a2_0] ∧ Arv Z h a2_0 ka .boolean (7 : Int32) [(.int (bI (e0_ = (0 : Int32)))), (.int (if e0_ = (0 : Int32) then e1_ else (bI (e1_ = (0 : Int32))))), (.int (if e0_ = (0 : Int32) then e2_ else (if e1_ = (0 : Int32) then e2_ else (bI (e2_ = (0 : Int32)))))), (.int (if e0_ = (0 : Int32) then e3_ else (if e1_ = (0 : Int32) then e3_ else (if e2_ = (0 : Int32) then e3_ else (bI (e3_ = (0 : Int32))))))), (.int (if e0_ = (0 : Int32) then e4_ else (if e1_ = (0 : Int32) then e4_ else (if e2_ = (0 : Int32) then e4_ else (if e3_ = (0 : Int32) then e4_ else (bI (e4_ = (0 : Int32)))))))), (.int (if e0_ = (0 : Int32) then e5_ else (if e1_ = (0 : Int32) then e5_ else (if e2_ = (0 : Int32) then e5_ else (if e3_ = (0 : Int32) then e5_ else (if e4_ = (0 : Int32) then e5_ else (bI (e5_ = (0 : Int32))))))))), (.int (if e0_ = (0 : Int32) then e6_ else (if e1_ = (0 : Int32) then e6_ else (if e2_ = (0 : Int32) then e6_ else (if e3_ = (0 : Int32) then e6_ else (if e4_ = (0 : Int32) then e6_ else (if e5_ = (0 : Int32) then e6_ else (bI (e6_ = (0 : Int32))))))))))] (.int (0 : Int32))
set_option maxRecDepth 65536 in
set_option maxHeartbeats 40000000 in
theorem rm2_7 (l : Launch) (Z : State) (a0 : Array Value) (hw : ∀ d ∈ tables_1, d.before a0 Z = true) (ws : List Jvm.Cond) (a2_0 : Addr) (ka : ClassId) (e0_ : Int32) (e1_ : Int32) (e2_ : Int32) (e3_ : Int32) (e4_ : Int32) (e5_ : Int32) (e6_ : Int32) (h0 : Heap) (n0 : Nat) (Z0 : n0 ≤ h0.size) (VA : Arv Z h0 a2_0 ka .boolean (7 : Int32) [(.int e0_), (.int e1_), (.int e2_), (.int e3_), (.int e4_), (.int e5_), (.int e6_)] (.int (0 : Int32))) (g_a2_0 : n0 ≤ a2_0) :
    MetFree l mn2 (head1 (Jvm.Cond.code mn2 prog_101_method_2_code 2 (some .boolean) :: ws) ({ frames := 0, cells := 0, slots := 0, locals := 0 } : Room)) (fun a U => a = #[(.ref a2_0)] ∧ Z.Warmed39 U.vm ∧ U.heap = h0) (fun _ _ _ _ _ => True) (fun _ U o U' => ∃ v L, o = .returned v ∧ Q2_7 Z a2_0 ka e0_ e1_ e2_ e3_ e4_ e5_ e6_ h0 n0 v U'.heap L ∧ FrameEnd U o U' L ({ frames := 0, cells := 0, slots := 0, locals := 0 } : Room).cells ({ frames := 0, cells := 0, slots := 0, locals := 0 } : Room).slots) := by
  refine MetFree.of_bodySF (plainFor_of_name pn_2) hisR ?_
  intro p e s m args below meth c s₁ Bd hml0 hP hK
  obtain ⟨rfl, hZ, hh⟩ := hP
  have hVV : ∀ (i : Nat) (d : Jvm.Cond), tables_1[i]? = some d → d.before a0 Z = true := fun i d h => hw d (List.mem_of_getElem? h)
  have hx := Bd.exec
  have hby := Bd.bytes
  have hml : c.maxLocals = 2 := hml0
  have hown : s.vm.findClass "com/example/regista/regista/Valuations" = some m.cls := findClass_of_methodNamed Bd.named
  have hnm := (name_of_methodNamed Bd.named Bd.method).1
  have X0 : Stand p l e ({ frames := 0, cells := 0, slots := 0, locals := 0 } : Room) s m #[(.ref a2_0)] below meth c s₁ [] 0 0 := Stand.of_body Bd
  have e0 : s₁.heap = h0 := by rw [← hh, Bd.state]; rfl
  have N0 := Fr.nil n0
  have pre0 : ∀ t, Steps p.tables e below (s₁.setTop (mkF m 0 #[.val (.ref a2_0), .unset] [])) t → Steps p.tables e below (s₁.setTop (entryFrame m #[(.ref a2_0)] 2)) t := fun t k => castTop (ef_2 m a2_0) k
  obtain ⟨cl1, Ar1, q1, S1, N1, H1, G1⟩ := id VA
  obtain ⟨cl2, Ar2, q2, S2, N2, H2, G2⟩ := id VA
  have hin2 : ¬ ((0 : Int32) < 0 ∨ cl2.slots.size ≤ ((0 : Int32)).toNatClampNeg) := inb_of S2 ⟨by decide, by decide⟩
  have hat2 : cl2.slots[((0 : Int32)).toNatClampNeg]? = some (.int e0_) := Has.at H2 hin2 rfl
  have pre4 : ∀ t, Steps p.tables e below (s₁.setTop (mkF m 13 #[.val (.ref a2_0), .val (.int (0 : Int32))] [(.int e0_), (.int (0 : Int32)), (.ref a2_0)])) t → Steps p.tables e below (s₁.setTop (entryFrame m #[(.ref a2_0)] 2)) t := fun t k => pre0 t (by
    show Steps p.tables e below (s₁.setTop (mkF m 0 #[.val (.ref a2_0), .unset] [])) _
    refine XS.iconst X0.here hx rfl (hb hby d2_0) ?_
    show Steps p.tables e below (s₁.setTop (mkF m 1 #[.val (.ref a2_0), .unset] [(.int (0 : Int32))])) _
    refine XS.istoreN X0.here hx rfl (hb hby d2_1) rfl (l' := #[.val (.ref a2_0), .val (.int (0 : Int32))]) rfl ?_
    show Steps p.tables e below (s₁.setTop (mkF m 2 #[.val (.ref a2_0), .val (.int (0 : Int32))] [])) _
    refine XS.iloadN X0.here hx rfl (hb hby d2_2) rfl ?_
    refine XS.aloadN X0.here hx rfl (hb hby d2_3) rfl rfl ?_
    show Steps p.tables e below (s₁.setTop (mkF m 4 #[.val (.ref a2_0), .val (.int (0 : Int32))] [(.ref a2_0), (.int (0 : Int32))])) _
    refine X0.arraylength hx (by rw [e0]; exact Ar1.1) (State.isArrayOf_alike hZ.alike Ar1.2.1) (g := (mkF m 4 #[.val (.ref a2_0), .val (.int (0 : Int32))] [(.ref a2_0), (.int (0 : Int32))])) rfl rfl (hb hby d2_4) _ ?_
    rw [len_of S1 N1]
    show Steps p.tables e below (s₁.setTop (mkF m 5 #[.val (.ref a2_0), .val (.int (0 : Int32))] [(.int (7 : Int32)), (.int (0 : Int32))])) _
    refine XS.icmpNo X0.here hx rfl (hb hby d2_5) rfl (tlt (by decide : (0 : Int32) < (7 : Int32))).2.1 ?_
    show Steps p.tables e below (s₁.setTop (mkF m 8 #[.val (.ref a2_0), .val (.int (0 : Int32))] [])) _
    refine XS.aloadN X0.here hx rfl (hb hby d2_8) rfl rfl ?_
    refine XS.iloadN X0.here hx rfl (hb hby d2_9) rfl ?_
    refine XS.aloadN X0.here hx rfl (hb hby d2_10) rfl rfl ?_
    refine XS.iloadN X0.here hx rfl (hb hby d2_11) rfl ?_
    show Steps p.tables e below (s₁.setTop (mkF m 12 #[.val (.ref a2_0), .val (.int (0 : Int32))] [(.int (0 : Int32)), (.ref a2_0), (.int (0 : Int32)), (.ref a2_0)])) _
    refine X0.baloadBooleans hx (j := (0 : Int32)) (v := (.int e0_)) (by rw [e0]; exact Ar2.1) (State.isArrayOf_alike hZ.alike Ar2.2.1) Ar2.2.2 hin2 hat2 (g := (mkF m 12 #[.val (.ref a2_0), .val (.int (0 : Int32))] [(.int (0 : Int32)), (.ref a2_0), (.int (0 : Int32)), (.ref a2_0)])) rfl rfl (hb hby d2_12) _ ?_
    exact k)
  have pre5 : ∀ t, Steps p.tables e below (s₁.setTop (mkF m 21 #[.val (.ref a2_0), .val (.int (0 : Int32))] [(.int (bI (e0_ = (0 : Int32)))), (.int (0 : Int32)), (.ref a2_0)])) t → Steps p.tables e below (s₁.setTop (entryFrame m #[(.ref a2_0)] 2)) t := fun t k => pre4 t (by
    by_cases hc3 : e0_ = (0 : Int32)
    · show Steps p.tables e below (s₁.setTop (mkF m 13 #[.val (.ref a2_0), .val (.int (0 : Int32))] [(.int e0_), (.int (0 : Int32)), (.ref a2_0)])) _
      refine XS.ifNo X0.here hx rfl (hb hby d2_13) rfl ((if0 _ _).trans (teq hc3).2) ?_
      show Steps p.tables e below (s₁.setTop (mkF m 16 #[.val (.ref a2_0), .val (.int (0 : Int32))] [(.int (0 : Int32)), (.ref a2_0)])) _
      refine XS.iconst X0.here hx rfl (hb hby d2_16) ?_
      show Steps p.tables e below (s₁.setTop (mkF m 17 #[.val (.ref a2_0), .val (.int (0 : Int32))] [(.int (1 : Int32)), (.int (0 : Int32)), (.ref a2_0)])) _
      refine XS.goto X0.here hx rfl (pc0 := 17) (pc' := 21) rfl (hb hby d2_17) (by decide) (by decide) ?_
      have q6 : (bI (e0_ = (0 : Int32))) = (1 : Int32) := (bI_t hc3)
      exact castTop (g := (mkF m 21 #[.val (.ref a2_0), .val (.int (0 : Int32))] [(.int (1 : Int32)), (.int (0 : Int32)), (.ref a2_0)])) (g' := (mkF m 21 #[.val (.ref a2_0), .val (.int (0 : Int32))] [(.int (bI (e0_ = (0 : Int32)))), (.int (0 : Int32)), (.ref a2_0)])) (by simp only [q6]) k
    · show Steps p.tables e below (s₁.setTop (mkF m 13 #[.val (.ref a2_0), .val (.int (0 : Int32))] [(.int e0_), (.int (0 : Int32)), (.ref a2_0)])) _
      refine XS.ifYes X0.here hx rfl (pc0 := 13) (pc' := 20) rfl (hb hby d2_13) rfl ((if0 _ _).trans (feq hc3).2) (by decide) (by decide) ?_
      show Steps p.tables e below (s₁.setTop (mkF m 20 #[.val (.ref a2_0), .val (.int (0 : Int32))] [(.int (0 : Int32)), (.ref a2_0)])) _
      refine XS.iconst X0.here hx rfl (hb hby d2_20) ?_
      have q7 : (bI (e0_ = (0 : Int32))) = (0 : Int32) := (bI_f hc3)
      exact castTop (g := (mkF m 21 #[.val (.ref a2_0), .val (.int (0 : Int32))] [(.int (0 : Int32)), (.int (0 : Int32)), (.ref a2_0)])) (g' := (mkF m 21 #[.val (.ref a2_0), .val (.int (0 : Int32))] [(.int (bI (e0_ = (0 : Int32)))), (.int (0 : Int32)), (.ref a2_0)])) (by simp only [q7]) k)
  obtain ⟨cl8, Ar8, q8, S8, N8, H8, G8⟩ := id VA
  have hin8 : ¬ ((0 : Int32) < 0 ∨ cl8.slots.size ≤ ((0 : Int32)).toNatClampNeg) := inb_of S8 ⟨by decide, by decide⟩
  obtain ⟨T8, h8, X8, e8, W8, st8⟩ := stZ X0 hx hZ e0 Ar8 (j := (0 : Int32)) hin8 (g := (mkF m 21 #[.val (.ref a2_0), .val (.int (0 : Int32))] [(.int (bI (e0_ = (0 : Int32)))), (.int (0 : Int32)), (.ref a2_0)])) rfl rfl (hb hby d2_21)
  have V9 : Arv Z h8 a2_0 ka .boolean (7 : Int32) [(.int (nar .boolean (bI (e0_ = (0 : Int32))))), (.int e1_), (.int e2_), (.int e3_), (.int e4_), (.int e5_), (.int e6_)] (.int (0 : Int32)) := Arv.set Ar8 q8 S8 N8 H8 G8 (fits_nar_bool _) W8 0 rfl (Nat.le_of_ble_eq_true rfl)
  rw [bI_nar] at V9
  have pre10 : ∀ t, Steps p.tables e below (T8.setTop (mkF m 22 #[.val (.ref a2_0), .val (.int (0 : Int32))] [])) t → Steps p.tables e below (s₁.setTop (entryFrame m #[(.ref a2_0)] 2)) t := fun t k => pre5 t (by
    show Steps p.tables e below (s₁.setTop (mkF m 21 #[.val (.ref a2_0), .val (.int (0 : Int32))] [(.int (bI (e0_ = (0 : Int32)))), (.int (0 : Int32)), (.ref a2_0)])) _
    refine st8 _ ?_
    exact k)
  have z11 := Nat.le_trans Z0 (Keep.of_wr W8).1
  have k12 := (Keep.refl h0 [a2_0]).wr W8 (Or.inl (List.mem_of_getElem? (i := 0) rfl))
  have N13 := Fr.snoc X8 N0 g_a2_0
  obtain ⟨cl14, Ar14, q14, S14, N14, H14, G14⟩ := id V9
  have hin14 : ¬ ((0 : Int32) < 0 ∨ cl14.slots.size ≤ ((0 : Int32)).toNatClampNeg) := inb_of S14 ⟨by decide, by decide⟩
  have hat14 : cl14.slots[((0 : Int32)).toNatClampNeg]? = some (.int (bI (e0_ = (0 : Int32)))) := Has.at H14 hin14 rfl
  by_cases hc15 : e0_ = (0 : Int32)
  · obtain ⟨fs, hr, hrun, hended, hW, hsame⟩ := X8.leave (v := some (.int (1 : Int32))) (fun h => by rw [Bd.returns] at h; cases h)
    refine ⟨_, _, pre10 _ ?_, hrun, hended, _, _, rfl, ?_, ⟨_, rfl⟩, hW, hsame.mono (by decide) (by decide)⟩
    · show Steps p.tables e below (T8.setTop (mkF m 22 #[.val (.ref a2_0), .val (.int (0 : Int32))] [])) _
      refine XS.aloadN X8.here hx rfl (hb hby d2_22) rfl rfl ?_
      refine XS.iloadN X8.here hx rfl (hb hby d2_23) rfl ?_
      show Steps p.tables e below (T8.setTop (mkF m 24 #[.val (.ref a2_0), .val (.int (0 : Int32))] [(.int (0 : Int32)), (.ref a2_0)])) _
      refine X8.baloadBooleans hx (j := (0 : Int32)) (v := (.int (bI (e0_ = (0 : Int32))))) (by rw [e8]; exact Ar14.1) (State.isArrayOf_alike hZ.alike Ar14.2.1) Ar14.2.2 hin14 hat14 (g := (mkF m 24 #[.val (.ref a2_0), .val (.int (0 : Int32))] [(.int (0 : Int32)), (.ref a2_0)])) rfl rfl (hb hby d2_24) _ ?_
      show Steps p.tables e below (T8.setTop (mkF m 25 #[.val (.ref a2_0), .val (.int (0 : Int32))] [(.int (bI (e0_ = (0 : Int32))))])) _
      refine XS.ifNo X8.here hx rfl (hb hby d2_25) rfl ((if0 _ _).trans (feq (bI_n hc15)).1) ?_
      show Steps p.tables e below (T8.setTop (mkF m 28 #[.val (.ref a2_0), .val (.int (0 : Int32))] [])) _
      refine XS.iconst X8.here hx rfl (hb hby d2_28) ?_
      show Steps p.tables e below (T8.setTop (mkF m 29 #[.val (.ref a2_0), .val (.int (0 : Int32))] [(.int (1 : Int32))])) _
      exact retN X8 hx (t := .boolean) Bd.returns (by simp) (hb hby d2_29) hr
    · show Q2_7 Z a2_0 ka e0_ e1_ e2_ e3_ e4_ e5_ e6_ h0 n0 _ T8.heap _
      rw [e8]
      exact ⟨(congrArg (fun z => some (Value.int z)) ((bI_t (Or.inl hc15)) : (bI ((e0_ = (0 : Int32)) ∨ ((e1_ = (0 : Int32)) ∨ ((e2_ = (0 : Int32)) ∨ ((e3_ = (0 : Int32)) ∨ ((e4_ = (0 : Int32)) ∨ ((e5_ = (0 : Int32)) ∨ (e6_ = (0 : Int32))))))))) = (1 : Int32)).symm), N13, k12, (by rw [show (if e0_ = (0 : Int32) then e1_ else (bI (e1_ = (0 : Int32)))) = e1_ from (if_pos hc15), show (if e0_ = (0 : Int32) then e2_ else (if e1_ = (0 : Int32) then e2_ else (bI (e2_ = (0 : Int32))))) = e2_ from (if_pos hc15), show (if e0_ = (0 : Int32) then e3_ else (if e1_ = (0 : Int32) then e3_ else (if e2_ = (0 : Int32) then e3_ else (bI (e3_ = (0 : Int32)))))) = e3_ from (if_pos hc15), show (if e0_ = (0 : Int32) then e4_ else (if e1_ = (0 : Int32) then e4_ else (if e2_ = (0 : Int32) then e4_ else (if e3_ = (0 : Int32) then e4_ else (bI (e4_ = (0 : Int32))))))) = e4_ from (if_pos hc15), show (if e0_ = (0 : Int32) then e5_ else (if e1_ = (0 : Int32) then e5_ else (if e2_ = (0 : Int32) then e5_ else (if e3_ = (0 : Int32) then e5_ else (if e4_ = (0 : Int32) then e5_ else (bI (e5_ = (0 : Int32)))))))) = e5_ from (if_pos hc15), show (if e0_ = (0 : Int32) then e6_ else (if e1_ = (0 : Int32) then e6_ else (if e2_ = (0 : Int32) then e6_ else (if e3_ = (0 : Int32) then e6_ else (if e4_ = (0 : Int32) then e6_ else (if e5_ = (0 : Int32) then e6_ else (bI (e6_ = (0 : Int32))))))))) = e6_ from (if_pos hc15)]; exact V9)⟩
  obtain ⟨cl16, Ar16, q16, S16, N16, H16, G16⟩ := id V9
  obtain ⟨cl17, Ar17, q17, S17, N17, H17, G17⟩ := id V9
  have hin17 : ¬ ((1 : Int32) < 0 ∨ cl17.slots.size ≤ ((1 : Int32)).toNatClampNeg) := inb_of S17 ⟨by decide, by decide⟩
  have hat17 : cl17.slots[((1 : Int32)).toNatClampNeg]? = some (.int e1_) := Has.at H17 hin17 rfl
  have pre19 : ∀ t, Steps p.tables e below (T8.setTop (mkF m 13 #[.val (.ref a2_0), .val (.int (1 : Int32))] [(.int e1_), (.int (1 : Int32)), (.ref a2_0)])) t → Steps p.tables e below (s₁.setTop (entryFrame m #[(.ref a2_0)] 2)) t := fun t k => pre10 t (by
    show Steps p.tables e below (T8.setTop (mkF m 22 #[.val (.ref a2_0), .val (.int (0 : Int32))] [])) _
    refine XS.aloadN X8.here hx rfl (hb hby d2_22) rfl rfl ?_
    refine XS.iloadN X8.here hx rfl (hb hby d2_23) rfl ?_
    show Steps p.tables e below (T8.setTop (mkF m 24 #[.val (.ref a2_0), .val (.int (0 : Int32))] [(.int (0 : Int32)), (.ref a2_0)])) _
    refine X8.baloadBooleans hx (j := (0 : Int32)) (v := (.int (bI (e0_ = (0 : Int32))))) (by rw [e8]; exact Ar14.1) (State.isArrayOf_alike hZ.alike Ar14.2.1) Ar14.2.2 hin14 hat14 (g := (mkF m 24 #[.val (.ref a2_0), .val (.int (0 : Int32))] [(.int (0 : Int32)), (.ref a2_0)])) rfl rfl (hb hby d2_24) _ ?_
    show Steps p.tables e below (T8.setTop (mkF m 25 #[.val (.ref a2_0), .val (.int (0 : Int32))] [(.int (bI (e0_ = (0 : Int32))))])) _
    refine XS.ifYes X8.here hx rfl (pc0 := 25) (pc' := 30) rfl (hb hby d2_25) rfl ((if0 _ _).trans (teq (bI_f hc15)).1) (by decide) (by decide) ?_
    show Steps p.tables e below (T8.setTop (mkF m 30 #[.val (.ref a2_0), .val (.int (0 : Int32))] [])) _
    refine XS.iinc X8.here hx rfl (hb hby d2_30) rfl (l' := #[.val (.ref a2_0), .val (.int (1 : Int32))]) rfl ?_
    show Steps p.tables e below (T8.setTop (mkF m 33 #[.val (.ref a2_0), .val (.int (1 : Int32))] [])) _
    refine XS.goto X8.here hx rfl (pc0 := 33) (pc' := 2) rfl (hb hby d2_33) (by decide) (by decide) ?_
    refine XS.iloadN X8.here hx rfl (hb hby d2_2) rfl ?_
    refine XS.aloadN X8.here hx rfl (hb hby d2_3) rfl rfl ?_
    show Steps p.tables e below (T8.setTop (mkF m 4 #[.val (.ref a2_0), .val (.int (1 : Int32))] [(.ref a2_0), (.int (1 : Int32))])) _
    refine X8.arraylength hx (by rw [e8]; exact Ar16.1) (State.isArrayOf_alike hZ.alike Ar16.2.1) (g := (mkF m 4 #[.val (.ref a2_0), .val (.int (1 : Int32))] [(.ref a2_0), (.int (1 : Int32))])) rfl rfl (hb hby d2_4) _ ?_
    rw [len_of S16 N16]
    show Steps p.tables e below (T8.setTop (mkF m 5 #[.val (.ref a2_0), .val (.int (1 : Int32))] [(.int (7 : Int32)), (.int (1 : Int32))])) _
    refine XS.icmpNo X8.here hx rfl (hb hby d2_5) rfl (tlt (by decide : (1 : Int32) < (7 : Int32))).2.1 ?_
    show Steps p.tables e below (T8.setTop (mkF m 8 #[.val (.ref a2_0), .val (.int (1 : Int32))] [])) _
    refine XS.aloadN X8.here hx rfl (hb hby d2_8) rfl rfl ?_
    refine XS.iloadN X8.here hx rfl (hb hby d2_9) rfl ?_
    refine XS.aloadN X8.here hx rfl (hb hby d2_10) rfl rfl ?_
    refine XS.iloadN X8.here hx rfl (hb hby d2_11) rfl ?_
    show Steps p.tables e below (T8.setTop (mkF m 12 #[.val (.ref a2_0), .val (.int (1 : Int32))] [(.int (1 : Int32)), (.ref a2_0), (.int (1 : Int32)), (.ref a2_0)])) _
    refine X8.baloadBooleans hx (j := (1 : Int32)) (v := (.int e1_)) (by rw [e8]; exact Ar17.1) (State.isArrayOf_alike hZ.alike Ar17.2.1) Ar17.2.2 hin17 hat17 (g := (mkF m 12 #[.val (.ref a2_0), .val (.int (1 : Int32))] [(.int (1 : Int32)), (.ref a2_0), (.int (1 : Int32)), (.ref a2_0)])) rfl rfl (hb hby d2_12) _ ?_
    exact k)
  have pre20 : ∀ t, Steps p.tables e below (T8.setTop (mkF m 21 #[.val (.ref a2_0), .val (.int (1 : Int32))] [(.int (bI (e1_ = (0 : Int32)))), (.int (1 : Int32)), (.ref a2_0)])) t → Steps p.tables e below (s₁.setTop (entryFrame m #[(.ref a2_0)] 2)) t := fun t k => pre19 t (by
    by_cases hc18 : e1_ = (0 : Int32)
    · show Steps p.tables e below (T8.setTop (mkF m 13 #[.val (.ref a2_0), .val (.int (1 : Int32))] [(.int e1_), (.int (1 : Int32)), (.ref a2_0)])) _
      refine XS.ifNo X8.here hx rfl (hb hby d2_13) rfl ((if0 _ _).trans (teq hc18).2) ?_
      show Steps p.tables e below (T8.setTop (mkF m 16 #[.val (.ref a2_0), .val (.int (1 : Int32))] [(.int (1 : Int32)), (.ref a2_0)])) _
      refine XS.iconst X8.here hx rfl (hb hby d2_16) ?_
      show Steps p.tables e below (T8.setTop (mkF m 17 #[.val (.ref a2_0), .val (.int (1 : Int32))] [(.int (1 : Int32)), (.int (1 : Int32)), (.ref a2_0)])) _
      refine XS.goto X8.here hx rfl (pc0 := 17) (pc' := 21) rfl (hb hby d2_17) (by decide) (by decide) ?_
      have q21 : (bI (e1_ = (0 : Int32))) = (1 : Int32) := (bI_t hc18)
      exact castTop (g := (mkF m 21 #[.val (.ref a2_0), .val (.int (1 : Int32))] [(.int (1 : Int32)), (.int (1 : Int32)), (.ref a2_0)])) (g' := (mkF m 21 #[.val (.ref a2_0), .val (.int (1 : Int32))] [(.int (bI (e1_ = (0 : Int32)))), (.int (1 : Int32)), (.ref a2_0)])) (by simp only [q21]) k
    · show Steps p.tables e below (T8.setTop (mkF m 13 #[.val (.ref a2_0), .val (.int (1 : Int32))] [(.int e1_), (.int (1 : Int32)), (.ref a2_0)])) _
      refine XS.ifYes X8.here hx rfl (pc0 := 13) (pc' := 20) rfl (hb hby d2_13) rfl ((if0 _ _).trans (feq hc18).2) (by decide) (by decide) ?_
      show Steps p.tables e below (T8.setTop (mkF m 20 #[.val (.ref a2_0), .val (.int (1 : Int32))] [(.int (1 : Int32)), (.ref a2_0)])) _
      refine XS.iconst X8.here hx rfl (hb hby d2_20) ?_
      have q22 : (bI (e1_ = (0 : Int32))) = (0 : Int32) := (bI_f hc18)
      exact castTop (g := (mkF m 21 #[.val (.ref a2_0), .val (.int (1 : Int32))] [(.int (0 : Int32)), (.int (1 : Int32)), (.ref a2_0)])) (g' := (mkF m 21 #[.val (.ref a2_0), .val (.int (1 : Int32))] [(.int (bI (e1_ = (0 : Int32)))), (.int (1 : Int32)), (.ref a2_0)])) (by simp only [q22]) k)
  obtain ⟨cl23, Ar23, q23, S23, N23, H23, G23⟩ := id V9
  have hin23 : ¬ ((1 : Int32) < 0 ∨ cl23.slots.size ≤ ((1 : Int32)).toNatClampNeg) := inb_of S23 ⟨by decide, by decide⟩
  obtain ⟨T23, h23, X23, e23, W23, st23⟩ := stZ X8 hx hZ e8 Ar23 (j := (1 : Int32)) hin23 (g := (mkF m 21 #[.val (.ref a2_0), .val (.int (1 : Int32))] [(.int (bI (e1_ = (0 : Int32)))), (.int (1 : Int32)), (.ref a2_0)])) rfl rfl (hb hby d2_21)
  have V24 : Arv Z h23 a2_0 ka .boolean (7 : Int32) [(.int (bI (e0_ = (0 : Int32)))), (.int (nar .boolean (bI (e1_ = (0 : Int32))))), (.int e2_), (.int e3_), (.int e4_), (.int e5_), (.int e6_)] (.int (0 : Int32)) := Arv.set Ar23 q23 S23 N23 H23 G23 (fits_nar_bool _) W23 1 rfl (Nat.le_of_ble_eq_true rfl)
  rw [bI_nar] at V24
  have pre25 : ∀ t, Steps p.tables e below (T23.setTop (mkF m 22 #[.val (.ref a2_0), .val (.int (1 : Int32))] [])) t → Steps p.tables e below (s₁.setTop (entryFrame m #[(.ref a2_0)] 2)) t := fun t k => pre20 t (by
    show Steps p.tables e below (T8.setTop (mkF m 21 #[.val (.ref a2_0), .val (.int (1 : Int32))] [(.int (bI (e1_ = (0 : Int32)))), (.int (1 : Int32)), (.ref a2_0)])) _
    refine st23 _ ?_
    exact k)
  have z26 := Nat.le_trans z11 (Keep.of_wr W23).1
  have k27 := k12.wr W23 (Or.inl (List.mem_of_getElem? (i := 0) rfl))
  have N28 := Fr.snoc X23 N13 g_a2_0
  obtain ⟨cl29, Ar29, q29, S29, N29, H29, G29⟩ := id V24
  have hin29 : ¬ ((1 : Int32) < 0 ∨ cl29.slots.size ≤ ((1 : Int32)).toNatClampNeg) := inb_of S29 ⟨by decide, by decide⟩
  have hat29 : cl29.slots[((1 : Int32)).toNatClampNeg]? = some (.int (bI (e1_ = (0 : Int32)))) := Has.at H29 hin29 rfl
  by_cases hc30 : e1_ = (0 : Int32)
  · obtain ⟨fs, hr, hrun, hended, hW, hsame⟩ := X23.leave (v := some (.int (1 : Int32))) (fun h => by rw [Bd.returns] at h; cases h)
    refine ⟨_, _, pre25 _ ?_, hrun, hended, _, _, rfl, ?_, ⟨_, rfl⟩, hW, hsame.mono (by decide) (by decide)⟩
    · show Steps p.tables e below (T23.setTop (mkF m 22 #[.val (.ref a2_0), .val (.int (1 : Int32))] [])) _
      refine XS.aloadN X23.here hx rfl (hb hby d2_22) rfl rfl ?_
      refine XS.iloadN X23.here hx rfl (hb hby d2_23) rfl ?_
      show Steps p.tables e below (T23.setTop (mkF m 24 #[.val (.ref a2_0), .val (.int (1 : Int32))] [(.int (1 : Int32)), (.ref a2_0)])) _
      refine X23.baloadBooleans hx (j := (1 : Int32)) (v := (.int (bI (e1_ = (0 : Int32))))) (by rw [e23]; exact Ar29.1) (State.isArrayOf_alike hZ.alike Ar29.2.1) Ar29.2.2 hin29 hat29 (g := (mkF m 24 #[.val (.ref a2_0), .val (.int (1 : Int32))] [(.int (1 : Int32)), (.ref a2_0)])) rfl rfl (hb hby d2_24) _ ?_
      show Steps p.tables e below (T23.setTop (mkF m 25 #[.val (.ref a2_0), .val (.int (1 : Int32))] [(.int (bI (e1_ = (0 : Int32))))])) _
      refine XS.ifNo X23.here hx rfl (hb hby d2_25) rfl ((if0 _ _).trans (feq (bI_n hc30)).1) ?_
      show Steps p.tables e below (T23.setTop (mkF m 28 #[.val (.ref a2_0), .val (.int (1 : Int32))] [])) _
      refine XS.iconst X23.here hx rfl (hb hby d2_28) ?_
      show Steps p.tables e below (T23.setTop (mkF m 29 #[.val (.ref a2_0), .val (.int (1 : Int32))] [(.int (1 : Int32))])) _
      exact retN X23 hx (t := .boolean) Bd.returns (by simp) (hb hby d2_29) hr
    · show Q2_7 Z a2_0 ka e0_ e1_ e2_ e3_ e4_ e5_ e6_ h0 n0 _ T23.heap _
      rw [e23]
      exact ⟨(congrArg (fun z => some (Value.int z)) ((bI_t (Or.inr (Or.inl hc30))) : (bI ((e0_ = (0 : Int32)) ∨ ((e1_ = (0 : Int32)) ∨ ((e2_ = (0 : Int32)) ∨ ((e3_ = (0 : Int32)) ∨ ((e4_ = (0 : Int32)) ∨ ((e5_ = (0 : Int32)) ∨ (e6_ = (0 : Int32))))))))) = (1 : Int32)).symm), N28, k27, (by rw [show (if e0_ = (0 : Int32) then e1_ else (bI (e1_ = (0 : Int32)))) = (bI (e1_ = (0 : Int32))) from (if_neg hc15), show (if e0_ = (0 : Int32) then e2_ else (if e1_ = (0 : Int32) then e2_ else (bI (e2_ = (0 : Int32))))) = e2_ from ((if_neg hc15).trans (if_pos hc30)), show (if e0_ = (0 : Int32) then e3_ else (if e1_ = (0 : Int32) then e3_ else (if e2_ = (0 : Int32) then e3_ else (bI (e3_ = (0 : Int32)))))) = e3_ from ((if_neg hc15).trans (if_pos hc30)), show (if e0_ = (0 : Int32) then e4_ else (if e1_ = (0 : Int32) then e4_ else (if e2_ = (0 : Int32) then e4_ else (if e3_ = (0 : Int32) then e4_ else (bI (e4_ = (0 : Int32))))))) = e4_ from ((if_neg hc15).trans (if_pos hc30)), show (if e0_ = (0 : Int32) then e5_ else (if e1_ = (0 : Int32) then e5_ else (if e2_ = (0 : Int32) then e5_ else (if e3_ = (0 : Int32) then e5_ else (if e4_ = (0 : Int32) then e5_ else (bI (e5_ = (0 : Int32)))))))) = e5_ from ((if_neg hc15).trans (if_pos hc30)), show (if e0_ = (0 : Int32) then e6_ else (if e1_ = (0 : Int32) then e6_ else (if e2_ = (0 : Int32) then e6_ else (if e3_ = (0 : Int32) then e6_ else (if e4_ = (0 : Int32) then e6_ else (if e5_ = (0 : Int32) then e6_ else (bI (e6_ = (0 : Int32))))))))) = e6_ from ((if_neg hc15).trans (if_pos hc30))]; exact V24)⟩
  obtain ⟨cl31, Ar31, q31, S31, N31, H31, G31⟩ := id V24
  obtain ⟨cl32, Ar32, q32, S32, N32, H32, G32⟩ := id V24
  have hin32 : ¬ ((2 : Int32) < 0 ∨ cl32.slots.size ≤ ((2 : Int32)).toNatClampNeg) := inb_of S32 ⟨by decide, by decide⟩
  have hat32 : cl32.slots[((2 : Int32)).toNatClampNeg]? = some (.int e2_) := Has.at H32 hin32 rfl
  have pre34 : ∀ t, Steps p.tables e below (T23.setTop (mkF m 13 #[.val (.ref a2_0), .val (.int (2 : Int32))] [(.int e2_), (.int (2 : Int32)), (.ref a2_0)])) t → Steps p.tables e below (s₁.setTop (entryFrame m #[(.ref a2_0)] 2)) t := fun t k => pre25 t (by
    show Steps p.tables e below (T23.setTop (mkF m 22 #[.val (.ref a2_0), .val (.int (1 : Int32))] [])) _
    refine XS.aloadN X23.here hx rfl (hb hby d2_22) rfl rfl ?_
    refine XS.iloadN X23.here hx rfl (hb hby d2_23) rfl ?_
    show Steps p.tables e below (T23.setTop (mkF m 24 #[.val (.ref a2_0), .val (.int (1 : Int32))] [(.int (1 : Int32)), (.ref a2_0)])) _
    refine X23.baloadBooleans hx (j := (1 : Int32)) (v := (.int (bI (e1_ = (0 : Int32))))) (by rw [e23]; exact Ar29.1) (State.isArrayOf_alike hZ.alike Ar29.2.1) Ar29.2.2 hin29 hat29 (g := (mkF m 24 #[.val (.ref a2_0), .val (.int (1 : Int32))] [(.int (1 : Int32)), (.ref a2_0)])) rfl rfl (hb hby d2_24) _ ?_
    show Steps p.tables e below (T23.setTop (mkF m 25 #[.val (.ref a2_0), .val (.int (1 : Int32))] [(.int (bI (e1_ = (0 : Int32))))])) _
    refine XS.ifYes X23.here hx rfl (pc0 := 25) (pc' := 30) rfl (hb hby d2_25) rfl ((if0 _ _).trans (teq (bI_f hc30)).1) (by decide) (by decide) ?_
    show Steps p.tables e below (T23.setTop (mkF m 30 #[.val (.ref a2_0), .val (.int (1 : Int32))] [])) _
    refine XS.iinc X23.here hx rfl (hb hby d2_30) rfl (l' := #[.val (.ref a2_0), .val (.int (2 : Int32))]) rfl ?_
    show Steps p.tables e below (T23.setTop (mkF m 33 #[.val (.ref a2_0), .val (.int (2 : Int32))] [])) _
    refine XS.goto X23.here hx rfl (pc0 := 33) (pc' := 2) rfl (hb hby d2_33) (by decide) (by decide) ?_
    refine XS.iloadN X23.here hx rfl (hb hby d2_2) rfl ?_
    refine XS.aloadN X23.here hx rfl (hb hby d2_3) rfl rfl ?_
    show Steps p.tables e below (T23.setTop (mkF m 4 #[.val (.ref a2_0), .val (.int (2 : Int32))] [(.ref a2_0), (.int (2 : Int32))])) _
    refine X23.arraylength hx (by rw [e23]; exact Ar31.1) (State.isArrayOf_alike hZ.alike Ar31.2.1) (g := (mkF m 4 #[.val (.ref a2_0), .val (.int (2 : Int32))] [(.ref a2_0), (.int (2 : Int32))])) rfl rfl (hb hby d2_4) _ ?_
    rw [len_of S31 N31]
    show Steps p.tables e below (T23.setTop (mkF m 5 #[.val (.ref a2_0), .val (.int (2 : Int32))] [(.int (7 : Int32)), (.int (2 : Int32))])) _
    refine XS.icmpNo X23.here hx rfl (hb hby d2_5) rfl (tlt (by decide : (2 : Int32) < (7 : Int32))).2.1 ?_
    show Steps p.tables e below (T23.setTop (mkF m 8 #[.val (.ref a2_0), .val (.int (2 : Int32))] [])) _
    refine XS.aloadN X23.here hx rfl (hb hby d2_8) rfl rfl ?_
    refine XS.iloadN X23.here hx rfl (hb hby d2_9) rfl ?_
    refine XS.aloadN X23.here hx rfl (hb hby d2_10) rfl rfl ?_
    refine XS.iloadN X23.here hx rfl (hb hby d2_11) rfl ?_
    show Steps p.tables e below (T23.setTop (mkF m 12 #[.val (.ref a2_0), .val (.int (2 : Int32))] [(.int (2 : Int32)), (.ref a2_0), (.int (2 : Int32)), (.ref a2_0)])) _
    refine X23.baloadBooleans hx (j := (2 : Int32)) (v := (.int e2_)) (by rw [e23]; exact Ar32.1) (State.isArrayOf_alike hZ.alike Ar32.2.1) Ar32.2.2 hin32 hat32 (g := (mkF m 12 #[.val (.ref a2_0), .val (.int (2 : Int32))] [(.int (2 : Int32)), (.ref a2_0), (.int (2 : Int32)), (.ref a2_0)])) rfl rfl (hb hby d2_12) _ ?_
    exact k)
  have pre35 : ∀ t, Steps p.tables e below (T23.setTop (mkF m 21 #[.val (.ref a2_0), .val (.int (2 : Int32))] [(.int (bI (e2_ = (0 : Int32)))), (.int (2 : Int32)), (.ref a2_0)])) t → Steps p.tables e below (s₁.setTop (entryFrame m #[(.ref a2_0)] 2)) t := fun t k => pre34 t (by
    by_cases hc33 : e2_ = (0 : Int32)
    · show Steps p.tables e below (T23.setTop (mkF m 13 #[.val (.ref a2_0), .val (.int (2 : Int32))] [(.int e2_), (.int (2 : Int32)), (.ref a2_0)])) _
      refine XS.ifNo X23.here hx rfl (hb hby d2_13) rfl ((if0 _ _).trans (teq hc33).2) ?_
      show Steps p.tables e below (T23.setTop (mkF m 16 #[.val (.ref a2_0), .val (.int (2 : Int32))] [(.int (2 : Int32)), (.ref a2_0)])) _
      refine XS.iconst X23.here hx rfl (hb hby d2_16) ?_
      show Steps p.tables e below (T23.setTop (mkF m 17 #[.val (.ref a2_0), .val (.int (2 : Int32))] [(.int (1 : Int32)), (.int (2 : Int32)), (.ref a2_0)])) _
      refine XS.goto X23.here hx rfl (pc0 := 17) (pc' := 21) rfl (hb hby d2_17) (by decide) (by decide) ?_
      have q36 : (bI (e2_ = (0 : Int32))) = (1 : Int32) := (bI_t hc33)
      exact castTop (g := (mkF m 21 #[.val (.ref a2_0), .val (.int (2 : Int32))] [(.int (1 : Int32)), (.int (2 : Int32)), (.ref a2_0)])) (g' := (mkF m 21 #[.val (.ref a2_0), .val (.int (2 : Int32))] [(.int (bI (e2_ = (0 : Int32)))), (.int (2 : Int32)), (.ref a2_0)])) (by simp only [q36]) k
    · show Steps p.tables e below (T23.setTop (mkF m 13 #[.val (.ref a2_0), .val (.int (2 : Int32))] [(.int e2_), (.int (2 : Int32)), (.ref a2_0)])) _
      refine XS.ifYes X23.here hx rfl (pc0 := 13) (pc' := 20) rfl (hb hby d2_13) rfl ((if0 _ _).trans (feq hc33).2) (by decide) (by decide) ?_
      show Steps p.tables e below (T23.setTop (mkF m 20 #[.val (.ref a2_0), .val (.int (2 : Int32))] [(.int (2 : Int32)), (.ref a2_0)])) _
      refine XS.iconst X23.here hx rfl (hb hby d2_20) ?_
      have q37 : (bI (e2_ = (0 : Int32))) = (0 : Int32) := (bI_f hc33)
      exact castTop (g := (mkF m 21 #[.val (.ref a2_0), .val (.int (2 : Int32))] [(.int (0 : Int32)), (.int (2 : Int32)), (.ref a2_0)])) (g' := (mkF m 21 #[.val (.ref a2_0), .val (.int (2 : Int32))] [(.int (bI (e2_ = (0 : Int32)))), (.int (2 : Int32)), (.ref a2_0)])) (by simp only [q37]) k)
  obtain ⟨cl38, Ar38, q38, S38, N38, H38, G38⟩ := id V24
  have hin38 : ¬ ((2 : Int32) < 0 ∨ cl38.slots.size ≤ ((2 : Int32)).toNatClampNeg) := inb_of S38 ⟨by decide, by decide⟩
  obtain ⟨T38, h38, X38, e38, W38, st38⟩ := stZ X23 hx hZ e23 Ar38 (j := (2 : Int32)) hin38 (g := (mkF m 21 #[.val (.ref a2_0), .val (.int (2 : Int32))] [(.int (bI (e2_ = (0 : Int32)))), (.int (2 : Int32)), (.ref a2_0)])) rfl rfl (hb hby d2_21)
  have V39 : Arv Z h38 a2_0 ka .boolean (7 : Int32) [(.int (bI (e0_ = (0 : Int32)))), (.int (bI (e1_ = (0 : Int32)))), (.int (nar .boolean (bI (e2_ = (0 : Int32))))), (.int e3_), (.int e4_), (.int e5_), (.int e6_)] (.int (0 : Int32)) := Arv.set Ar38 q38 S38 N38 H38 G38 (fits_nar_bool _) W38 2 rfl (Nat.le_of_ble_eq_true rfl)
  rw [bI_nar] at V39
  have pre40 : ∀ t, Steps p.tables e below (T38.setTop (mkF m 22 #[.val (.ref a2_0), .val (.int (2 : Int32))] [])) t → Steps p.tables e below (s₁.setTop (entryFrame m #[(.ref a2_0)] 2)) t := fun t k => pre35 t (by
    show Steps p.tables e below (T23.setTop (mkF m 21 #[.val (.ref a2_0), .val (.int (2 : Int32))] [(.int (bI (e2_ = (0 : Int32)))), (.int (2 : Int32)), (.ref a2_0)])) _
    refine st38 _ ?_
    exact k)
  have z41 := Nat.le_trans z26 (Keep.of_wr W38).1
  have k42 := k27.wr W38 (Or.inl (List.mem_of_getElem? (i := 0) rfl))
  have N43 := Fr.snoc X38 N28 g_a2_0
  obtain ⟨cl44, Ar44, q44, S44, N44, H44, G44⟩ := id V39
  have hin44 : ¬ ((2 : Int32) < 0 ∨ cl44.slots.size ≤ ((2 : Int32)).toNatClampNeg) := inb_of S44 ⟨by decide, by decide⟩
  have hat44 : cl44.slots[((2 : Int32)).toNatClampNeg]? = some (.int (bI (e2_ = (0 : Int32)))) := Has.at H44 hin44 rfl
  by_cases hc45 : e2_ = (0 : Int32)
  · obtain ⟨fs, hr, hrun, hended, hW, hsame⟩ := X38.leave (v := some (.int (1 : Int32))) (fun h => by rw [Bd.returns] at h; cases h)
    refine ⟨_, _, pre40 _ ?_, hrun, hended, _, _, rfl, ?_, ⟨_, rfl⟩, hW, hsame.mono (by decide) (by decide)⟩
    · show Steps p.tables e below (T38.setTop (mkF m 22 #[.val (.ref a2_0), .val (.int (2 : Int32))] [])) _
      refine XS.aloadN X38.here hx rfl (hb hby d2_22) rfl rfl ?_
      refine XS.iloadN X38.here hx rfl (hb hby d2_23) rfl ?_
      show Steps p.tables e below (T38.setTop (mkF m 24 #[.val (.ref a2_0), .val (.int (2 : Int32))] [(.int (2 : Int32)), (.ref a2_0)])) _
      refine X38.baloadBooleans hx (j := (2 : Int32)) (v := (.int (bI (e2_ = (0 : Int32))))) (by rw [e38]; exact Ar44.1) (State.isArrayOf_alike hZ.alike Ar44.2.1) Ar44.2.2 hin44 hat44 (g := (mkF m 24 #[.val (.ref a2_0), .val (.int (2 : Int32))] [(.int (2 : Int32)), (.ref a2_0)])) rfl rfl (hb hby d2_24) _ ?_
      show Steps p.tables e below (T38.setTop (mkF m 25 #[.val (.ref a2_0), .val (.int (2 : Int32))] [(.int (bI (e2_ = (0 : Int32))))])) _
      refine XS.ifNo X38.here hx rfl (hb hby d2_25) rfl ((if0 _ _).trans (feq (bI_n hc45)).1) ?_
      show Steps p.tables e below (T38.setTop (mkF m 28 #[.val (.ref a2_0), .val (.int (2 : Int32))] [])) _
      refine XS.iconst X38.here hx rfl (hb hby d2_28) ?_
      show Steps p.tables e below (T38.setTop (mkF m 29 #[.val (.ref a2_0), .val (.int (2 : Int32))] [(.int (1 : Int32))])) _
      exact retN X38 hx (t := .boolean) Bd.returns (by simp) (hb hby d2_29) hr
    · show Q2_7 Z a2_0 ka e0_ e1_ e2_ e3_ e4_ e5_ e6_ h0 n0 _ T38.heap _
      rw [e38]
      exact ⟨(congrArg (fun z => some (Value.int z)) ((bI_t (Or.inr (Or.inr (Or.inl hc45)))) : (bI ((e0_ = (0 : Int32)) ∨ ((e1_ = (0 : Int32)) ∨ ((e2_ = (0 : Int32)) ∨ ((e3_ = (0 : Int32)) ∨ ((e4_ = (0 : Int32)) ∨ ((e5_ = (0 : Int32)) ∨ (e6_ = (0 : Int32))))))))) = (1 : Int32)).symm), N43, k42, (by rw [show (if e0_ = (0 : Int32) then e1_ else (bI (e1_ = (0 : Int32)))) = (bI (e1_ = (0 : Int32))) from (if_neg hc15), show (if e0_ = (0 : Int32) then e2_ else (if e1_ = (0 : Int32) then e2_ else (bI (e2_ = (0 : Int32))))) = (bI (e2_ = (0 : Int32))) from ((if_neg hc15).trans (if_neg hc30)), show (if e0_ = (0 : Int32) then e3_ else (if e1_ = (0 : Int32) then e3_ else (if e2_ = (0 : Int32) then e3_ else (bI (e3_ = (0 : Int32)))))) = e3_ from ((if_neg hc15).trans ((if_neg hc30).trans (if_pos hc45))), show (if e0_ = (0 : Int32) then e4_ else (if e1_ = (0 : Int32) then e4_ else (if e2_ = (0 : Int32) then e4_ else (if e3_ = (0 : Int32) then e4_ else (bI (e4_ = (0 : Int32))))))) = e4_ from ((if_neg hc15).trans ((if_neg hc30).trans (if_pos hc45))), show (if e0_ = (0 : Int32) then e5_ else (if e1_ = (0 : Int32) then e5_ else (if e2_ = (0 : Int32) then e5_ else (if e3_ = (0 : Int32) then e5_ else (if e4_ = (0 : Int32) then e5_ else (bI (e5_ = (0 : Int32)))))))) = e5_ from ((if_neg hc15).trans ((if_neg hc30).trans (if_pos hc45))), show (if e0_ = (0 : Int32) then e6_ else (if e1_ = (0 : Int32) then e6_ else (if e2_ = (0 : Int32) then e6_ else (if e3_ = (0 : Int32) then e6_ else (if e4_ = (0 : Int32) then e6_ else (if e5_ = (0 : Int32) then e6_ else (bI (e6_ = (0 : Int32))))))))) = e6_ from ((if_neg hc15).trans ((if_neg hc30).trans (if_pos hc45)))]; exact V39)⟩
  obtain ⟨cl46, Ar46, q46, S46, N46, H46, G46⟩ := id V39
  obtain ⟨cl47, Ar47, q47, S47, N47, H47, G47⟩ := id V39
  have hin47 : ¬ ((3 : Int32) < 0 ∨ cl47.slots.size ≤ ((3 : Int32)).toNatClampNeg) := inb_of S47 ⟨by decide, by decide⟩
  have hat47 : cl47.slots[((3 : Int32)).toNatClampNeg]? = some (.int e3_) := Has.at H47 hin47 rfl
  have pre49 : ∀ t, Steps p.tables e below (T38.setTop (mkF m 13 #[.val (.ref a2_0), .val (.int (3 : Int32))] [(.int e3_), (.int (3 : Int32)), (.ref a2_0)])) t → Steps p.tables e below (s₁.setTop (entryFrame m #[(.ref a2_0)] 2)) t := fun t k => pre40 t (by
    show Steps p.tables e below (T38.setTop (mkF m 22 #[.val (.ref a2_0), .val (.int (2 : Int32))] [])) _
    refine XS.aloadN X38.here hx rfl (hb hby d2_22) rfl rfl ?_
    refine XS.iloadN X38.here hx rfl (hb hby d2_23) rfl ?_
    show Steps p.tables e below (T38.setTop (mkF m 24 #[.val (.ref a2_0), .val (.int (2 : Int32))] [(.int (2 : Int32)), (.ref a2_0)])) _
    refine X38.baloadBooleans hx (j := (2 : Int32)) (v := (.int (bI (e2_ = (0 : Int32))))) (by rw [e38]; exact Ar44.1) (State.isArrayOf_alike hZ.alike Ar44.2.1) Ar44.2.2 hin44 hat44 (g := (mkF m 24 #[.val (.ref a2_0), .val (.int (2 : Int32))] [(.int (2 : Int32)), (.ref a2_0)])) rfl rfl (hb hby d2_24) _ ?_
    show Steps p.tables e below (T38.setTop (mkF m 25 #[.val (.ref a2_0), .val (.int (2 : Int32))] [(.int (bI (e2_ = (0 : Int32))))])) _
    refine XS.ifYes X38.here hx rfl (pc0 := 25) (pc' := 30) rfl (hb hby d2_25) rfl ((if0 _ _).trans (teq (bI_f hc45)).1) (by decide) (by decide) ?_
    show Steps p.tables e below (T38.setTop (mkF m 30 #[.val (.ref a2_0), .val (.int (2 : Int32))] [])) _
    refine XS.iinc X38.here hx rfl (hb hby d2_30) rfl (l' := #[.val (.ref a2_0), .val (.int (3 : Int32))]) rfl ?_
    show Steps p.tables e below (T38.setTop (mkF m 33 #[.val (.ref a2_0), .val (.int (3 : Int32))] [])) _
    refine XS.goto X38.here hx rfl (pc0 := 33) (pc' := 2) rfl (hb hby d2_33) (by decide) (by decide) ?_
    refine XS.iloadN X38.here hx rfl (hb hby d2_2) rfl ?_
    refine XS.aloadN X38.here hx rfl (hb hby d2_3) rfl rfl ?_
    show Steps p.tables e below (T38.setTop (mkF m 4 #[.val (.ref a2_0), .val (.int (3 : Int32))] [(.ref a2_0), (.int (3 : Int32))])) _
    refine X38.arraylength hx (by rw [e38]; exact Ar46.1) (State.isArrayOf_alike hZ.alike Ar46.2.1) (g := (mkF m 4 #[.val (.ref a2_0), .val (.int (3 : Int32))] [(.ref a2_0), (.int (3 : Int32))])) rfl rfl (hb hby d2_4) _ ?_
    rw [len_of S46 N46]
    show Steps p.tables e below (T38.setTop (mkF m 5 #[.val (.ref a2_0), .val (.int (3 : Int32))] [(.int (7 : Int32)), (.int (3 : Int32))])) _
    refine XS.icmpNo X38.here hx rfl (hb hby d2_5) rfl (tlt (by decide : (3 : Int32) < (7 : Int32))).2.1 ?_
    show Steps p.tables e below (T38.setTop (mkF m 8 #[.val (.ref a2_0), .val (.int (3 : Int32))] [])) _
    refine XS.aloadN X38.here hx rfl (hb hby d2_8) rfl rfl ?_
    refine XS.iloadN X38.here hx rfl (hb hby d2_9) rfl ?_
    refine XS.aloadN X38.here hx rfl (hb hby d2_10) rfl rfl ?_
    refine XS.iloadN X38.here hx rfl (hb hby d2_11) rfl ?_
    show Steps p.tables e below (T38.setTop (mkF m 12 #[.val (.ref a2_0), .val (.int (3 : Int32))] [(.int (3 : Int32)), (.ref a2_0), (.int (3 : Int32)), (.ref a2_0)])) _
    refine X38.baloadBooleans hx (j := (3 : Int32)) (v := (.int e3_)) (by rw [e38]; exact Ar47.1) (State.isArrayOf_alike hZ.alike Ar47.2.1) Ar47.2.2 hin47 hat47 (g := (mkF m 12 #[.val (.ref a2_0), .val (.int (3 : Int32))] [(.int (3 : Int32)), (.ref a2_0), (.int (3 : Int32)), (.ref a2_0)])) rfl rfl (hb hby d2_12) _ ?_
    exact k)
  have pre50 : ∀ t, Steps p.tables e below (T38.setTop (mkF m 21 #[.val (.ref a2_0), .val (.int (3 : Int32))] [(.int (bI (e3_ = (0 : Int32)))), (.int (3 : Int32)), (.ref a2_0)])) t → Steps p.tables e below (s₁.setTop (entryFrame m #[(.ref a2_0)] 2)) t := fun t k => pre49 t (by
    by_cases hc48 : e3_ = (0 : Int32)
    · show Steps p.tables e below (T38.setTop (mkF m 13 #[.val (.ref a2_0), .val (.int (3 : Int32))] [(.int e3_), (.int (3 : Int32)), (.ref a2_0)])) _
      refine XS.ifNo X38.here hx rfl (hb hby d2_13) rfl ((if0 _ _).trans (teq hc48).2) ?_
      show Steps p.tables e below (T38.setTop (mkF m 16 #[.val (.ref a2_0), .val (.int (3 : Int32))] [(.int (3 : Int32)), (.ref a2_0)])) _
      refine XS.iconst X38.here hx rfl (hb hby d2_16) ?_
      show Steps p.tables e below (T38.setTop (mkF m 17 #[.val (.ref a2_0), .val (.int (3 : Int32))] [(.int (1 : Int32)), (.int (3 : Int32)), (.ref a2_0)])) _
      refine XS.goto X38.here hx rfl (pc0 := 17) (pc' := 21) rfl (hb hby d2_17) (by decide) (by decide) ?_
      have q51 : (bI (e3_ = (0 : Int32))) = (1 : Int32) := (bI_t hc48)
      exact castTop (g := (mkF m 21 #[.val (.ref a2_0), .val (.int (3 : Int32))] [(.int (1 : Int32)), (.int (3 : Int32)), (.ref a2_0)])) (g' := (mkF m 21 #[.val (.ref a2_0), .val (.int (3 : Int32))] [(.int (bI (e3_ = (0 : Int32)))), (.int (3 : Int32)), (.ref a2_0)])) (by simp only [q51]) k
    · show Steps p.tables e below (T38.setTop (mkF m 13 #[.val (.ref a2_0), .val (.int (3 : Int32))] [(.int e3_), (.int (3 : Int32)), (.ref a2_0)])) _
      refine XS.ifYes X38.here hx rfl (pc0 := 13) (pc' := 20) rfl (hb hby d2_13) rfl ((if0 _ _).trans (feq hc48).2) (by decide) (by decide) ?_
      show Steps p.tables e below (T38.setTop (mkF m 20 #[.val (.ref a2_0), .val (.int (3 : Int32))] [(.int (3 : Int32)), (.ref a2_0)])) _
      refine XS.iconst X38.here hx rfl (hb hby d2_20) ?_
      have q52 : (bI (e3_ = (0 : Int32))) = (0 : Int32) := (bI_f hc48)
      exact castTop (g := (mkF m 21 #[.val (.ref a2_0), .val (.int (3 : Int32))] [(.int (0 : Int32)), (.int (3 : Int32)), (.ref a2_0)])) (g' := (mkF m 21 #[.val (.ref a2_0), .val (.int (3 : Int32))] [(.int (bI (e3_ = (0 : Int32)))), (.int (3 : Int32)), (.ref a2_0)])) (by simp only [q52]) k)
  obtain ⟨cl53, Ar53, q53, S53, N53, H53, G53⟩ := id V39
  have hin53 : ¬ ((3 : Int32) < 0 ∨ cl53.slots.size ≤ ((3 : Int32)).toNatClampNeg) := inb_of S53 ⟨by decide, by decide⟩
  obtain ⟨T53, h53, X53, e53, W53, st53⟩ := stZ X38 hx hZ e38 Ar53 (j := (3 : Int32)) hin53 (g := (mkF m 21 #[.val (.ref a2_0), .val (.int (3 : Int32))] [(.int (bI (e3_ = (0 : Int32)))), (.int (3 : Int32)), (.ref a2_0)])) rfl rfl (hb hby d2_21)
  have V54 : Arv Z h53 a2_0 ka .boolean (7 : Int32) [(.int (bI (e0_ = (0 : Int32)))), (.int (bI (e1_ = (0 : Int32)))), (.int (bI (e2_ = (0 : Int32)))), (.int (nar .boolean (bI (e3_ = (0 : Int32))))), (.int e4_), (.int e5_), (.int e6_)] (.int (0 : Int32)) := Arv.set Ar53 q53 S53 N53 H53 G53 (fits_nar_bool _) W53 3 rfl (Nat.le_of_ble_eq_true rfl)
  rw [bI_nar] at V54
  have pre55 : ∀ t, Steps p.tables e below (T53.setTop (mkF m 22 #[.val (.ref a2_0), .val (.int (3 : Int32))] [])) t → Steps p.tables e below (s₁.setTop (entryFrame m #[(.ref a2_0)] 2)) t := fun t k => pre50 t (by
    show Steps p.tables e below (T38.setTop (mkF m 21 #[.val (.ref a2_0), .val (.int (3 : Int32))] [(.int (bI (e3_ = (0 : Int32)))), (.int (3 : Int32)), (.ref a2_0)])) _
    refine st53 _ ?_
    exact k)
  have z56 := Nat.le_trans z41 (Keep.of_wr W53).1
  have k57 := k42.wr W53 (Or.inl (List.mem_of_getElem? (i := 0) rfl))
  have N58 := Fr.snoc X53 N43 g_a2_0
  obtain ⟨cl59, Ar59, q59, S59, N59, H59, G59⟩ := id V54
  have hin59 : ¬ ((3 : Int32) < 0 ∨ cl59.slots.size ≤ ((3 : Int32)).toNatClampNeg) := inb_of S59 ⟨by decide, by decide⟩
  have hat59 : cl59.slots[((3 : Int32)).toNatClampNeg]? = some (.int (bI (e3_ = (0 : Int32)))) := Has.at H59 hin59 rfl
  by_cases hc60 : e3_ = (0 : Int32)
  · obtain ⟨fs, hr, hrun, hended, hW, hsame⟩ := X53.leave (v := some (.int (1 : Int32))) (fun h => by rw [Bd.returns] at h; cases h)
    refine ⟨_, _, pre55 _ ?_, hrun, hended, _, _, rfl, ?_, ⟨_, rfl⟩, hW, hsame.mono (by decide) (by decide)⟩
    · show Steps p.tables e below (T53.setTop (mkF m 22 #[.val (.ref a2_0), .val (.int (3 : Int32))] [])) _
      refine XS.aloadN X53.here hx rfl (hb hby d2_22) rfl rfl ?_
      refine XS.iloadN X53.here hx rfl (hb hby d2_23) rfl ?_
      show Steps p.tables e below (T53.setTop (mkF m 24 #[.val (.ref a2_0), .val (.int (3 : Int32))] [(.int (3 : Int32)), (.ref a2_0)])) _
      refine X53.baloadBooleans hx (j := (3 : Int32)) (v := (.int (bI (e3_ = (0 : Int32))))) (by rw [e53]; exact Ar59.1) (State.isArrayOf_alike hZ.alike Ar59.2.1) Ar59.2.2 hin59 hat59 (g := (mkF m 24 #[.val (.ref a2_0), .val (.int (3 : Int32))] [(.int (3 : Int32)), (.ref a2_0)])) rfl rfl (hb hby d2_24) _ ?_
      show Steps p.tables e below (T53.setTop (mkF m 25 #[.val (.ref a2_0), .val (.int (3 : Int32))] [(.int (bI (e3_ = (0 : Int32))))])) _
      refine XS.ifNo X53.here hx rfl (hb hby d2_25) rfl ((if0 _ _).trans (feq (bI_n hc60)).1) ?_
      show Steps p.tables e below (T53.setTop (mkF m 28 #[.val (.ref a2_0), .val (.int (3 : Int32))] [])) _
      refine XS.iconst X53.here hx rfl (hb hby d2_28) ?_
      show Steps p.tables e below (T53.setTop (mkF m 29 #[.val (.ref a2_0), .val (.int (3 : Int32))] [(.int (1 : Int32))])) _
      exact retN X53 hx (t := .boolean) Bd.returns (by simp) (hb hby d2_29) hr
    · show Q2_7 Z a2_0 ka e0_ e1_ e2_ e3_ e4_ e5_ e6_ h0 n0 _ T53.heap _
      rw [e53]
      exact ⟨(congrArg (fun z => some (Value.int z)) ((bI_t (Or.inr (Or.inr (Or.inr (Or.inl hc60))))) : (bI ((e0_ = (0 : Int32)) ∨ ((e1_ = (0 : Int32)) ∨ ((e2_ = (0 : Int32)) ∨ ((e3_ = (0 : Int32)) ∨ ((e4_ = (0 : Int32)) ∨ ((e5_ = (0 : Int32)) ∨ (e6_ = (0 : Int32))))))))) = (1 : Int32)).symm), N58, k57, (by rw [show (if e0_ = (0 : Int32) then e1_ else (bI (e1_ = (0 : Int32)))) = (bI (e1_ = (0 : Int32))) from (if_neg hc15), show (if e0_ = (0 : Int32) then e2_ else (if e1_ = (0 : Int32) then e2_ else (bI (e2_ = (0 : Int32))))) = (bI (e2_ = (0 : Int32))) from ((if_neg hc15).trans (if_neg hc30)), show (if e0_ = (0 : Int32) then e3_ else (if e1_ = (0 : Int32) then e3_ else (if e2_ = (0 : Int32) then e3_ else (bI (e3_ = (0 : Int32)))))) = (bI (e3_ = (0 : Int32))) from ((if_neg hc15).trans ((if_neg hc30).trans (if_neg hc45))), show (if e0_ = (0 : Int32) then e4_ else (if e1_ = (0 : Int32) then e4_ else (if e2_ = (0 : Int32) then e4_ else (if e3_ = (0 : Int32) then e4_ else (bI (e4_ = (0 : Int32))))))) = e4_ from ((if_neg hc15).trans ((if_neg hc30).trans ((if_neg hc45).trans (if_pos hc60)))), show (if e0_ = (0 : Int32) then e5_ else (if e1_ = (0 : Int32) then e5_ else (if e2_ = (0 : Int32) then e5_ else (if e3_ = (0 : Int32) then e5_ else (if e4_ = (0 : Int32) then e5_ else (bI (e5_ = (0 : Int32)))))))) = e5_ from ((if_neg hc15).trans ((if_neg hc30).trans ((if_neg hc45).trans (if_pos hc60)))), show (if e0_ = (0 : Int32) then e6_ else (if e1_ = (0 : Int32) then e6_ else (if e2_ = (0 : Int32) then e6_ else (if e3_ = (0 : Int32) then e6_ else (if e4_ = (0 : Int32) then e6_ else (if e5_ = (0 : Int32) then e6_ else (bI (e6_ = (0 : Int32))))))))) = e6_ from ((if_neg hc15).trans ((if_neg hc30).trans ((if_neg hc45).trans (if_pos hc60))))]; exact V54)⟩
  obtain ⟨cl61, Ar61, q61, S61, N61, H61, G61⟩ := id V54
  obtain ⟨cl62, Ar62, q62, S62, N62, H62, G62⟩ := id V54
  have hin62 : ¬ ((4 : Int32) < 0 ∨ cl62.slots.size ≤ ((4 : Int32)).toNatClampNeg) := inb_of S62 ⟨by decide, by decide⟩
  have hat62 : cl62.slots[((4 : Int32)).toNatClampNeg]? = some (.int e4_) := Has.at H62 hin62 rfl
  have pre64 : ∀ t, Steps p.tables e below (T53.setTop (mkF m 13 #[.val (.ref a2_0), .val (.int (4 : Int32))] [(.int e4_), (.int (4 : Int32)), (.ref a2_0)])) t → Steps p.tables e below (s₁.setTop (entryFrame m #[(.ref a2_0)] 2)) t := fun t k => pre55 t (by
    show Steps p.tables e below (T53.setTop (mkF m 22 #[.val (.ref a2_0), .val (.int (3 : Int32))] [])) _
    refine XS.aloadN X53.here hx rfl (hb hby d2_22) rfl rfl ?_
    refine XS.iloadN X53.here hx rfl (hb hby d2_23) rfl ?_
    show Steps p.tables e below (T53.setTop (mkF m 24 #[.val (.ref a2_0), .val (.int (3 : Int32))] [(.int (3 : Int32)), (.ref a2_0)])) _
    refine X53.baloadBooleans hx (j := (3 : Int32)) (v := (.int (bI (e3_ = (0 : Int32))))) (by rw [e53]; exact Ar59.1) (State.isArrayOf_alike hZ.alike Ar59.2.1) Ar59.2.2 hin59 hat59 (g := (mkF m 24 #[.val (.ref a2_0), .val (.int (3 : Int32))] [(.int (3 : Int32)), (.ref a2_0)])) rfl rfl (hb hby d2_24) _ ?_
    show Steps p.tables e below (T53.setTop (mkF m 25 #[.val (.ref a2_0), .val (.int (3 : Int32))] [(.int (bI (e3_ = (0 : Int32))))])) _
    refine XS.ifYes X53.here hx rfl (pc0 := 25) (pc' := 30) rfl (hb hby d2_25) rfl ((if0 _ _).trans (teq (bI_f hc60)).1) (by decide) (by decide) ?_
    show Steps p.tables e below (T53.setTop (mkF m 30 #[.val (.ref a2_0), .val (.int (3 : Int32))] [])) _
    refine XS.iinc X53.here hx rfl (hb hby d2_30) rfl (l' := #[.val (.ref a2_0), .val (.int (4 : Int32))]) rfl ?_
    show Steps p.tables e below (T53.setTop (mkF m 33 #[.val (.ref a2_0), .val (.int (4 : Int32))] [])) _
    refine XS.goto X53.here hx rfl (pc0 := 33) (pc' := 2) rfl (hb hby d2_33) (by decide) (by decide) ?_
    refine XS.iloadN X53.here hx rfl (hb hby d2_2) rfl ?_
    refine XS.aloadN X53.here hx rfl (hb hby d2_3) rfl rfl ?_
    show Steps p.tables e below (T53.setTop (mkF m 4 #[.val (.ref a2_0), .val (.int (4 : Int32))] [(.ref a2_0), (.int (4 : Int32))])) _
    refine X53.arraylength hx (by rw [e53]; exact Ar61.1) (State.isArrayOf_alike hZ.alike Ar61.2.1) (g := (mkF m 4 #[.val (.ref a2_0), .val (.int (4 : Int32))] [(.ref a2_0), (.int (4 : Int32))])) rfl rfl (hb hby d2_4) _ ?_
    rw [len_of S61 N61]
    show Steps p.tables e below (T53.setTop (mkF m 5 #[.val (.ref a2_0), .val (.int (4 : Int32))] [(.int (7 : Int32)), (.int (4 : Int32))])) _
    refine XS.icmpNo X53.here hx rfl (hb hby d2_5) rfl (tlt (by decide : (4 : Int32) < (7 : Int32))).2.1 ?_
    show Steps p.tables e below (T53.setTop (mkF m 8 #[.val (.ref a2_0), .val (.int (4 : Int32))] [])) _
    refine XS.aloadN X53.here hx rfl (hb hby d2_8) rfl rfl ?_
    refine XS.iloadN X53.here hx rfl (hb hby d2_9) rfl ?_
    refine XS.aloadN X53.here hx rfl (hb hby d2_10) rfl rfl ?_
    refine XS.iloadN X53.here hx rfl (hb hby d2_11) rfl ?_
    show Steps p.tables e below (T53.setTop (mkF m 12 #[.val (.ref a2_0), .val (.int (4 : Int32))] [(.int (4 : Int32)), (.ref a2_0), (.int (4 : Int32)), (.ref a2_0)])) _
    refine X53.baloadBooleans hx (j := (4 : Int32)) (v := (.int e4_)) (by rw [e53]; exact Ar62.1) (State.isArrayOf_alike hZ.alike Ar62.2.1) Ar62.2.2 hin62 hat62 (g := (mkF m 12 #[.val (.ref a2_0), .val (.int (4 : Int32))] [(.int (4 : Int32)), (.ref a2_0), (.int (4 : Int32)), (.ref a2_0)])) rfl rfl (hb hby d2_12) _ ?_
    exact k)
  have pre65 : ∀ t, Steps p.tables e below (T53.setTop (mkF m 21 #[.val (.ref a2_0), .val (.int (4 : Int32))] [(.int (bI (e4_ = (0 : Int32)))), (.int (4 : Int32)), (.ref a2_0)])) t → Steps p.tables e below (s₁.setTop (entryFrame m #[(.ref a2_0)] 2)) t := fun t k => pre64 t (by
    by_cases hc63 : e4_ = (0 : Int32)
    · show Steps p.tables e below (T53.setTop (mkF m 13 #[.val (.ref a2_0), .val (.int (4 : Int32))] [(.int e4_), (.int (4 : Int32)), (.ref a2_0)])) _
      refine XS.ifNo X53.here hx rfl (hb hby d2_13) rfl ((if0 _ _).trans (teq hc63).2) ?_
      show Steps p.tables e below (T53.setTop (mkF m 16 #[.val (.ref a2_0), .val (.int (4 : Int32))] [(.int (4 : Int32)), (.ref a2_0)])) _
      refine XS.iconst X53.here hx rfl (hb hby d2_16) ?_
      show Steps p.tables e below (T53.setTop (mkF m 17 #[.val (.ref a2_0), .val (.int (4 : Int32))] [(.int (1 : Int32)), (.int (4 : Int32)), (.ref a2_0)])) _
      refine XS.goto X53.here hx rfl (pc0 := 17) (pc' := 21) rfl (hb hby d2_17) (by decide) (by decide) ?_
      have q66 : (bI (e4_ = (0 : Int32))) = (1 : Int32) := (bI_t hc63)
      exact castTop (g := (mkF m 21 #[.val (.ref a2_0), .val (.int (4 : Int32))] [(.int (1 : Int32)), (.int (4 : Int32)), (.ref a2_0)])) (g' := (mkF m 21 #[.val (.ref a2_0), .val (.int (4 : Int32))] [(.int (bI (e4_ = (0 : Int32)))), (.int (4 : Int32)), (.ref a2_0)])) (by simp only [q66]) k
    · show Steps p.tables e below (T53.setTop (mkF m 13 #[.val (.ref a2_0), .val (.int (4 : Int32))] [(.int e4_), (.int (4 : Int32)), (.ref a2_0)])) _
      refine XS.ifYes X53.here hx rfl (pc0 := 13) (pc' := 20) rfl (hb hby d2_13) rfl ((if0 _ _).trans (feq hc63).2) (by decide) (by decide) ?_
      show Steps p.tables e below (T53.setTop (mkF m 20 #[.val (.ref a2_0), .val (.int (4 : Int32))] [(.int (4 : Int32)), (.ref a2_0)])) _
      refine XS.iconst X53.here hx rfl (hb hby d2_20) ?_
      have q67 : (bI (e4_ = (0 : Int32))) = (0 : Int32) := (bI_f hc63)
      exact castTop (g := (mkF m 21 #[.val (.ref a2_0), .val (.int (4 : Int32))] [(.int (0 : Int32)), (.int (4 : Int32)), (.ref a2_0)])) (g' := (mkF m 21 #[.val (.ref a2_0), .val (.int (4 : Int32))] [(.int (bI (e4_ = (0 : Int32)))), (.int (4 : Int32)), (.ref a2_0)])) (by simp only [q67]) k)
  obtain ⟨cl68, Ar68, q68, S68, N68, H68, G68⟩ := id V54
  have hin68 : ¬ ((4 : Int32) < 0 ∨ cl68.slots.size ≤ ((4 : Int32)).toNatClampNeg) := inb_of S68 ⟨by decide, by decide⟩
  obtain ⟨T68, h68, X68, e68, W68, st68⟩ := stZ X53 hx hZ e53 Ar68 (j := (4 : Int32)) hin68 (g := (mkF m 21 #[.val (.ref a2_0), .val (.int (4 : Int32))] [(.int (bI (e4_ = (0 : Int32)))), (.int (4 : Int32)), (.ref a2_0)])) rfl rfl (hb hby d2_21)
  have V69 : Arv Z h68 a2_0 ka .boolean (7 : Int32) [(.int (bI (e0_ = (0 : Int32)))), (.int (bI (e1_ = (0 : Int32)))), (.int (bI (e2_ = (0 : Int32)))), (.int (bI (e3_ = (0 : Int32)))), (.int (nar .boolean (bI (e4_ = (0 : Int32))))), (.int e5_), (.int e6_)] (.int (0 : Int32)) := Arv.set Ar68 q68 S68 N68 H68 G68 (fits_nar_bool _) W68 4 rfl (Nat.le_of_ble_eq_true rfl)
  rw [bI_nar] at V69
  have pre70 : ∀ t, Steps p.tables e below (T68.setTop (mkF m 22 #[.val (.ref a2_0), .val (.int (4 : Int32))] [])) t → Steps p.tables e below (s₁.setTop (entryFrame m #[(.ref a2_0)] 2)) t := fun t k => pre65 t (by
    show Steps p.tables e below (T53.setTop (mkF m 21 #[.val (.ref a2_0), .val (.int (4 : Int32))] [(.int (bI (e4_ = (0 : Int32)))), (.int (4 : Int32)), (.ref a2_0)])) _
    refine st68 _ ?_
    exact k)
  have z71 := Nat.le_trans z56 (Keep.of_wr W68).1
  have k72 := k57.wr W68 (Or.inl (List.mem_of_getElem? (i := 0) rfl))
  have N73 := Fr.snoc X68 N58 g_a2_0
  obtain ⟨cl74, Ar74, q74, S74, N74, H74, G74⟩ := id V69
  have hin74 : ¬ ((4 : Int32) < 0 ∨ cl74.slots.size ≤ ((4 : Int32)).toNatClampNeg) := inb_of S74 ⟨by decide, by decide⟩
  have hat74 : cl74.slots[((4 : Int32)).toNatClampNeg]? = some (.int (bI (e4_ = (0 : Int32)))) := Has.at H74 hin74 rfl
  by_cases hc75 : e4_ = (0 : Int32)
  · obtain ⟨fs, hr, hrun, hended, hW, hsame⟩ := X68.leave (v := some (.int (1 : Int32))) (fun h => by rw [Bd.returns] at h; cases h)
    refine ⟨_, _, pre70 _ ?_, hrun, hended, _, _, rfl, ?_, ⟨_, rfl⟩, hW, hsame.mono (by decide) (by decide)⟩
    · show Steps p.tables e below (T68.setTop (mkF m 22 #[.val (.ref a2_0), .val (.int (4 : Int32))] [])) _
      refine XS.aloadN X68.here hx rfl (hb hby d2_22) rfl rfl ?_
      refine XS.iloadN X68.here hx rfl (hb hby d2_23) rfl ?_
      show Steps p.tables e below (T68.setTop (mkF m 24 #[.val (.ref a2_0), .val (.int (4 : Int32))] [(.int (4 : Int32)), (.ref a2_0)])) _
      refine X68.baloadBooleans hx (j := (4 : Int32)) (v := (.int (bI (e4_ = (0 : Int32))))) (by rw [e68]; exact Ar74.1) (State.isArrayOf_alike hZ.alike Ar74.2.1) Ar74.2.2 hin74 hat74 (g := (mkF m 24 #[.val (.ref a2_0), .val (.int (4 : Int32))] [(.int (4 : Int32)), (.ref a2_0)])) rfl rfl (hb hby d2_24) _ ?_
      show Steps p.tables e below (T68.setTop (mkF m 25 #[.val (.ref a2_0), .val (.int (4 : Int32))] [(.int (bI (e4_ = (0 : Int32))))])) _
      refine XS.ifNo X68.here hx rfl (hb hby d2_25) rfl ((if0 _ _).trans (feq (bI_n hc75)).1) ?_
      show Steps p.tables e below (T68.setTop (mkF m 28 #[.val (.ref a2_0), .val (.int (4 : Int32))] [])) _
      refine XS.iconst X68.here hx rfl (hb hby d2_28) ?_
      show Steps p.tables e below (T68.setTop (mkF m 29 #[.val (.ref a2_0), .val (.int (4 : Int32))] [(.int (1 : Int32))])) _
      exact retN X68 hx (t := .boolean) Bd.returns (by simp) (hb hby d2_29) hr
    · show Q2_7 Z a2_0 ka e0_ e1_ e2_ e3_ e4_ e5_ e6_ h0 n0 _ T68.heap _
      rw [e68]
      exact ⟨(congrArg (fun z => some (Value.int z)) ((bI_t (Or.inr (Or.inr (Or.inr (Or.inr (Or.inl hc75)))))) : (bI ((e0_ = (0 : Int32)) ∨ ((e1_ = (0 : Int32)) ∨ ((e2_ = (0 : Int32)) ∨ ((e3_ = (0 : Int32)) ∨ ((e4_ = (0 : Int32)) ∨ ((e5_ = (0 : Int32)) ∨ (e6_ = (0 : Int32))))))))) = (1 : Int32)).symm), N73, k72, (by rw [show (if e0_ = (0 : Int32) then e1_ else (bI (e1_ = (0 : Int32)))) = (bI (e1_ = (0 : Int32))) from (if_neg hc15), show (if e0_ = (0 : Int32) then e2_ else (if e1_ = (0 : Int32) then e2_ else (bI (e2_ = (0 : Int32))))) = (bI (e2_ = (0 : Int32))) from ((if_neg hc15).trans (if_neg hc30)), show (if e0_ = (0 : Int32) then e3_ else (if e1_ = (0 : Int32) then e3_ else (if e2_ = (0 : Int32) then e3_ else (bI (e3_ = (0 : Int32)))))) = (bI (e3_ = (0 : Int32))) from ((if_neg hc15).trans ((if_neg hc30).trans (if_neg hc45))), show (if e0_ = (0 : Int32) then e4_ else (if e1_ = (0 : Int32) then e4_ else (if e2_ = (0 : Int32) then e4_ else (if e3_ = (0 : Int32) then e4_ else (bI (e4_ = (0 : Int32))))))) = (bI (e4_ = (0 : Int32))) from ((if_neg hc15).trans ((if_neg hc30).trans ((if_neg hc45).trans (if_neg hc60)))), show (if e0_ = (0 : Int32) then e5_ else (if e1_ = (0 : Int32) then e5_ else (if e2_ = (0 : Int32) then e5_ else (if e3_ = (0 : Int32) then e5_ else (if e4_ = (0 : Int32) then e5_ else (bI (e5_ = (0 : Int32)))))))) = e5_ from ((if_neg hc15).trans ((if_neg hc30).trans ((if_neg hc45).trans ((if_neg hc60).trans (if_pos hc75))))), show (if e0_ = (0 : Int32) then e6_ else (if e1_ = (0 : Int32) then e6_ else (if e2_ = (0 : Int32) then e6_ else (if e3_ = (0 : Int32) then e6_ else (if e4_ = (0 : Int32) then e6_ else (if e5_ = (0 : Int32) then e6_ else (bI (e6_ = (0 : Int32))))))))) = e6_ from ((if_neg hc15).trans ((if_neg hc30).trans ((if_neg hc45).trans ((if_neg hc60).trans (if_pos hc75)))))]; exact V69)⟩
  obtain ⟨cl76, Ar76, q76, S76, N76, H76, G76⟩ := id V69
  obtain ⟨cl77, Ar77, q77, S77, N77, H77, G77⟩ := id V69
  have hin77 : ¬ ((5 : Int32) < 0 ∨ cl77.slots.size ≤ ((5 : Int32)).toNatClampNeg) := inb_of S77 ⟨by decide, by decide⟩
  have hat77 : cl77.slots[((5 : Int32)).toNatClampNeg]? = some (.int e5_) := Has.at H77 hin77 rfl
  have pre79 : ∀ t, Steps p.tables e below (T68.setTop (mkF m 13 #[.val (.ref a2_0), .val (.int (5 : Int32))] [(.int e5_), (.int (5 : Int32)), (.ref a2_0)])) t → Steps p.tables e below (s₁.setTop (entryFrame m #[(.ref a2_0)] 2)) t := fun t k => pre70 t (by
    show Steps p.tables e below (T68.setTop (mkF m 22 #[.val (.ref a2_0), .val (.int (4 : Int32))] [])) _
    refine XS.aloadN X68.here hx rfl (hb hby d2_22) rfl rfl ?_
    refine XS.iloadN X68.here hx rfl (hb hby d2_23) rfl ?_
    show Steps p.tables e below (T68.setTop (mkF m 24 #[.val (.ref a2_0), .val (.int (4 : Int32))] [(.int (4 : Int32)), (.ref a2_0)])) _
    refine X68.baloadBooleans hx (j := (4 : Int32)) (v := (.int (bI (e4_ = (0 : Int32))))) (by rw [e68]; exact Ar74.1) (State.isArrayOf_alike hZ.alike Ar74.2.1) Ar74.2.2 hin74 hat74 (g := (mkF m 24 #[.val (.ref a2_0), .val (.int (4 : Int32))] [(.int (4 : Int32)), (.ref a2_0)])) rfl rfl (hb hby d2_24) _ ?_
    show Steps p.tables e below (T68.setTop (mkF m 25 #[.val (.ref a2_0), .val (.int (4 : Int32))] [(.int (bI (e4_ = (0 : Int32))))])) _
    refine XS.ifYes X68.here hx rfl (pc0 := 25) (pc' := 30) rfl (hb hby d2_25) rfl ((if0 _ _).trans (teq (bI_f hc75)).1) (by decide) (by decide) ?_
    show Steps p.tables e below (T68.setTop (mkF m 30 #[.val (.ref a2_0), .val (.int (4 : Int32))] [])) _
    refine XS.iinc X68.here hx rfl (hb hby d2_30) rfl (l' := #[.val (.ref a2_0), .val (.int (5 : Int32))]) rfl ?_
    show Steps p.tables e below (T68.setTop (mkF m 33 #[.val (.ref a2_0), .val (.int (5 : Int32))] [])) _
    refine XS.goto X68.here hx rfl (pc0 := 33) (pc' := 2) rfl (hb hby d2_33) (by decide) (by decide) ?_
    refine XS.iloadN X68.here hx rfl (hb hby d2_2) rfl ?_
    refine XS.aloadN X68.here hx rfl (hb hby d2_3) rfl rfl ?_
    show Steps p.tables e below (T68.setTop (mkF m 4 #[.val (.ref a2_0), .val (.int (5 : Int32))] [(.ref a2_0), (.int (5 : Int32))])) _
    refine X68.arraylength hx (by rw [e68]; exact Ar76.1) (State.isArrayOf_alike hZ.alike Ar76.2.1) (g := (mkF m 4 #[.val (.ref a2_0), .val (.int (5 : Int32))] [(.ref a2_0), (.int (5 : Int32))])) rfl rfl (hb hby d2_4) _ ?_
    rw [len_of S76 N76]
    show Steps p.tables e below (T68.setTop (mkF m 5 #[.val (.ref a2_0), .val (.int (5 : Int32))] [(.int (7 : Int32)), (.int (5 : Int32))])) _
    refine XS.icmpNo X68.here hx rfl (hb hby d2_5) rfl (tlt (by decide : (5 : Int32) < (7 : Int32))).2.1 ?_
    show Steps p.tables e below (T68.setTop (mkF m 8 #[.val (.ref a2_0), .val (.int (5 : Int32))] [])) _
    refine XS.aloadN X68.here hx rfl (hb hby d2_8) rfl rfl ?_
    refine XS.iloadN X68.here hx rfl (hb hby d2_9) rfl ?_
    refine XS.aloadN X68.here hx rfl (hb hby d2_10) rfl rfl ?_
    refine XS.iloadN X68.here hx rfl (hb hby d2_11) rfl ?_
    show Steps p.tables e below (T68.setTop (mkF m 12 #[.val (.ref a2_0), .val (.int (5 : Int32))] [(.int (5 : Int32)), (.ref a2_0), (.int (5 : Int32)), (.ref a2_0)])) _
    refine X68.baloadBooleans hx (j := (5 : Int32)) (v := (.int e5_)) (by rw [e68]; exact Ar77.1) (State.isArrayOf_alike hZ.alike Ar77.2.1) Ar77.2.2 hin77 hat77 (g := (mkF m 12 #[.val (.ref a2_0), .val (.int (5 : Int32))] [(.int (5 : Int32)), (.ref a2_0), (.int (5 : Int32)), (.ref a2_0)])) rfl rfl (hb hby d2_12) _ ?_
    exact k)
  have pre80 : ∀ t, Steps p.tables e below (T68.setTop (mkF m 21 #[.val (.ref a2_0), .val (.int (5 : Int32))] [(.int (bI (e5_ = (0 : Int32)))), (.int (5 : Int32)), (.ref a2_0)])) t → Steps p.tables e below (s₁.setTop (entryFrame m #[(.ref a2_0)] 2)) t := fun t k => pre79 t (by
    by_cases hc78 : e5_ = (0 : Int32)
    · show Steps p.tables e below (T68.setTop (mkF m 13 #[.val (.ref a2_0), .val (.int (5 : Int32))] [(.int e5_), (.int (5 : Int32)), (.ref a2_0)])) _
      refine XS.ifNo X68.here hx rfl (hb hby d2_13) rfl ((if0 _ _).trans (teq hc78).2) ?_
      show Steps p.tables e below (T68.setTop (mkF m 16 #[.val (.ref a2_0), .val (.int (5 : Int32))] [(.int (5 : Int32)), (.ref a2_0)])) _
      refine XS.iconst X68.here hx rfl (hb hby d2_16) ?_
      show Steps p.tables e below (T68.setTop (mkF m 17 #[.val (.ref a2_0), .val (.int (5 : Int32))] [(.int (1 : Int32)), (.int (5 : Int32)), (.ref a2_0)])) _
      refine XS.goto X68.here hx rfl (pc0 := 17) (pc' := 21) rfl (hb hby d2_17) (by decide) (by decide) ?_
      have q81 : (bI (e5_ = (0 : Int32))) = (1 : Int32) := (bI_t hc78)
      exact castTop (g := (mkF m 21 #[.val (.ref a2_0), .val (.int (5 : Int32))] [(.int (1 : Int32)), (.int (5 : Int32)), (.ref a2_0)])) (g' := (mkF m 21 #[.val (.ref a2_0), .val (.int (5 : Int32))] [(.int (bI (e5_ = (0 : Int32)))), (.int (5 : Int32)), (.ref a2_0)])) (by simp only [q81]) k
    · show Steps p.tables e below (T68.setTop (mkF m 13 #[.val (.ref a2_0), .val (.int (5 : Int32))] [(.int e5_), (.int (5 : Int32)), (.ref a2_0)])) _
      refine XS.ifYes X68.here hx rfl (pc0 := 13) (pc' := 20) rfl (hb hby d2_13) rfl ((if0 _ _).trans (feq hc78).2) (by decide) (by decide) ?_
      show Steps p.tables e below (T68.setTop (mkF m 20 #[.val (.ref a2_0), .val (.int (5 : Int32))] [(.int (5 : Int32)), (.ref a2_0)])) _
      refine XS.iconst X68.here hx rfl (hb hby d2_20) ?_
      have q82 : (bI (e5_ = (0 : Int32))) = (0 : Int32) := (bI_f hc78)
      exact castTop (g := (mkF m 21 #[.val (.ref a2_0), .val (.int (5 : Int32))] [(.int (0 : Int32)), (.int (5 : Int32)), (.ref a2_0)])) (g' := (mkF m 21 #[.val (.ref a2_0), .val (.int (5 : Int32))] [(.int (bI (e5_ = (0 : Int32)))), (.int (5 : Int32)), (.ref a2_0)])) (by simp only [q82]) k)
  obtain ⟨cl83, Ar83, q83, S83, N83, H83, G83⟩ := id V69
  have hin83 : ¬ ((5 : Int32) < 0 ∨ cl83.slots.size ≤ ((5 : Int32)).toNatClampNeg) := inb_of S83 ⟨by decide, by decide⟩
  obtain ⟨T83, h83, X83, e83, W83, st83⟩ := stZ X68 hx hZ e68 Ar83 (j := (5 : Int32)) hin83 (g := (mkF m 21 #[.val (.ref a2_0), .val (.int (5 : Int32))] [(.int (bI (e5_ = (0 : Int32)))), (.int (5 : Int32)), (.ref a2_0)])) rfl rfl (hb hby d2_21)
  have V84 : Arv Z h83 a2_0 ka .boolean (7 : Int32) [(.int (bI (e0_ = (0 : Int32)))), (.int (bI (e1_ = (0 : Int32)))), (.int (bI (e2_ = (0 : Int32)))), (.int (bI (e3_ = (0 : Int32)))), (.int (bI (e4_ = (0 : Int32)))), (.int (nar .boolean (bI (e5_ = (0 : Int32))))), (.int e6_)] (.int (0 : Int32)) := Arv.set Ar83 q83 S83 N83 H83 G83 (fits_nar_bool _) W83 5 rfl (Nat.le_of_ble_eq_true rfl)
  rw [bI_nar] at V84
  have pre85 : ∀ t, Steps p.tables e below (T83.setTop (mkF m 22 #[.val (.ref a2_0), .val (.int (5 : Int32))] [])) t → Steps p.tables e below (s₁.setTop (entryFrame m #[(.ref a2_0)] 2)) t := fun t k => pre80 t (by
    show Steps p.tables e below (T68.setTop (mkF m 21 #[.val (.ref a2_0), .val (.int (5 : Int32))] [(.int (bI (e5_ = (0 : Int32)))), (.int (5 : Int32)), (.ref a2_0)])) _
    refine st83 _ ?_
    exact k)
  have z86 := Nat.le_trans z71 (Keep.of_wr W83).1
  have k87 := k72.wr W83 (Or.inl (List.mem_of_getElem? (i := 0) rfl))
  have N88 := Fr.snoc X83 N73 g_a2_0
  obtain ⟨cl89, Ar89, q89, S89, N89, H89, G89⟩ := id V84
  have hin89 : ¬ ((5 : Int32) < 0 ∨ cl89.slots.size ≤ ((5 : Int32)).toNatClampNeg) := inb_of S89 ⟨by decide, by decide⟩
  have hat89 : cl89.slots[((5 : Int32)).toNatClampNeg]? = some (.int (bI (e5_ = (0 : Int32)))) := Has.at H89 hin89 rfl
  by_cases hc90 : e5_ = (0 : Int32)
  · obtain ⟨fs, hr, hrun, hended, hW, hsame⟩ := X83.leave (v := some (.int (1 : Int32))) (fun h => by rw [Bd.returns] at h; cases h)
    refine ⟨_, _, pre85 _ ?_, hrun, hended, _, _, rfl, ?_, ⟨_, rfl⟩, hW, hsame.mono (by decide) (by decide)⟩
    · show Steps p.tables e below (T83.setTop (mkF m 22 #[.val (.ref a2_0), .val (.int (5 : Int32))] [])) _
      refine XS.aloadN X83.here hx rfl (hb hby d2_22) rfl rfl ?_
      refine XS.iloadN X83.here hx rfl (hb hby d2_23) rfl ?_
      show Steps p.tables e below (T83.setTop (mkF m 24 #[.val (.ref a2_0), .val (.int (5 : Int32))] [(.int (5 : Int32)), (.ref a2_0)])) _
      refine X83.baloadBooleans hx (j := (5 : Int32)) (v := (.int (bI (e5_ = (0 : Int32))))) (by rw [e83]; exact Ar89.1) (State.isArrayOf_alike hZ.alike Ar89.2.1) Ar89.2.2 hin89 hat89 (g := (mkF m 24 #[.val (.ref a2_0), .val (.int (5 : Int32))] [(.int (5 : Int32)), (.ref a2_0)])) rfl rfl (hb hby d2_24) _ ?_
      show Steps p.tables e below (T83.setTop (mkF m 25 #[.val (.ref a2_0), .val (.int (5 : Int32))] [(.int (bI (e5_ = (0 : Int32))))])) _
      refine XS.ifNo X83.here hx rfl (hb hby d2_25) rfl ((if0 _ _).trans (feq (bI_n hc90)).1) ?_
      show Steps p.tables e below (T83.setTop (mkF m 28 #[.val (.ref a2_0), .val (.int (5 : Int32))] [])) _
      refine XS.iconst X83.here hx rfl (hb hby d2_28) ?_
      show Steps p.tables e below (T83.setTop (mkF m 29 #[.val (.ref a2_0), .val (.int (5 : Int32))] [(.int (1 : Int32))])) _
      exact retN X83 hx (t := .boolean) Bd.returns (by simp) (hb hby d2_29) hr
    · show Q2_7 Z a2_0 ka e0_ e1_ e2_ e3_ e4_ e5_ e6_ h0 n0 _ T83.heap _
      rw [e83]
      exact ⟨(congrArg (fun z => some (Value.int z)) ((bI_t (Or.inr (Or.inr (Or.inr (Or.inr (Or.inr (Or.inl hc90))))))) : (bI ((e0_ = (0 : Int32)) ∨ ((e1_ = (0 : Int32)) ∨ ((e2_ = (0 : Int32)) ∨ ((e3_ = (0 : Int32)) ∨ ((e4_ = (0 : Int32)) ∨ ((e5_ = (0 : Int32)) ∨ (e6_ = (0 : Int32))))))))) = (1 : Int32)).symm), N88, k87, (by rw [show (if e0_ = (0 : Int32) then e1_ else (bI (e1_ = (0 : Int32)))) = (bI (e1_ = (0 : Int32))) from (if_neg hc15), show (if e0_ = (0 : Int32) then e2_ else (if e1_ = (0 : Int32) then e2_ else (bI (e2_ = (0 : Int32))))) = (bI (e2_ = (0 : Int32))) from ((if_neg hc15).trans (if_neg hc30)), show (if e0_ = (0 : Int32) then e3_ else (if e1_ = (0 : Int32) then e3_ else (if e2_ = (0 : Int32) then e3_ else (bI (e3_ = (0 : Int32)))))) = (bI (e3_ = (0 : Int32))) from ((if_neg hc15).trans ((if_neg hc30).trans (if_neg hc45))), show (if e0_ = (0 : Int32) then e4_ else (if e1_ = (0 : Int32) then e4_ else (if e2_ = (0 : Int32) then e4_ else (if e3_ = (0 : Int32) then e4_ else (bI (e4_ = (0 : Int32))))))) = (bI (e4_ = (0 : Int32))) from ((if_neg hc15).trans ((if_neg hc30).trans ((if_neg hc45).trans (if_neg hc60)))), show (if e0_ = (0 : Int32) then e5_ else (if e1_ = (0 : Int32) then e5_ else (if e2_ = (0 : Int32) then e5_ else (if e3_ = (0 : Int32) then e5_ else (if e4_ = (0 : Int32) then e5_ else (bI (e5_ = (0 : Int32)))))))) = (bI (e5_ = (0 : Int32))) from ((if_neg hc15).trans ((if_neg hc30).trans ((if_neg hc45).trans ((if_neg hc60).trans (if_neg hc75))))), show (if e0_ = (0 : Int32) then e6_ else (if e1_ = (0 : Int32) then e6_ else (if e2_ = (0 : Int32) then e6_ else (if e3_ = (0 : Int32) then e6_ else (if e4_ = (0 : Int32) then e6_ else (if e5_ = (0 : Int32) then e6_ else (bI (e6_ = (0 : Int32))))))))) = e6_ from ((if_neg hc15).trans ((if_neg hc30).trans ((if_neg hc45).trans ((if_neg hc60).trans ((if_neg hc75).trans (if_pos hc90))))))]; exact V84)⟩
  obtain ⟨cl91, Ar91, q91, S91, N91, H91, G91⟩ := id V84
  obtain ⟨cl92, Ar92, q92, S92, N92, H92, G92⟩ := id V84
  have hin92 : ¬ ((6 : Int32) < 0 ∨ cl92.slots.size ≤ ((6 : Int32)).toNatClampNeg) := inb_of S92 ⟨by decide, by decide⟩
  have hat92 : cl92.slots[((6 : Int32)).toNatClampNeg]? = some (.int e6_) := Has.at H92 hin92 rfl
  have pre94 : ∀ t, Steps p.tables e below (T83.setTop (mkF m 13 #[.val (.ref a2_0), .val (.int (6 : Int32))] [(.int e6_), (.int (6 : Int32)), (.ref a2_0)])) t → Steps p.tables e below (s₁.setTop (entryFrame m #[(.ref a2_0)] 2)) t := fun t k => pre85 t (by
    show Steps p.tables e below (T83.setTop (mkF m 22 #[.val (.ref a2_0), .val (.int (5 : Int32))] [])) _
    refine XS.aloadN X83.here hx rfl (hb hby d2_22) rfl rfl ?_
    refine XS.iloadN X83.here hx rfl (hb hby d2_23) rfl ?_
    show Steps p.tables e below (T83.setTop (mkF m 24 #[.val (.ref a2_0), .val (.int (5 : Int32))] [(.int (5 : Int32)), (.ref a2_0)])) _
    refine X83.baloadBooleans hx (j := (5 : Int32)) (v := (.int (bI (e5_ = (0 : Int32))))) (by rw [e83]; exact Ar89.1) (State.isArrayOf_alike hZ.alike Ar89.2.1) Ar89.2.2 hin89 hat89 (g := (mkF m 24 #[.val (.ref a2_0), .val (.int (5 : Int32))] [(.int (5 : Int32)), (.ref a2_0)])) rfl rfl (hb hby d2_24) _ ?_
    show Steps p.tables e below (T83.setTop (mkF m 25 #[.val (.ref a2_0), .val (.int (5 : Int32))] [(.int (bI (e5_ = (0 : Int32))))])) _
    refine XS.ifYes X83.here hx rfl (pc0 := 25) (pc' := 30) rfl (hb hby d2_25) rfl ((if0 _ _).trans (teq (bI_f hc90)).1) (by decide) (by decide) ?_
    show Steps p.tables e below (T83.setTop (mkF m 30 #[.val (.ref a2_0), .val (.int (5 : Int32))] [])) _
    refine XS.iinc X83.here hx rfl (hb hby d2_30) rfl (l' := #[.val (.ref a2_0), .val (.int (6 : Int32))]) rfl ?_
    show Steps p.tables e below (T83.setTop (mkF m 33 #[.val (.ref a2_0), .val (.int (6 : Int32))] [])) _
    refine XS.goto X83.here hx rfl (pc0 := 33) (pc' := 2) rfl (hb hby d2_33) (by decide) (by decide) ?_
    refine XS.iloadN X83.here hx rfl (hb hby d2_2) rfl ?_
    refine XS.aloadN X83.here hx rfl (hb hby d2_3) rfl rfl ?_
    show Steps p.tables e below (T83.setTop (mkF m 4 #[.val (.ref a2_0), .val (.int (6 : Int32))] [(.ref a2_0), (.int (6 : Int32))])) _
    refine X83.arraylength hx (by rw [e83]; exact Ar91.1) (State.isArrayOf_alike hZ.alike Ar91.2.1) (g := (mkF m 4 #[.val (.ref a2_0), .val (.int (6 : Int32))] [(.ref a2_0), (.int (6 : Int32))])) rfl rfl (hb hby d2_4) _ ?_
    rw [len_of S91 N91]
    show Steps p.tables e below (T83.setTop (mkF m 5 #[.val (.ref a2_0), .val (.int (6 : Int32))] [(.int (7 : Int32)), (.int (6 : Int32))])) _
    refine XS.icmpNo X83.here hx rfl (hb hby d2_5) rfl (tlt (by decide : (6 : Int32) < (7 : Int32))).2.1 ?_
    show Steps p.tables e below (T83.setTop (mkF m 8 #[.val (.ref a2_0), .val (.int (6 : Int32))] [])) _
    refine XS.aloadN X83.here hx rfl (hb hby d2_8) rfl rfl ?_
    refine XS.iloadN X83.here hx rfl (hb hby d2_9) rfl ?_
    refine XS.aloadN X83.here hx rfl (hb hby d2_10) rfl rfl ?_
    refine XS.iloadN X83.here hx rfl (hb hby d2_11) rfl ?_
    show Steps p.tables e below (T83.setTop (mkF m 12 #[.val (.ref a2_0), .val (.int (6 : Int32))] [(.int (6 : Int32)), (.ref a2_0), (.int (6 : Int32)), (.ref a2_0)])) _
    refine X83.baloadBooleans hx (j := (6 : Int32)) (v := (.int e6_)) (by rw [e83]; exact Ar92.1) (State.isArrayOf_alike hZ.alike Ar92.2.1) Ar92.2.2 hin92 hat92 (g := (mkF m 12 #[.val (.ref a2_0), .val (.int (6 : Int32))] [(.int (6 : Int32)), (.ref a2_0), (.int (6 : Int32)), (.ref a2_0)])) rfl rfl (hb hby d2_12) _ ?_
    exact k)
  have pre95 : ∀ t, Steps p.tables e below (T83.setTop (mkF m 21 #[.val (.ref a2_0), .val (.int (6 : Int32))] [(.int (bI (e6_ = (0 : Int32)))), (.int (6 : Int32)), (.ref a2_0)])) t → Steps p.tables e below (s₁.setTop (entryFrame m #[(.ref a2_0)] 2)) t := fun t k => pre94 t (by
    by_cases hc93 : e6_ = (0 : Int32)
    · show Steps p.tables e below (T83.setTop (mkF m 13 #[.val (.ref a2_0), .val (.int (6 : Int32))] [(.int e6_), (.int (6 : Int32)), (.ref a2_0)])) _
      refine XS.ifNo X83.here hx rfl (hb hby d2_13) rfl ((if0 _ _).trans (teq hc93).2) ?_
      show Steps p.tables e below (T83.setTop (mkF m 16 #[.val (.ref a2_0), .val (.int (6 : Int32))] [(.int (6 : Int32)), (.ref a2_0)])) _
      refine XS.iconst X83.here hx rfl (hb hby d2_16) ?_
      show Steps p.tables e below (T83.setTop (mkF m 17 #[.val (.ref a2_0), .val (.int (6 : Int32))] [(.int (1 : Int32)), (.int (6 : Int32)), (.ref a2_0)])) _
      refine XS.goto X83.here hx rfl (pc0 := 17) (pc' := 21) rfl (hb hby d2_17) (by decide) (by decide) ?_
      have q96 : (bI (e6_ = (0 : Int32))) = (1 : Int32) := (bI_t hc93)
      exact castTop (g := (mkF m 21 #[.val (.ref a2_0), .val (.int (6 : Int32))] [(.int (1 : Int32)), (.int (6 : Int32)), (.ref a2_0)])) (g' := (mkF m 21 #[.val (.ref a2_0), .val (.int (6 : Int32))] [(.int (bI (e6_ = (0 : Int32)))), (.int (6 : Int32)), (.ref a2_0)])) (by simp only [q96]) k
    · show Steps p.tables e below (T83.setTop (mkF m 13 #[.val (.ref a2_0), .val (.int (6 : Int32))] [(.int e6_), (.int (6 : Int32)), (.ref a2_0)])) _
      refine XS.ifYes X83.here hx rfl (pc0 := 13) (pc' := 20) rfl (hb hby d2_13) rfl ((if0 _ _).trans (feq hc93).2) (by decide) (by decide) ?_
      show Steps p.tables e below (T83.setTop (mkF m 20 #[.val (.ref a2_0), .val (.int (6 : Int32))] [(.int (6 : Int32)), (.ref a2_0)])) _
      refine XS.iconst X83.here hx rfl (hb hby d2_20) ?_
      have q97 : (bI (e6_ = (0 : Int32))) = (0 : Int32) := (bI_f hc93)
      exact castTop (g := (mkF m 21 #[.val (.ref a2_0), .val (.int (6 : Int32))] [(.int (0 : Int32)), (.int (6 : Int32)), (.ref a2_0)])) (g' := (mkF m 21 #[.val (.ref a2_0), .val (.int (6 : Int32))] [(.int (bI (e6_ = (0 : Int32)))), (.int (6 : Int32)), (.ref a2_0)])) (by simp only [q97]) k)
  obtain ⟨cl98, Ar98, q98, S98, N98, H98, G98⟩ := id V84
  have hin98 : ¬ ((6 : Int32) < 0 ∨ cl98.slots.size ≤ ((6 : Int32)).toNatClampNeg) := inb_of S98 ⟨by decide, by decide⟩
  obtain ⟨T98, h98, X98, e98, W98, st98⟩ := stZ X83 hx hZ e83 Ar98 (j := (6 : Int32)) hin98 (g := (mkF m 21 #[.val (.ref a2_0), .val (.int (6 : Int32))] [(.int (bI (e6_ = (0 : Int32)))), (.int (6 : Int32)), (.ref a2_0)])) rfl rfl (hb hby d2_21)
  have V99 : Arv Z h98 a2_0 ka .boolean (7 : Int32) [(.int (bI (e0_ = (0 : Int32)))), (.int (bI (e1_ = (0 : Int32)))), (.int (bI (e2_ = (0 : Int32)))), (.int (bI (e3_ = (0 : Int32)))), (.int (bI (e4_ = (0 : Int32)))), (.int (bI (e5_ = (0 : Int32)))), (.int (nar .boolean (bI (e6_ = (0 : Int32)))))] (.int (0 : Int32)) := Arv.set Ar98 q98 S98 N98 H98 G98 (fits_nar_bool _) W98 6 rfl (Nat.le_of_ble_eq_true rfl)
  rw [bI_nar] at V99
  have pre100 : ∀ t, Steps p.tables e below (T98.setTop (mkF m 22 #[.val (.ref a2_0), .val (.int (6 : Int32))] [])) t → Steps p.tables e below (s₁.setTop (entryFrame m #[(.ref a2_0)] 2)) t := fun t k => pre95 t (by
    show Steps p.tables e below (T83.setTop (mkF m 21 #[.val (.ref a2_0), .val (.int (6 : Int32))] [(.int (bI (e6_ = (0 : Int32)))), (.int (6 : Int32)), (.ref a2_0)])) _
    refine st98 _ ?_
    exact k)
  have z101 := Nat.le_trans z86 (Keep.of_wr W98).1
  have k102 := k87.wr W98 (Or.inl (List.mem_of_getElem? (i := 0) rfl))
  have N103 := Fr.snoc X98 N88 g_a2_0
  obtain ⟨cl104, Ar104, q104, S104, N104, H104, G104⟩ := id V99
  have hin104 : ¬ ((6 : Int32) < 0 ∨ cl104.slots.size ≤ ((6 : Int32)).toNatClampNeg) := inb_of S104 ⟨by decide, by decide⟩
  have hat104 : cl104.slots[((6 : Int32)).toNatClampNeg]? = some (.int (bI (e6_ = (0 : Int32)))) := Has.at H104 hin104 rfl
  by_cases hc105 : e6_ = (0 : Int32)
  · obtain ⟨fs, hr, hrun, hended, hW, hsame⟩ := X98.leave (v := some (.int (1 : Int32))) (fun h => by rw [Bd.returns] at h; cases h)
    refine ⟨_, _, pre100 _ ?_, hrun, hended, _, _, rfl, ?_, ⟨_, rfl⟩, hW, hsame.mono (by decide) (by decide)⟩
    · show Steps p.tables e below (T98.setTop (mkF m 22 #[.val (.ref a2_0), .val (.int (6 : Int32))] [])) _
      refine XS.aloadN X98.here hx rfl (hb hby d2_22) rfl rfl ?_
      refine XS.iloadN X98.here hx rfl (hb hby d2_23) rfl ?_
      show Steps p.tables e below (T98.setTop (mkF m 24 #[.val (.ref a2_0), .val (.int (6 : Int32))] [(.int (6 : Int32)), (.ref a2_0)])) _
      refine X98.baloadBooleans hx (j := (6 : Int32)) (v := (.int (bI (e6_ = (0 : Int32))))) (by rw [e98]; exact Ar104.1) (State.isArrayOf_alike hZ.alike Ar104.2.1) Ar104.2.2 hin104 hat104 (g := (mkF m 24 #[.val (.ref a2_0), .val (.int (6 : Int32))] [(.int (6 : Int32)), (.ref a2_0)])) rfl rfl (hb hby d2_24) _ ?_
      show Steps p.tables e below (T98.setTop (mkF m 25 #[.val (.ref a2_0), .val (.int (6 : Int32))] [(.int (bI (e6_ = (0 : Int32))))])) _
      refine XS.ifNo X98.here hx rfl (hb hby d2_25) rfl ((if0 _ _).trans (feq (bI_n hc105)).1) ?_
      show Steps p.tables e below (T98.setTop (mkF m 28 #[.val (.ref a2_0), .val (.int (6 : Int32))] [])) _
      refine XS.iconst X98.here hx rfl (hb hby d2_28) ?_
      show Steps p.tables e below (T98.setTop (mkF m 29 #[.val (.ref a2_0), .val (.int (6 : Int32))] [(.int (1 : Int32))])) _
      exact retN X98 hx (t := .boolean) Bd.returns (by simp) (hb hby d2_29) hr
    · show Q2_7 Z a2_0 ka e0_ e1_ e2_ e3_ e4_ e5_ e6_ h0 n0 _ T98.heap _
      rw [e98]
      exact ⟨(congrArg (fun z => some (Value.int z)) ((bI_t (Or.inr (Or.inr (Or.inr (Or.inr (Or.inr (Or.inr hc105))))))) : (bI ((e0_ = (0 : Int32)) ∨ ((e1_ = (0 : Int32)) ∨ ((e2_ = (0 : Int32)) ∨ ((e3_ = (0 : Int32)) ∨ ((e4_ = (0 : Int32)) ∨ ((e5_ = (0 : Int32)) ∨ (e6_ = (0 : Int32))))))))) = (1 : Int32)).symm), N103, k102, (by rw [show (if e0_ = (0 : Int32) then e1_ else (bI (e1_ = (0 : Int32)))) = (bI (e1_ = (0 : Int32))) from (if_neg hc15), show (if e0_ = (0 : Int32) then e2_ else (if e1_ = (0 : Int32) then e2_ else (bI (e2_ = (0 : Int32))))) = (bI (e2_ = (0 : Int32))) from ((if_neg hc15).trans (if_neg hc30)), show (if e0_ = (0 : Int32) then e3_ else (if e1_ = (0 : Int32) then e3_ else (if e2_ = (0 : Int32) then e3_ else (bI (e3_ = (0 : Int32)))))) = (bI (e3_ = (0 : Int32))) from ((if_neg hc15).trans ((if_neg hc30).trans (if_neg hc45))), show (if e0_ = (0 : Int32) then e4_ else (if e1_ = (0 : Int32) then e4_ else (if e2_ = (0 : Int32) then e4_ else (if e3_ = (0 : Int32) then e4_ else (bI (e4_ = (0 : Int32))))))) = (bI (e4_ = (0 : Int32))) from ((if_neg hc15).trans ((if_neg hc30).trans ((if_neg hc45).trans (if_neg hc60)))), show (if e0_ = (0 : Int32) then e5_ else (if e1_ = (0 : Int32) then e5_ else (if e2_ = (0 : Int32) then e5_ else (if e3_ = (0 : Int32) then e5_ else (if e4_ = (0 : Int32) then e5_ else (bI (e5_ = (0 : Int32)))))))) = (bI (e5_ = (0 : Int32))) from ((if_neg hc15).trans ((if_neg hc30).trans ((if_neg hc45).trans ((if_neg hc60).trans (if_neg hc75))))), show (if e0_ = (0 : Int32) then e6_ else (if e1_ = (0 : Int32) then e6_ else (if e2_ = (0 : Int32) then e6_ else (if e3_ = (0 : Int32) then e6_ else (if e4_ = (0 : Int32) then e6_ else (if e5_ = (0 : Int32) then e6_ else (bI (e6_ = (0 : Int32))))))))) = (bI (e6_ = (0 : Int32))) from ((if_neg hc15).trans ((if_neg hc30).trans ((if_neg hc45).trans ((if_neg hc60).trans ((if_neg hc75).trans (if_neg hc90))))))]; exact V99)⟩
  obtain ⟨cl106, Ar106, q106, S106, N106, H106, G106⟩ := id V99
  obtain ⟨fs, hr, hrun, hended, hW, hsame⟩ := X98.leave (v := some (.int (0 : Int32))) (fun h => by rw [Bd.returns] at h; cases h)
  refine ⟨_, _, pre100 _ ?_, hrun, hended, _, _, rfl, ?_, ⟨_, rfl⟩, hW, hsame.mono (by decide) (by decide)⟩
  · show Steps p.tables e below (T98.setTop (mkF m 22 #[.val (.ref a2_0), .val (.int (6 : Int32))] [])) _
    refine XS.aloadN X98.here hx rfl (hb hby d2_22) rfl rfl ?_
    refine XS.iloadN X98.here hx rfl (hb hby d2_23) rfl ?_
    show Steps p.tables e below (T98.setTop (mkF m 24 #[.val (.ref a2_0), .val (.int (6 : Int32))] [(.int (6 : Int32)), (.ref a2_0)])) _
    refine X98.baloadBooleans hx (j := (6 : Int32)) (v := (.int (bI (e6_ = (0 : Int32))))) (by rw [e98]; exact Ar104.1) (State.isArrayOf_alike hZ.alike Ar104.2.1) Ar104.2.2 hin104 hat104 (g := (mkF m 24 #[.val (.ref a2_0), .val (.int (6 : Int32))] [(.int (6 : Int32)), (.ref a2_0)])) rfl rfl (hb hby d2_24) _ ?_
    show Steps p.tables e below (T98.setTop (mkF m 25 #[.val (.ref a2_0), .val (.int (6 : Int32))] [(.int (bI (e6_ = (0 : Int32))))])) _
    refine XS.ifYes X98.here hx rfl (pc0 := 25) (pc' := 30) rfl (hb hby d2_25) rfl ((if0 _ _).trans (teq (bI_f hc105)).1) (by decide) (by decide) ?_
    show Steps p.tables e below (T98.setTop (mkF m 30 #[.val (.ref a2_0), .val (.int (6 : Int32))] [])) _
    refine XS.iinc X98.here hx rfl (hb hby d2_30) rfl (l' := #[.val (.ref a2_0), .val (.int (7 : Int32))]) rfl ?_
    show Steps p.tables e below (T98.setTop (mkF m 33 #[.val (.ref a2_0), .val (.int (7 : Int32))] [])) _
    refine XS.goto X98.here hx rfl (pc0 := 33) (pc' := 2) rfl (hb hby d2_33) (by decide) (by decide) ?_
    refine XS.iloadN X98.here hx rfl (hb hby d2_2) rfl ?_
    refine XS.aloadN X98.here hx rfl (hb hby d2_3) rfl rfl ?_
    show Steps p.tables e below (T98.setTop (mkF m 4 #[.val (.ref a2_0), .val (.int (7 : Int32))] [(.ref a2_0), (.int (7 : Int32))])) _
    refine X98.arraylength hx (by rw [e98]; exact Ar106.1) (State.isArrayOf_alike hZ.alike Ar106.2.1) (g := (mkF m 4 #[.val (.ref a2_0), .val (.int (7 : Int32))] [(.ref a2_0), (.int (7 : Int32))])) rfl rfl (hb hby d2_4) _ ?_
    rw [len_of S106 N106]
    show Steps p.tables e below (T98.setTop (mkF m 5 #[.val (.ref a2_0), .val (.int (7 : Int32))] [(.int (7 : Int32)), (.int (7 : Int32))])) _
    refine XS.icmpYes X98.here hx rfl (pc0 := 5) (pc' := 36) rfl (hb hby d2_5) rfl (flt (by decide : ¬ ((7 : Int32) < (7 : Int32)))).2.1 (by decide) (by decide) ?_
    show Steps p.tables e below (T98.setTop (mkF m 36 #[.val (.ref a2_0), .val (.int (7 : Int32))] [])) _
    refine XS.iconst X98.here hx rfl (hb hby d2_36) ?_
    show Steps p.tables e below (T98.setTop (mkF m 37 #[.val (.ref a2_0), .val (.int (7 : Int32))] [(.int (0 : Int32))])) _
    exact retN X98 hx (t := .boolean) Bd.returns (by simp) (hb hby d2_37) hr
  · show Q2_7 Z a2_0 ka e0_ e1_ e2_ e3_ e4_ e5_ e6_ h0 n0 _ T98.heap _
    rw [e98]
    exact ⟨(congrArg (fun z => some (Value.int z)) ((bI_f (fun z => z.elim hc15 (fun z => z.elim hc30 (fun z => z.elim hc45 (fun z => z.elim hc60 (fun z => z.elim hc75 (fun z => z.elim hc90 hc105))))))) : (bI ((e0_ = (0 : Int32)) ∨ ((e1_ = (0 : Int32)) ∨ ((e2_ = (0 : Int32)) ∨ ((e3_ = (0 : Int32)) ∨ ((e4_ = (0 : Int32)) ∨ ((e5_ = (0 : Int32)) ∨ (e6_ = (0 : Int32))))))))) = (0 : Int32)).symm), N103, k102, (by rw [show (if e0_ = (0 : Int32) then e1_ else (bI (e1_ = (0 : Int32)))) = (bI (e1_ = (0 : Int32))) from (if_neg hc15), show (if e0_ = (0 : Int32) then e2_ else (if e1_ = (0 : Int32) then e2_ else (bI (e2_ = (0 : Int32))))) = (bI (e2_ = (0 : Int32))) from ((if_neg hc15).trans (if_neg hc30)), show (if e0_ = (0 : Int32) then e3_ else (if e1_ = (0 : Int32) then e3_ else (if e2_ = (0 : Int32) then e3_ else (bI (e3_ = (0 : Int32)))))) = (bI (e3_ = (0 : Int32))) from ((if_neg hc15).trans ((if_neg hc30).trans (if_neg hc45))), show (if e0_ = (0 : Int32) then e4_ else (if e1_ = (0 : Int32) then e4_ else (if e2_ = (0 : Int32) then e4_ else (if e3_ = (0 : Int32) then e4_ else (bI (e4_ = (0 : Int32))))))) = (bI (e4_ = (0 : Int32))) from ((if_neg hc15).trans ((if_neg hc30).trans ((if_neg hc45).trans (if_neg hc60)))), show (if e0_ = (0 : Int32) then e5_ else (if e1_ = (0 : Int32) then e5_ else (if e2_ = (0 : Int32) then e5_ else (if e3_ = (0 : Int32) then e5_ else (if e4_ = (0 : Int32) then e5_ else (bI (e5_ = (0 : Int32)))))))) = (bI (e5_ = (0 : Int32))) from ((if_neg hc15).trans ((if_neg hc30).trans ((if_neg hc45).trans ((if_neg hc60).trans (if_neg hc75))))), show (if e0_ = (0 : Int32) then e6_ else (if e1_ = (0 : Int32) then e6_ else (if e2_ = (0 : Int32) then e6_ else (if e3_ = (0 : Int32) then e6_ else (if e4_ = (0 : Int32) then e6_ else (if e5_ = (0 : Int32) then e6_ else (bI (e6_ = (0 : Int32))))))))) = (bI (e6_ = (0 : Int32))) from ((if_neg hc15).trans ((if_neg hc30).trans ((if_neg hc45).trans ((if_neg hc60).trans ((if_neg hc75).trans (if_neg hc90))))))]; exact V99)⟩
theorem pd_0 : parseMethodDescriptor "([ZII)V" = some ⟨[(.array .boolean), .int, .int], none⟩ := by decide +kernel
theorem pd_1 : parseMethodDescriptor "([Z)Z" = some ⟨[(.array .boolean)], some .boolean⟩ := by decide +kernel
theorem pd_2 : parseMethodDescriptor "([ZI)I" = some ⟨[(.array .boolean), .int], some .int⟩ := by decide +kernel
theorem pn_0 : plainName "com/example/regista/regista/ValuationsNextPinLaw" = true := by first | (simp [plainName, overriddenIn]; done) | decide +kernel
theorem ef_0 (m : MethodId) (x0 : Int32) (x1 : Int32) : entryFrame m #[(.int x0), (.int x1)] maxLocals = mkF m 0 #[.val (.int x0), .val (.int x1), .unset, .unset, .unset, .unset, .unset, .unset, .unset] [] := by first | (simp [entryFrame, mkF, argsToLocals, Value.category, maxLocals]; done) | rfl
def Q0 (Z : State) (p0_0 : Int32) (p0_1 : Int32) (h0 : Heap) (n0 : Nat) (v : Option Value) (h : Heap) (L : List Loc) : Prop := v = some (.int (1 : Int32)) ∧ Fr n0 L
set_option maxRecDepth 65536 in
set_option maxHeartbeats 40000000 in
theorem rm0 (l : Launch) (Z : State) (a0 : Array Value) (hw : ∀ d ∈ tables_1, d.before a0 Z = true) (ws : List Jvm.Cond) (p0_0 : Int32) (p0_1 : Int32) (h0 : Heap) (n0 : Nat) (Z0 : n0 ≤ h0.size) :
    MetFree l x (head1 (Jvm.Cond.code x code maxLocals ret :: ws) room_1) (fun a U => a = #[(.int p0_0), (.int p0_1)] ∧ Z.Warmed39 U.vm ∧ U.heap = h0) (fun _ _ _ _ _ => True) (fun _ U o U' => ∃ v L, o = .returned v ∧ Q0 Z p0_0 p0_1 h0 n0 v U'.heap L ∧ FrameEnd U o U' L room_1.cells room_1.slots) := by
  refine MetFree.of_bodySF (plainFor_of_name pn_0) hisR ?_
  intro p e s m args below meth c s₁ Bd hml0 hP hK
  obtain ⟨rfl, hZ, hh⟩ := hP
  have hVV : ∀ (i : Nat) (d : Jvm.Cond), tables_1[i]? = some d → d.before a0 Z = true := fun i d h => hw d (List.mem_of_getElem? h)
  have hx := Bd.exec
  have hby := Bd.bytes
  have hml : c.maxLocals = 9 := hml0
  have hown : s.vm.findClass "com/example/regista/regista/ValuationsNextPinLaw" = some m.cls := findClass_of_methodNamed Bd.named
  have hnm := (name_of_methodNamed Bd.named Bd.method).1
  have X0 : Stand p l e room_1 s m #[(.int p0_0), (.int p0_1)] below meth c s₁ [] 0 0 := Stand.of_body Bd
  have e0 : s₁.heap = h0 := by rw [← hh, Bd.state]; rfl
  have N0 := Fr.nil n0
  have pre0 : ∀ t, Steps p.tables e below (s₁.setTop (mkF m 0 #[.val (.int p0_0), .val (.int p0_1), .unset, .unset, .unset, .unset, .unset, .unset, .unset] [])) t → Steps p.tables e below (s₁.setTop (entryFrame m #[(.int p0_0), (.int p0_1)] maxLocals)) t := fun t k => castTop (ef_0 m p0_0 p0_1) k
  have pre1 : ∀ t, Steps p.tables e below (s₁.setTop (mkF m 5 #[.val (.int p0_0), .val (.int p0_1), .val (.int (p0_0 &&& (7 : Int32))), .unset, .unset, .unset, .unset, .unset, .unset] [])) t → Steps p.tables e below (s₁.setTop (entryFrame m #[(.int p0_0), (.int p0_1)] maxLocals)) t := fun t k => pre0 t (by
    show Steps p.tables e below (s₁.setTop (mkF m 0 #[.val (.int p0_0), .val (.int p0_1), .unset, .unset, .unset, .unset, .unset, .unset, .unset] [])) _
    refine XS.iloadN X0.here hx rfl (hb hby at_0) rfl ?_
    refine XS.bipush X0.here hx rfl (hb hby at_1) ?_
    refine XS.iand X0.here hx rfl (hb hby at_3) rfl ?_
    show Steps p.tables e below (s₁.setTop (mkF m 4 #[.val (.int p0_0), .val (.int p0_1), .unset, .unset, .unset, .unset, .unset, .unset, .unset] [(.int (p0_0 &&& (7 : Int32)))])) _
    refine XS.istoreN X0.here hx rfl (hb hby at_4) rfl (l' := #[.val (.int p0_0), .val (.int p0_1), .val (.int (p0_0 &&& (7 : Int32))), .unset, .unset, .unset, .unset, .unset, .unset]) rfl ?_
    exact k)
  rcases own_n p0_0 with hk | hk | hk | hk | hk | hk | hk | hk
  · have pre2 : ∀ t, Steps p.tables e below (s₁.setTop (mkF m 5 #[.val (.int p0_0), .val (.int p0_1), .val (.int (0 : Int32)), .unset, .unset, .unset, .unset, .unset, .unset] [])) t → Steps p.tables e below (s₁.setTop (entryFrame m #[(.int p0_0), (.int p0_1)] maxLocals)) t := fun t k => pre1 t (castTop (by rw [hk]) k)
    have pre3 : ∀ t, Steps p.tables e below (s₁.setTop (mkF m 11 #[.val (.int p0_0), .val (.int p0_1), .val (.int (0 : Int32)), .val (.int (((1 : Int32) <<< ((0 : Int32) &&& 31)) - (1 : Int32))), .unset, .unset, .unset, .unset, .unset] [])) t → Steps p.tables e below (s₁.setTop (entryFrame m #[(.int p0_0), (.int p0_1)] maxLocals)) t := fun t k => pre2 t (by
      show Steps p.tables e below (s₁.setTop (mkF m 5 #[.val (.int p0_0), .val (.int p0_1), .val (.int (0 : Int32)), .unset, .unset, .unset, .unset, .unset, .unset] [])) _
      refine XS.iconst X0.here hx rfl (hb hby at_5) ?_
      refine XS.iloadN X0.here hx rfl (hb hby at_6) rfl ?_
      show Steps p.tables e below (s₁.setTop (mkF m 7 #[.val (.int p0_0), .val (.int p0_1), .val (.int (0 : Int32)), .unset, .unset, .unset, .unset, .unset, .unset] [(.int (0 : Int32)), (.int (1 : Int32))])) _
      refine XS.ishl X0.here hx rfl (hb hby at_7) rfl ?_
      show Steps p.tables e below (s₁.setTop (mkF m 8 #[.val (.int p0_0), .val (.int p0_1), .val (.int (0 : Int32)), .unset, .unset, .unset, .unset, .unset, .unset] [(.int ((1 : Int32) <<< ((0 : Int32) &&& 31)))])) _
      refine XS.iconst X0.here hx rfl (hb hby at_8) ?_
      refine XS.isub X0.here hx rfl (hb hby at_9) rfl ?_
      show Steps p.tables e below (s₁.setTop (mkF m 10 #[.val (.int p0_0), .val (.int p0_1), .val (.int (0 : Int32)), .unset, .unset, .unset, .unset, .unset, .unset] [(.int (((1 : Int32) <<< ((0 : Int32) &&& 31)) - (1 : Int32)))])) _
      refine XS.istoreN X0.here hx rfl (hb hby at_10) rfl (l' := #[.val (.int p0_0), .val (.int p0_1), .val (.int (0 : Int32)), .val (.int (((1 : Int32) <<< ((0 : Int32) &&& 31)) - (1 : Int32))), .unset, .unset, .unset, .unset, .unset]) rfl ?_
      exact k)
    have hl4 : (((1 : Int32) <<< ((0 : Int32) &&& 31)) - (1 : Int32)) = (0 : Int32) := by
      decide
    have pre5 : ∀ t, Steps p.tables e below (s₁.setTop (mkF m 11 #[.val (.int p0_0), .val (.int p0_1), .val (.int (0 : Int32)), .val (.int (0 : Int32)), .unset, .unset, .unset, .unset, .unset] [])) t → Steps p.tables e below (s₁.setTop (entryFrame m #[(.int p0_0), (.int p0_1)] maxLocals)) t := fun t k => pre3 t (castTop (by rw [hl4]) k)
    have pre6 : ∀ t, Steps p.tables e below (s₁.setTop (mkF m 16 #[.val (.int p0_0), .val (.int p0_1), .val (.int (0 : Int32)), .val (.int (0 : Int32)), .val (.int (p0_1 &&& (0 : Int32))), .unset, .unset, .unset, .unset] [])) t → Steps p.tables e below (s₁.setTop (entryFrame m #[(.int p0_0), (.int p0_1)] maxLocals)) t := fun t k => pre5 t (by
      show Steps p.tables e below (s₁.setTop (mkF m 11 #[.val (.int p0_0), .val (.int p0_1), .val (.int (0 : Int32)), .val (.int (0 : Int32)), .unset, .unset, .unset, .unset, .unset] [])) _
      refine XS.iloadN X0.here hx rfl (hb hby at_11) rfl ?_
      refine XS.iloadN X0.here hx rfl (hb hby at_12) rfl ?_
      refine XS.iand X0.here hx rfl (hb hby at_13) rfl ?_
      show Steps p.tables e below (s₁.setTop (mkF m 14 #[.val (.int p0_0), .val (.int p0_1), .val (.int (0 : Int32)), .val (.int (0 : Int32)), .unset, .unset, .unset, .unset, .unset] [(.int (p0_1 &&& (0 : Int32)))])) _
      refine XS.istore X0.here hx rfl (hb hby at_14) rfl (l' := #[.val (.int p0_0), .val (.int p0_1), .val (.int (0 : Int32)), .val (.int (0 : Int32)), .val (.int (p0_1 &&& (0 : Int32))), .unset, .unset, .unset, .unset]) rfl ?_
      exact k)
    obtain ⟨MM, hMM⟩ : ∃ z : Int32, z = (p0_1 &&& (0 : Int32)) := ⟨_, rfl⟩
    have pre7 : ∀ t, Steps p.tables e below (s₁.setTop (mkF m 16 #[.val (.int p0_0), .val (.int p0_1), .val (.int (0 : Int32)), .val (.int (0 : Int32)), .val (.int MM), .unset, .unset, .unset, .unset] [])) t → Steps p.tables e below (s₁.setTop (entryFrame m #[(.int p0_0), (.int p0_1)] maxLocals)) t := fun t k => pre6 t (castTop (by rw [hMM]) k)
    have hM : 0 ≤ MM.toInt ∧ MM.toInt < (1 : Nat) := by
      rw [hMM]
      have e := c_mask p0_1 (0 : Int32) 0 (by decide) (by decide)
      omega
    obtain ⟨T8, h8, k8, X8, e8, E8, A8, st8⟩ := newP X0 hx hZ (hVV 0 _ rfl) e0 (g := (mkF m 17 #[.val (.int p0_0), .val (.int p0_1), .val (.int (0 : Int32)), .val (.int (0 : Int32)), .val (.int MM), .unset, .unset, .unset, .unset] [(.int (0 : Int32))])) rfl (hb hby at_17) rfl (by decide) (cap := 0) (by decide) (by decide) (by decide) (by decide)
    obtain ⟨b8, g8⟩ : ∃ z, z = h0.size := ⟨_, rfl⟩
    rw [← g8] at A8 st8
    have gz8 : n0 ≤ b8 := Nat.le_trans Z0 (Nat.le_of_eq g8.symm)
    have pre9 : ∀ t, Steps p.tables e below (T8.setTop (mkF m 19 #[.val (.int p0_0), .val (.int p0_1), .val (.int (0 : Int32)), .val (.int (0 : Int32)), .val (.int MM), .unset, .unset, .unset, .unset] [(.ref b8)])) t → Steps p.tables e below (s₁.setTop (entryFrame m #[(.int p0_0), (.int p0_1)] maxLocals)) t := fun t k => pre7 t (by
      show Steps p.tables e below (s₁.setTop (mkF m 16 #[.val (.int p0_0), .val (.int p0_1), .val (.int (0 : Int32)), .val (.int (0 : Int32)), .val (.int MM), .unset, .unset, .unset, .unset] [])) _
      refine XS.iloadN X0.here hx rfl (hb hby at_16) rfl ?_
      show Steps p.tables e below (s₁.setTop (mkF m 17 #[.val (.int p0_0), .val (.int p0_1), .val (.int (0 : Int32)), .val (.int (0 : Int32)), .val (.int MM), .unset, .unset, .unset, .unset] [(.int (0 : Int32))])) _
      refine st8 _ ?_
      exact k)
    have z10 := Nat.le_trans Z0 E8.1
    have V11 : Arv Z h8 b8 k8 .boolean (0 : Int32) [] (.int (0 : Int32)) := (Arv.new A8 (by decide)).pad (pad_rep [] (.int (0 : Int32)) 0)
    have hq13 : ¬ ((0 : Int32) < (0 : Int32)) := by
      decide
    obtain ⟨_, _, ⟨T12, L12, k12, n12⟩, -, X12, ⟨Lc12, hQ12, l12, y12, z12⟩, st12⟩ := Jvm.LawKit.callS X8 hx (y := mn0) hown (mvT hZ (hVV 1 _ rfl)) (mvT hZ (hVV 2 _ rfl)) (mvT hZ (hVV 3 _ rfl)) (mvT hZ (hVV 4 _ rfl)) (by decide) (backOf (W := 0) (rm1_o l Z a0 hw [] b8 (0 : Int32) MM k8 (0 : Int32) ([]) h8 n0 z10 V11 hq13) hZ (hVV 4 _ rfl) (hVV 3 _ rfl) (by decide) (by decide)) (g := (mkF m 26 #[.val (.int p0_0), .val (.int p0_1), .val (.int (0 : Int32)), .val (.int (0 : Int32)), .val (.int MM), .val (.ref b8), .unset, .unset, .unset] [(.int MM), (.int (0 : Int32)), (.ref b8)])) rfl (by rw [hml]; rfl) (argsL := [(.ref b8), (.int (0 : Int32)), (.int MM)]) (rest := []) (lenOf pd_0 rfl) rfl (by show 2 * 0 + _ ≤ _; exact Nat.le_of_eq rfl) (hb hby at_26) (fun _ _ => ⟨rfl, e8, (by decide : 1 + 0 ≤ _), (by decide : 0 + 0 ≤ _)⟩)
    dsimp only [Pt.U, Pt.locs, Pt.cells, Pt.slots] at X12 l12 y12 z12 st12 hQ12
    subst l12 y12 z12
    obtain ⟨rfl, N12q, e12⟩ := hQ12
    have N14 := Fr.app N0 N12q
    have pre15 : ∀ t, Steps p.tables e below (T12.setTop (mkF m 29 #[.val (.int p0_0), .val (.int p0_1), .val (.int (0 : Int32)), .val (.int (0 : Int32)), .val (.int MM), .val (.ref b8), .unset, .unset, .unset] [])) t → Steps p.tables e below (s₁.setTop (entryFrame m #[(.int p0_0), (.int p0_1)] maxLocals)) t := fun t k => pre9 t (by
      show Steps p.tables e below (T8.setTop (mkF m 19 #[.val (.int p0_0), .val (.int p0_1), .val (.int (0 : Int32)), .val (.int (0 : Int32)), .val (.int MM), .unset, .unset, .unset, .unset] [(.ref b8)])) _
      refine XS.astore X8.here hx rfl (hb hby at_19) rfl rfl (l' := #[.val (.int p0_0), .val (.int p0_1), .val (.int (0 : Int32)), .val (.int (0 : Int32)), .val (.int MM), .val (.ref b8), .unset, .unset, .unset]) rfl ?_
      show Steps p.tables e below (T8.setTop (mkF m 21 #[.val (.int p0_0), .val (.int p0_1), .val (.int (0 : Int32)), .val (.int (0 : Int32)), .val (.int MM), .val (.ref b8), .unset, .unset, .unset] [])) _
      refine XS.aload X8.here hx rfl (hb hby at_21) rfl rfl ?_
      refine XS.iconst X8.here hx rfl (hb hby at_23) ?_
      refine XS.iload X8.here hx rfl (hb hby at_24) rfl ?_
      show Steps p.tables e below (T8.setTop (mkF m 26 #[.val (.int p0_0), .val (.int p0_1), .val (.int (0 : Int32)), .val (.int (0 : Int32)), .val (.int MM), .val (.ref b8), .unset, .unset, .unset] [(.int MM), (.int (0 : Int32)), (.ref b8)])) _
      refine st12 _ ?_
      exact k)
    have hq17 : ¬ ((1 : Int32) < (0 : Int32)) := by
      decide
    obtain ⟨_, _, ⟨T16, L16, k16, n16⟩, -, X16, ⟨Lc16, hQ16, l16, y16, z16⟩, st16⟩ := Jvm.LawKit.callS X12 hx (y := mn0) hown (mvT hZ (hVV 1 _ rfl)) (mvT hZ (hVV 2 _ rfl)) (mvT hZ (hVV 3 _ rfl)) (mvT hZ (hVV 4 _ rfl)) (by decide) (backOf (W := 0) (rm1_o l Z a0 hw [] b8 (1 : Int32) MM k8 (0 : Int32) ([]) h8 n0 z10 V11 hq17) hZ (hVV 4 _ rfl) (hVV 3 _ rfl) (by decide) (by decide)) (g := (mkF m 34 #[.val (.int p0_0), .val (.int p0_1), .val (.int (0 : Int32)), .val (.int (0 : Int32)), .val (.int MM), .val (.ref b8), .unset, .unset, .unset] [(.int MM), (.int (1 : Int32)), (.ref b8)])) rfl (by rw [hml]; rfl) (argsL := [(.ref b8), (.int (1 : Int32)), (.int MM)]) (rest := []) (lenOf pd_0 rfl) rfl (by show 2 * 0 + _ ≤ _; exact Nat.le_of_eq rfl) (hb hby at_34) (fun _ _ => ⟨rfl, e12, (by decide : 1 + 0 ≤ _), (by decide : 0 + 0 ≤ _)⟩)
    dsimp only [Pt.U, Pt.locs, Pt.cells, Pt.slots] at X16 l16 y16 z16 st16 hQ16
    subst l16 y16 z16
    obtain ⟨rfl, N16q, e16⟩ := hQ16
    have N18 := Fr.app N14 N16q
    have pre19 : ∀ t, Steps p.tables e below (T16.setTop (mkF m 37 #[.val (.int p0_0), .val (.int p0_1), .val (.int (0 : Int32)), .val (.int (0 : Int32)), .val (.int MM), .val (.ref b8), .unset, .unset, .unset] [])) t → Steps p.tables e below (s₁.setTop (entryFrame m #[(.int p0_0), (.int p0_1)] maxLocals)) t := fun t k => pre15 t (by
      show Steps p.tables e below (T12.setTop (mkF m 29 #[.val (.int p0_0), .val (.int p0_1), .val (.int (0 : Int32)), .val (.int (0 : Int32)), .val (.int MM), .val (.ref b8), .unset, .unset, .unset] [])) _
      refine XS.aload X12.here hx rfl (hb hby at_29) rfl rfl ?_
      refine XS.iconst X12.here hx rfl (hb hby at_31) ?_
      refine XS.iload X12.here hx rfl (hb hby at_32) rfl ?_
      show Steps p.tables e below (T12.setTop (mkF m 34 #[.val (.int p0_0), .val (.int p0_1), .val (.int (0 : Int32)), .val (.int (0 : Int32)), .val (.int MM), .val (.ref b8), .unset, .unset, .unset] [(.int MM), (.int (1 : Int32)), (.ref b8)])) _
      refine st16 _ ?_
      exact k)
    have hq21 : ¬ ((2 : Int32) < (0 : Int32)) := by
      decide
    obtain ⟨_, _, ⟨T20, L20, k20, n20⟩, -, X20, ⟨Lc20, hQ20, l20, y20, z20⟩, st20⟩ := Jvm.LawKit.callS X16 hx (y := mn0) hown (mvT hZ (hVV 1 _ rfl)) (mvT hZ (hVV 2 _ rfl)) (mvT hZ (hVV 3 _ rfl)) (mvT hZ (hVV 4 _ rfl)) (by decide) (backOf (W := 0) (rm1_o l Z a0 hw [] b8 (2 : Int32) MM k8 (0 : Int32) ([]) h8 n0 z10 V11 hq21) hZ (hVV 4 _ rfl) (hVV 3 _ rfl) (by decide) (by decide)) (g := (mkF m 42 #[.val (.int p0_0), .val (.int p0_1), .val (.int (0 : Int32)), .val (.int (0 : Int32)), .val (.int MM), .val (.ref b8), .unset, .unset, .unset] [(.int MM), (.int (2 : Int32)), (.ref b8)])) rfl (by rw [hml]; rfl) (argsL := [(.ref b8), (.int (2 : Int32)), (.int MM)]) (rest := []) (lenOf pd_0 rfl) rfl (by show 2 * 0 + _ ≤ _; exact Nat.le_of_eq rfl) (hb hby at_42) (fun _ _ => ⟨rfl, e16, (by decide : 1 + 0 ≤ _), (by decide : 0 + 0 ≤ _)⟩)
    dsimp only [Pt.U, Pt.locs, Pt.cells, Pt.slots] at X20 l20 y20 z20 st20 hQ20
    subst l20 y20 z20
    obtain ⟨rfl, N20q, e20⟩ := hQ20
    have N22 := Fr.app N18 N20q
    have pre23 : ∀ t, Steps p.tables e below (T20.setTop (mkF m 45 #[.val (.int p0_0), .val (.int p0_1), .val (.int (0 : Int32)), .val (.int (0 : Int32)), .val (.int MM), .val (.ref b8), .unset, .unset, .unset] [])) t → Steps p.tables e below (s₁.setTop (entryFrame m #[(.int p0_0), (.int p0_1)] maxLocals)) t := fun t k => pre19 t (by
      show Steps p.tables e below (T16.setTop (mkF m 37 #[.val (.int p0_0), .val (.int p0_1), .val (.int (0 : Int32)), .val (.int (0 : Int32)), .val (.int MM), .val (.ref b8), .unset, .unset, .unset] [])) _
      refine XS.aload X16.here hx rfl (hb hby at_37) rfl rfl ?_
      refine XS.iconst X16.here hx rfl (hb hby at_39) ?_
      refine XS.iload X16.here hx rfl (hb hby at_40) rfl ?_
      show Steps p.tables e below (T16.setTop (mkF m 42 #[.val (.int p0_0), .val (.int p0_1), .val (.int (0 : Int32)), .val (.int (0 : Int32)), .val (.int MM), .val (.ref b8), .unset, .unset, .unset] [(.int MM), (.int (2 : Int32)), (.ref b8)])) _
      refine st20 _ ?_
      exact k)
    have hq25 : ¬ ((3 : Int32) < (0 : Int32)) := by
      decide
    obtain ⟨_, _, ⟨T24, L24, k24, n24⟩, -, X24, ⟨Lc24, hQ24, l24, y24, z24⟩, st24⟩ := Jvm.LawKit.callS X20 hx (y := mn0) hown (mvT hZ (hVV 1 _ rfl)) (mvT hZ (hVV 2 _ rfl)) (mvT hZ (hVV 3 _ rfl)) (mvT hZ (hVV 4 _ rfl)) (by decide) (backOf (W := 0) (rm1_o l Z a0 hw [] b8 (3 : Int32) MM k8 (0 : Int32) ([]) h8 n0 z10 V11 hq25) hZ (hVV 4 _ rfl) (hVV 3 _ rfl) (by decide) (by decide)) (g := (mkF m 50 #[.val (.int p0_0), .val (.int p0_1), .val (.int (0 : Int32)), .val (.int (0 : Int32)), .val (.int MM), .val (.ref b8), .unset, .unset, .unset] [(.int MM), (.int (3 : Int32)), (.ref b8)])) rfl (by rw [hml]; rfl) (argsL := [(.ref b8), (.int (3 : Int32)), (.int MM)]) (rest := []) (lenOf pd_0 rfl) rfl (by show 2 * 0 + _ ≤ _; exact Nat.le_of_eq rfl) (hb hby at_50) (fun _ _ => ⟨rfl, e20, (by decide : 1 + 0 ≤ _), (by decide : 0 + 0 ≤ _)⟩)
    dsimp only [Pt.U, Pt.locs, Pt.cells, Pt.slots] at X24 l24 y24 z24 st24 hQ24
    subst l24 y24 z24
    obtain ⟨rfl, N24q, e24⟩ := hQ24
    have N26 := Fr.app N22 N24q
    have pre27 : ∀ t, Steps p.tables e below (T24.setTop (mkF m 53 #[.val (.int p0_0), .val (.int p0_1), .val (.int (0 : Int32)), .val (.int (0 : Int32)), .val (.int MM), .val (.ref b8), .unset, .unset, .unset] [])) t → Steps p.tables e below (s₁.setTop (entryFrame m #[(.int p0_0), (.int p0_1)] maxLocals)) t := fun t k => pre23 t (by
      show Steps p.tables e below (T20.setTop (mkF m 45 #[.val (.int p0_0), .val (.int p0_1), .val (.int (0 : Int32)), .val (.int (0 : Int32)), .val (.int MM), .val (.ref b8), .unset, .unset, .unset] [])) _
      refine XS.aload X20.here hx rfl (hb hby at_45) rfl rfl ?_
      refine XS.iconst X20.here hx rfl (hb hby at_47) ?_
      refine XS.iload X20.here hx rfl (hb hby at_48) rfl ?_
      show Steps p.tables e below (T20.setTop (mkF m 50 #[.val (.int p0_0), .val (.int p0_1), .val (.int (0 : Int32)), .val (.int (0 : Int32)), .val (.int MM), .val (.ref b8), .unset, .unset, .unset] [(.int MM), (.int (3 : Int32)), (.ref b8)])) _
      refine st24 _ ?_
      exact k)
    have hq29 : ¬ ((4 : Int32) < (0 : Int32)) := by
      decide
    obtain ⟨_, _, ⟨T28, L28, k28, n28⟩, -, X28, ⟨Lc28, hQ28, l28, y28, z28⟩, st28⟩ := Jvm.LawKit.callS X24 hx (y := mn0) hown (mvT hZ (hVV 1 _ rfl)) (mvT hZ (hVV 2 _ rfl)) (mvT hZ (hVV 3 _ rfl)) (mvT hZ (hVV 4 _ rfl)) (by decide) (backOf (W := 0) (rm1_o l Z a0 hw [] b8 (4 : Int32) MM k8 (0 : Int32) ([]) h8 n0 z10 V11 hq29) hZ (hVV 4 _ rfl) (hVV 3 _ rfl) (by decide) (by decide)) (g := (mkF m 58 #[.val (.int p0_0), .val (.int p0_1), .val (.int (0 : Int32)), .val (.int (0 : Int32)), .val (.int MM), .val (.ref b8), .unset, .unset, .unset] [(.int MM), (.int (4 : Int32)), (.ref b8)])) rfl (by rw [hml]; rfl) (argsL := [(.ref b8), (.int (4 : Int32)), (.int MM)]) (rest := []) (lenOf pd_0 rfl) rfl (by show 2 * 0 + _ ≤ _; exact Nat.le_of_eq rfl) (hb hby at_58) (fun _ _ => ⟨rfl, e24, (by decide : 1 + 0 ≤ _), (by decide : 0 + 0 ≤ _)⟩)
    dsimp only [Pt.U, Pt.locs, Pt.cells, Pt.slots] at X28 l28 y28 z28 st28 hQ28
    subst l28 y28 z28
    obtain ⟨rfl, N28q, e28⟩ := hQ28
    have N30 := Fr.app N26 N28q
    have pre31 : ∀ t, Steps p.tables e below (T28.setTop (mkF m 61 #[.val (.int p0_0), .val (.int p0_1), .val (.int (0 : Int32)), .val (.int (0 : Int32)), .val (.int MM), .val (.ref b8), .unset, .unset, .unset] [])) t → Steps p.tables e below (s₁.setTop (entryFrame m #[(.int p0_0), (.int p0_1)] maxLocals)) t := fun t k => pre27 t (by
      show Steps p.tables e below (T24.setTop (mkF m 53 #[.val (.int p0_0), .val (.int p0_1), .val (.int (0 : Int32)), .val (.int (0 : Int32)), .val (.int MM), .val (.ref b8), .unset, .unset, .unset] [])) _
      refine XS.aload X24.here hx rfl (hb hby at_53) rfl rfl ?_
      refine XS.iconst X24.here hx rfl (hb hby at_55) ?_
      refine XS.iload X24.here hx rfl (hb hby at_56) rfl ?_
      show Steps p.tables e below (T24.setTop (mkF m 58 #[.val (.int p0_0), .val (.int p0_1), .val (.int (0 : Int32)), .val (.int (0 : Int32)), .val (.int MM), .val (.ref b8), .unset, .unset, .unset] [(.int MM), (.int (4 : Int32)), (.ref b8)])) _
      refine st28 _ ?_
      exact k)
    have hq33 : ¬ ((5 : Int32) < (0 : Int32)) := by
      decide
    obtain ⟨_, _, ⟨T32, L32, k32, n32⟩, -, X32, ⟨Lc32, hQ32, l32, y32, z32⟩, st32⟩ := Jvm.LawKit.callS X28 hx (y := mn0) hown (mvT hZ (hVV 1 _ rfl)) (mvT hZ (hVV 2 _ rfl)) (mvT hZ (hVV 3 _ rfl)) (mvT hZ (hVV 4 _ rfl)) (by decide) (backOf (W := 0) (rm1_o l Z a0 hw [] b8 (5 : Int32) MM k8 (0 : Int32) ([]) h8 n0 z10 V11 hq33) hZ (hVV 4 _ rfl) (hVV 3 _ rfl) (by decide) (by decide)) (g := (mkF m 66 #[.val (.int p0_0), .val (.int p0_1), .val (.int (0 : Int32)), .val (.int (0 : Int32)), .val (.int MM), .val (.ref b8), .unset, .unset, .unset] [(.int MM), (.int (5 : Int32)), (.ref b8)])) rfl (by rw [hml]; rfl) (argsL := [(.ref b8), (.int (5 : Int32)), (.int MM)]) (rest := []) (lenOf pd_0 rfl) rfl (by show 2 * 0 + _ ≤ _; exact Nat.le_of_eq rfl) (hb hby at_66) (fun _ _ => ⟨rfl, e28, (by decide : 1 + 0 ≤ _), (by decide : 0 + 0 ≤ _)⟩)
    dsimp only [Pt.U, Pt.locs, Pt.cells, Pt.slots] at X32 l32 y32 z32 st32 hQ32
    subst l32 y32 z32
    obtain ⟨rfl, N32q, e32⟩ := hQ32
    have N34 := Fr.app N30 N32q
    have pre35 : ∀ t, Steps p.tables e below (T32.setTop (mkF m 69 #[.val (.int p0_0), .val (.int p0_1), .val (.int (0 : Int32)), .val (.int (0 : Int32)), .val (.int MM), .val (.ref b8), .unset, .unset, .unset] [])) t → Steps p.tables e below (s₁.setTop (entryFrame m #[(.int p0_0), (.int p0_1)] maxLocals)) t := fun t k => pre31 t (by
      show Steps p.tables e below (T28.setTop (mkF m 61 #[.val (.int p0_0), .val (.int p0_1), .val (.int (0 : Int32)), .val (.int (0 : Int32)), .val (.int MM), .val (.ref b8), .unset, .unset, .unset] [])) _
      refine XS.aload X28.here hx rfl (hb hby at_61) rfl rfl ?_
      refine XS.iconst X28.here hx rfl (hb hby at_63) ?_
      refine XS.iload X28.here hx rfl (hb hby at_64) rfl ?_
      show Steps p.tables e below (T28.setTop (mkF m 66 #[.val (.int p0_0), .val (.int p0_1), .val (.int (0 : Int32)), .val (.int (0 : Int32)), .val (.int MM), .val (.ref b8), .unset, .unset, .unset] [(.int MM), (.int (5 : Int32)), (.ref b8)])) _
      refine st32 _ ?_
      exact k)
    have hq37 : ¬ ((6 : Int32) < (0 : Int32)) := by
      decide
    obtain ⟨_, _, ⟨T36, L36, k36, n36⟩, -, X36, ⟨Lc36, hQ36, l36, y36, z36⟩, st36⟩ := Jvm.LawKit.callS X32 hx (y := mn0) hown (mvT hZ (hVV 1 _ rfl)) (mvT hZ (hVV 2 _ rfl)) (mvT hZ (hVV 3 _ rfl)) (mvT hZ (hVV 4 _ rfl)) (by decide) (backOf (W := 0) (rm1_o l Z a0 hw [] b8 (6 : Int32) MM k8 (0 : Int32) ([]) h8 n0 z10 V11 hq37) hZ (hVV 4 _ rfl) (hVV 3 _ rfl) (by decide) (by decide)) (g := (mkF m 75 #[.val (.int p0_0), .val (.int p0_1), .val (.int (0 : Int32)), .val (.int (0 : Int32)), .val (.int MM), .val (.ref b8), .unset, .unset, .unset] [(.int MM), (.int (6 : Int32)), (.ref b8)])) rfl (by rw [hml]; rfl) (argsL := [(.ref b8), (.int (6 : Int32)), (.int MM)]) (rest := []) (lenOf pd_0 rfl) rfl (by show 2 * 0 + _ ≤ _; exact Nat.le_of_eq rfl) (hb hby at_75) (fun _ _ => ⟨rfl, e32, (by decide : 1 + 0 ≤ _), (by decide : 0 + 0 ≤ _)⟩)
    dsimp only [Pt.U, Pt.locs, Pt.cells, Pt.slots] at X36 l36 y36 z36 st36 hQ36
    subst l36 y36 z36
    obtain ⟨rfl, N36q, e36⟩ := hQ36
    have N38 := Fr.app N34 N36q
    have pre39 : ∀ t, Steps p.tables e below (T36.setTop (mkF m 78 #[.val (.int p0_0), .val (.int p0_1), .val (.int (0 : Int32)), .val (.int (0 : Int32)), .val (.int MM), .val (.ref b8), .unset, .unset, .unset] [])) t → Steps p.tables e below (s₁.setTop (entryFrame m #[(.int p0_0), (.int p0_1)] maxLocals)) t := fun t k => pre35 t (by
      show Steps p.tables e below (T32.setTop (mkF m 69 #[.val (.int p0_0), .val (.int p0_1), .val (.int (0 : Int32)), .val (.int (0 : Int32)), .val (.int MM), .val (.ref b8), .unset, .unset, .unset] [])) _
      refine XS.aload X32.here hx rfl (hb hby at_69) rfl rfl ?_
      refine XS.bipush X32.here hx rfl (hb hby at_71) ?_
      refine XS.iload X32.here hx rfl (hb hby at_73) rfl ?_
      show Steps p.tables e below (T32.setTop (mkF m 75 #[.val (.int p0_0), .val (.int p0_1), .val (.int (0 : Int32)), .val (.int (0 : Int32)), .val (.int MM), .val (.ref b8), .unset, .unset, .unset] [(.int MM), (.int (6 : Int32)), (.ref b8)])) _
      refine st36 _ ?_
      exact k)
    obtain ⟨_, _, ⟨T40, L40, k40, n40⟩, -, X40, ⟨Lc40, hQ40, l40, y40, z40⟩, st40⟩ := Jvm.LawKit.callS X36 hx (y := mn2) hown (mvT hZ (hVV 5 _ rfl)) (mvT hZ (hVV 6 _ rfl)) (mvT hZ (hVV 7 _ rfl)) (mvT hZ (hVV 8 _ rfl)) (by decide) (backOf (W := 0) (rm2_0 l Z a0 hw [] b8 k8 h8 n0 z10 V11) hZ (hVV 8 _ rfl) (hVV 7 _ rfl) (by decide) (by decide)) (g := (mkF m 80 #[.val (.int p0_0), .val (.int p0_1), .val (.int (0 : Int32)), .val (.int (0 : Int32)), .val (.int MM), .val (.ref b8), .unset, .unset, .unset] [(.ref b8)])) rfl (by rw [hml]; rfl) (argsL := [(.ref b8)]) (rest := []) (lenOf pd_1 rfl) rfl (by show 2 * 0 + _ ≤ _; exact Nat.le_of_eq rfl) (hb hby at_80) (fun _ _ => ⟨rfl, e36, (by decide : 1 + 0 ≤ _), (by decide : 0 + 0 ≤ _)⟩)
    dsimp only [Pt.U, Pt.locs, Pt.cells, Pt.slots] at X40 l40 y40 z40 st40 hQ40
    subst l40 y40 z40
    obtain ⟨rfl, N40q, e40⟩ := hQ40
    have N41 := Fr.app N38 N40q
    have pre42 : ∀ t, Steps p.tables e below (T40.setTop (mkF m 83 #[.val (.int p0_0), .val (.int p0_1), .val (.int (0 : Int32)), .val (.int (0 : Int32)), .val (.int MM), .val (.ref b8), .unset, .unset, .unset] [(.int (0 : Int32))])) t → Steps p.tables e below (s₁.setTop (entryFrame m #[(.int p0_0), (.int p0_1)] maxLocals)) t := fun t k => pre39 t (by
      show Steps p.tables e below (T36.setTop (mkF m 78 #[.val (.int p0_0), .val (.int p0_1), .val (.int (0 : Int32)), .val (.int (0 : Int32)), .val (.int MM), .val (.ref b8), .unset, .unset, .unset] [])) _
      refine XS.aload X36.here hx rfl (hb hby at_78) rfl rfl ?_
      show Steps p.tables e below (T36.setTop (mkF m 80 #[.val (.int p0_0), .val (.int p0_1), .val (.int (0 : Int32)), .val (.int (0 : Int32)), .val (.int MM), .val (.ref b8), .unset, .unset, .unset] [(.ref b8)])) _
      refine st40 _ ?_
      exact k)
    have pre43 : ∀ t, Steps p.tables e below (T40.setTop (mkF m 85 #[.val (.int p0_0), .val (.int p0_1), .val (.int (0 : Int32)), .val (.int (0 : Int32)), .val (.int MM), .val (.ref b8), .val (.int (0 : Int32)), .unset, .unset] [])) t → Steps p.tables e below (s₁.setTop (entryFrame m #[(.int p0_0), (.int p0_1)] maxLocals)) t := fun t k => pre42 t (by
      show Steps p.tables e below (T40.setTop (mkF m 83 #[.val (.int p0_0), .val (.int p0_1), .val (.int (0 : Int32)), .val (.int (0 : Int32)), .val (.int MM), .val (.ref b8), .unset, .unset, .unset] [(.int (0 : Int32))])) _
      refine XS.istore X40.here hx rfl (hb hby at_83) rfl (l' := #[.val (.int p0_0), .val (.int p0_1), .val (.int (0 : Int32)), .val (.int (0 : Int32)), .val (.int MM), .val (.ref b8), .val (.int (0 : Int32)), .unset, .unset]) rfl ?_
      exact k)
    obtain ⟨RR, hRR⟩ : ∃ z : Int32, z = (0 : Int32) := ⟨_, rfl⟩
    have pre44 : ∀ t, Steps p.tables e below (T40.setTop (mkF m 85 #[.val (.int p0_0), .val (.int p0_1), .val (.int (0 : Int32)), .val (.int (0 : Int32)), .val (.int MM), .val (.ref b8), .val (.int RR), .unset, .unset] [])) t → Steps p.tables e below (s₁.setTop (entryFrame m #[(.int p0_0), (.int p0_1)] maxLocals)) t := fun t k => pre43 t (castTop (by rw [hRR]) k)
    have hq46 : ¬ ((0 : Int32) < (0 : Int32)) := by
      decide
    obtain ⟨_, _, ⟨T45, L45, k45, n45⟩, -, X45, ⟨Lc45, hQ45, l45, y45, z45⟩, st45⟩ := Jvm.LawKit.callS X40 hx (y := mn1) hown (mvT hZ (hVV 9 _ rfl)) (mvT hZ (hVV 10 _ rfl)) (mvT hZ (hVV 3 _ rfl)) (mvT hZ (hVV 11 _ rfl)) (by decide) (backOf (W := 0) (rm3_o l Z a0 hw [] b8 (0 : Int32) k8 (0 : Int32) ([]) h8 n0 z10 V11 hq46) hZ (hVV 11 _ rfl) (hVV 3 _ rfl) (by decide) (by decide)) (g := (mkF m 96 #[.val (.int p0_0), .val (.int p0_1), .val (.int (0 : Int32)), .val (.int (0 : Int32)), .val (.int MM), .val (.ref b8), .val (.int RR), .val (.int ((MM + (1 : Int32)) &&& (0 : Int32))), .unset] [(.int (0 : Int32)), (.ref b8)])) rfl (by rw [hml]; rfl) (argsL := [(.ref b8), (.int (0 : Int32))]) (rest := []) (lenOf pd_2 rfl) rfl (by show 2 * 0 + _ ≤ _; exact Nat.le_of_eq rfl) (hb hby at_96) (fun _ _ => ⟨rfl, e40, (by decide : 1 + 0 ≤ _), (by decide : 0 + 0 ≤ _)⟩)
    dsimp only [Pt.U, Pt.locs, Pt.cells, Pt.slots] at X45 l45 y45 z45 st45 hQ45
    subst l45 y45 z45
    obtain ⟨rfl, N45q, e45⟩ := hQ45
    have N47 := Fr.app N41 N45q
    have pre48 : ∀ t, Steps p.tables e below (T45.setTop (mkF m 99 #[.val (.int p0_0), .val (.int p0_1), .val (.int (0 : Int32)), .val (.int (0 : Int32)), .val (.int MM), .val (.ref b8), .val (.int RR), .val (.int ((MM + (1 : Int32)) &&& (0 : Int32))), .unset] [(.int (0 : Int32))])) t → Steps p.tables e below (s₁.setTop (entryFrame m #[(.int p0_0), (.int p0_1)] maxLocals)) t := fun t k => pre44 t (by
      show Steps p.tables e below (T40.setTop (mkF m 85 #[.val (.int p0_0), .val (.int p0_1), .val (.int (0 : Int32)), .val (.int (0 : Int32)), .val (.int MM), .val (.ref b8), .val (.int RR), .unset, .unset] [])) _
      refine XS.iload X40.here hx rfl (hb hby at_85) rfl ?_
      refine XS.iconst X40.here hx rfl (hb hby at_87) ?_
      refine XS.iadd X40.here hx rfl (hb hby at_88) rfl ?_
      refine XS.iloadN X40.here hx rfl (hb hby at_89) rfl ?_
      refine XS.iand X40.here hx rfl (hb hby at_90) rfl ?_
      show Steps p.tables e below (T40.setTop (mkF m 91 #[.val (.int p0_0), .val (.int p0_1), .val (.int (0 : Int32)), .val (.int (0 : Int32)), .val (.int MM), .val (.ref b8), .val (.int RR), .unset, .unset] [(.int ((MM + (1 : Int32)) &&& (0 : Int32)))])) _
      refine XS.istore X40.here hx rfl (hb hby at_91) rfl (l' := #[.val (.int p0_0), .val (.int p0_1), .val (.int (0 : Int32)), .val (.int (0 : Int32)), .val (.int MM), .val (.ref b8), .val (.int RR), .val (.int ((MM + (1 : Int32)) &&& (0 : Int32))), .unset]) rfl ?_
      show Steps p.tables e below (T40.setTop (mkF m 93 #[.val (.int p0_0), .val (.int p0_1), .val (.int (0 : Int32)), .val (.int (0 : Int32)), .val (.int MM), .val (.ref b8), .val (.int RR), .val (.int ((MM + (1 : Int32)) &&& (0 : Int32))), .unset] [])) _
      refine XS.aload X40.here hx rfl (hb hby at_93) rfl rfl ?_
      refine XS.iconst X40.here hx rfl (hb hby at_95) ?_
      show Steps p.tables e below (T40.setTop (mkF m 96 #[.val (.int p0_0), .val (.int p0_1), .val (.int (0 : Int32)), .val (.int (0 : Int32)), .val (.int MM), .val (.ref b8), .val (.int RR), .val (.int ((MM + (1 : Int32)) &&& (0 : Int32))), .unset] [(.int (0 : Int32)), (.ref b8)])) _
      refine st45 _ ?_
      exact k)
    have hq50 : ¬ ((1 : Int32) < (0 : Int32)) := by
      decide
    obtain ⟨_, _, ⟨T49, L49, k49, n49⟩, -, X49, ⟨Lc49, hQ49, l49, y49, z49⟩, st49⟩ := Jvm.LawKit.callS X45 hx (y := mn1) hown (mvT hZ (hVV 9 _ rfl)) (mvT hZ (hVV 10 _ rfl)) (mvT hZ (hVV 3 _ rfl)) (mvT hZ (hVV 11 _ rfl)) (by decide) (backOf (W := 1) (rm3_o l Z a0 hw [] b8 (1 : Int32) k8 (0 : Int32) ([]) h8 n0 z10 V11 hq50) hZ (hVV 11 _ rfl) (hVV 3 _ rfl) (by decide) (by decide)) (g := (mkF m 102 #[.val (.int p0_0), .val (.int p0_1), .val (.int (0 : Int32)), .val (.int (0 : Int32)), .val (.int MM), .val (.ref b8), .val (.int RR), .val (.int ((MM + (1 : Int32)) &&& (0 : Int32))), .unset] [(.int (1 : Int32)), (.ref b8), (.int (0 : Int32))])) rfl (by rw [hml]; rfl) (argsL := [(.ref b8), (.int (1 : Int32))]) (rest := [(.int (0 : Int32))]) (lenOf pd_2 rfl) rfl (by show 2 * 0 + _ ≤ _; exact Nat.le_of_eq rfl) (hb hby at_102) (fun _ _ => ⟨rfl, e45, (by decide : 1 + 0 ≤ _), (by decide : 0 + 0 ≤ _)⟩)
    dsimp only [Pt.U, Pt.locs, Pt.cells, Pt.slots] at X49 l49 y49 z49 st49 hQ49
    subst l49 y49 z49
    obtain ⟨rfl, N49q, e49⟩ := hQ49
    have N51 := Fr.app N47 N49q
    have pre52 : ∀ t, Steps p.tables e below (T49.setTop (mkF m 105 #[.val (.int p0_0), .val (.int p0_1), .val (.int (0 : Int32)), .val (.int (0 : Int32)), .val (.int MM), .val (.ref b8), .val (.int RR), .val (.int ((MM + (1 : Int32)) &&& (0 : Int32))), .unset] [(.int (0 : Int32)), (.int (0 : Int32))])) t → Steps p.tables e below (s₁.setTop (entryFrame m #[(.int p0_0), (.int p0_1)] maxLocals)) t := fun t k => pre48 t (by
      show Steps p.tables e below (T45.setTop (mkF m 99 #[.val (.int p0_0), .val (.int p0_1), .val (.int (0 : Int32)), .val (.int (0 : Int32)), .val (.int MM), .val (.ref b8), .val (.int RR), .val (.int ((MM + (1 : Int32)) &&& (0 : Int32))), .unset] [(.int (0 : Int32))])) _
      refine XS.aload X45.here hx rfl (hb hby at_99) rfl rfl ?_
      refine XS.iconst X45.here hx rfl (hb hby at_101) ?_
      show Steps p.tables e below (T45.setTop (mkF m 102 #[.val (.int p0_0), .val (.int p0_1), .val (.int (0 : Int32)), .val (.int (0 : Int32)), .val (.int MM), .val (.ref b8), .val (.int RR), .val (.int ((MM + (1 : Int32)) &&& (0 : Int32))), .unset] [(.int (1 : Int32)), (.ref b8), (.int (0 : Int32))])) _
      refine st49 _ ?_
      exact k)
    have hq54 : ¬ ((2 : Int32) < (0 : Int32)) := by
      decide
    obtain ⟨_, _, ⟨T53, L53, k53, n53⟩, -, X53, ⟨Lc53, hQ53, l53, y53, z53⟩, st53⟩ := Jvm.LawKit.callS X49 hx (y := mn1) hown (mvT hZ (hVV 9 _ rfl)) (mvT hZ (hVV 10 _ rfl)) (mvT hZ (hVV 3 _ rfl)) (mvT hZ (hVV 11 _ rfl)) (by decide) (backOf (W := 1) (rm3_o l Z a0 hw [] b8 (2 : Int32) k8 (0 : Int32) ([]) h8 n0 z10 V11 hq54) hZ (hVV 11 _ rfl) (hVV 3 _ rfl) (by decide) (by decide)) (g := (mkF m 109 #[.val (.int p0_0), .val (.int p0_1), .val (.int (0 : Int32)), .val (.int (0 : Int32)), .val (.int MM), .val (.ref b8), .val (.int RR), .val (.int ((MM + (1 : Int32)) &&& (0 : Int32))), .unset] [(.int (2 : Int32)), (.ref b8), (.int ((0 : Int32) ||| (0 : Int32)))])) rfl (by rw [hml]; rfl) (argsL := [(.ref b8), (.int (2 : Int32))]) (rest := [(.int ((0 : Int32) ||| (0 : Int32)))]) (lenOf pd_2 rfl) rfl (by show 2 * 0 + _ ≤ _; exact Nat.le_of_eq rfl) (hb hby at_109) (fun _ _ => ⟨rfl, e49, (by decide : 1 + 0 ≤ _), (by decide : 0 + 0 ≤ _)⟩)
    dsimp only [Pt.U, Pt.locs, Pt.cells, Pt.slots] at X53 l53 y53 z53 st53 hQ53
    subst l53 y53 z53
    obtain ⟨rfl, N53q, e53⟩ := hQ53
    have N55 := Fr.app N51 N53q
    have pre56 : ∀ t, Steps p.tables e below (T53.setTop (mkF m 112 #[.val (.int p0_0), .val (.int p0_1), .val (.int (0 : Int32)), .val (.int (0 : Int32)), .val (.int MM), .val (.ref b8), .val (.int RR), .val (.int ((MM + (1 : Int32)) &&& (0 : Int32))), .unset] [(.int (0 : Int32)), (.int ((0 : Int32) ||| (0 : Int32)))])) t → Steps p.tables e below (s₁.setTop (entryFrame m #[(.int p0_0), (.int p0_1)] maxLocals)) t := fun t k => pre52 t (by
      show Steps p.tables e below (T49.setTop (mkF m 105 #[.val (.int p0_0), .val (.int p0_1), .val (.int (0 : Int32)), .val (.int (0 : Int32)), .val (.int MM), .val (.ref b8), .val (.int RR), .val (.int ((MM + (1 : Int32)) &&& (0 : Int32))), .unset] [(.int (0 : Int32)), (.int (0 : Int32))])) _
      refine XS.ior X49.here hx rfl (hb hby at_105) rfl ?_
      refine XS.aload X49.here hx rfl (hb hby at_106) rfl rfl ?_
      refine XS.iconst X49.here hx rfl (hb hby at_108) ?_
      show Steps p.tables e below (T49.setTop (mkF m 109 #[.val (.int p0_0), .val (.int p0_1), .val (.int (0 : Int32)), .val (.int (0 : Int32)), .val (.int MM), .val (.ref b8), .val (.int RR), .val (.int ((MM + (1 : Int32)) &&& (0 : Int32))), .unset] [(.int (2 : Int32)), (.ref b8), (.int ((0 : Int32) ||| (0 : Int32)))])) _
      refine st53 _ ?_
      exact k)
    have hq58 : ¬ ((3 : Int32) < (0 : Int32)) := by
      decide
    obtain ⟨_, _, ⟨T57, L57, k57, n57⟩, -, X57, ⟨Lc57, hQ57, l57, y57, z57⟩, st57⟩ := Jvm.LawKit.callS X53 hx (y := mn1) hown (mvT hZ (hVV 9 _ rfl)) (mvT hZ (hVV 10 _ rfl)) (mvT hZ (hVV 3 _ rfl)) (mvT hZ (hVV 11 _ rfl)) (by decide) (backOf (W := 1) (rm3_o l Z a0 hw [] b8 (3 : Int32) k8 (0 : Int32) ([]) h8 n0 z10 V11 hq58) hZ (hVV 11 _ rfl) (hVV 3 _ rfl) (by decide) (by decide)) (g := (mkF m 116 #[.val (.int p0_0), .val (.int p0_1), .val (.int (0 : Int32)), .val (.int (0 : Int32)), .val (.int MM), .val (.ref b8), .val (.int RR), .val (.int ((MM + (1 : Int32)) &&& (0 : Int32))), .unset] [(.int (3 : Int32)), (.ref b8), (.int (((0 : Int32) ||| (0 : Int32)) ||| (0 : Int32)))])) rfl (by rw [hml]; rfl) (argsL := [(.ref b8), (.int (3 : Int32))]) (rest := [(.int (((0 : Int32) ||| (0 : Int32)) ||| (0 : Int32)))]) (lenOf pd_2 rfl) rfl (by show 2 * 0 + _ ≤ _; exact Nat.le_of_eq rfl) (hb hby at_116) (fun _ _ => ⟨rfl, e53, (by decide : 1 + 0 ≤ _), (by decide : 0 + 0 ≤ _)⟩)
    dsimp only [Pt.U, Pt.locs, Pt.cells, Pt.slots] at X57 l57 y57 z57 st57 hQ57
    subst l57 y57 z57
    obtain ⟨rfl, N57q, e57⟩ := hQ57
    have N59 := Fr.app N55 N57q
    have pre60 : ∀ t, Steps p.tables e below (T57.setTop (mkF m 119 #[.val (.int p0_0), .val (.int p0_1), .val (.int (0 : Int32)), .val (.int (0 : Int32)), .val (.int MM), .val (.ref b8), .val (.int RR), .val (.int ((MM + (1 : Int32)) &&& (0 : Int32))), .unset] [(.int (0 : Int32)), (.int (((0 : Int32) ||| (0 : Int32)) ||| (0 : Int32)))])) t → Steps p.tables e below (s₁.setTop (entryFrame m #[(.int p0_0), (.int p0_1)] maxLocals)) t := fun t k => pre56 t (by
      show Steps p.tables e below (T53.setTop (mkF m 112 #[.val (.int p0_0), .val (.int p0_1), .val (.int (0 : Int32)), .val (.int (0 : Int32)), .val (.int MM), .val (.ref b8), .val (.int RR), .val (.int ((MM + (1 : Int32)) &&& (0 : Int32))), .unset] [(.int (0 : Int32)), (.int ((0 : Int32) ||| (0 : Int32)))])) _
      refine XS.ior X53.here hx rfl (hb hby at_112) rfl ?_
      refine XS.aload X53.here hx rfl (hb hby at_113) rfl rfl ?_
      refine XS.iconst X53.here hx rfl (hb hby at_115) ?_
      show Steps p.tables e below (T53.setTop (mkF m 116 #[.val (.int p0_0), .val (.int p0_1), .val (.int (0 : Int32)), .val (.int (0 : Int32)), .val (.int MM), .val (.ref b8), .val (.int RR), .val (.int ((MM + (1 : Int32)) &&& (0 : Int32))), .unset] [(.int (3 : Int32)), (.ref b8), (.int (((0 : Int32) ||| (0 : Int32)) ||| (0 : Int32)))])) _
      refine st57 _ ?_
      exact k)
    have hq62 : ¬ ((4 : Int32) < (0 : Int32)) := by
      decide
    obtain ⟨_, _, ⟨T61, L61, k61, n61⟩, -, X61, ⟨Lc61, hQ61, l61, y61, z61⟩, st61⟩ := Jvm.LawKit.callS X57 hx (y := mn1) hown (mvT hZ (hVV 9 _ rfl)) (mvT hZ (hVV 10 _ rfl)) (mvT hZ (hVV 3 _ rfl)) (mvT hZ (hVV 11 _ rfl)) (by decide) (backOf (W := 1) (rm3_o l Z a0 hw [] b8 (4 : Int32) k8 (0 : Int32) ([]) h8 n0 z10 V11 hq62) hZ (hVV 11 _ rfl) (hVV 3 _ rfl) (by decide) (by decide)) (g := (mkF m 123 #[.val (.int p0_0), .val (.int p0_1), .val (.int (0 : Int32)), .val (.int (0 : Int32)), .val (.int MM), .val (.ref b8), .val (.int RR), .val (.int ((MM + (1 : Int32)) &&& (0 : Int32))), .unset] [(.int (4 : Int32)), (.ref b8), (.int ((((0 : Int32) ||| (0 : Int32)) ||| (0 : Int32)) ||| (0 : Int32)))])) rfl (by rw [hml]; rfl) (argsL := [(.ref b8), (.int (4 : Int32))]) (rest := [(.int ((((0 : Int32) ||| (0 : Int32)) ||| (0 : Int32)) ||| (0 : Int32)))]) (lenOf pd_2 rfl) rfl (by show 2 * 0 + _ ≤ _; exact Nat.le_of_eq rfl) (hb hby at_123) (fun _ _ => ⟨rfl, e57, (by decide : 1 + 0 ≤ _), (by decide : 0 + 0 ≤ _)⟩)
    dsimp only [Pt.U, Pt.locs, Pt.cells, Pt.slots] at X61 l61 y61 z61 st61 hQ61
    subst l61 y61 z61
    obtain ⟨rfl, N61q, e61⟩ := hQ61
    have N63 := Fr.app N59 N61q
    have pre64 : ∀ t, Steps p.tables e below (T61.setTop (mkF m 126 #[.val (.int p0_0), .val (.int p0_1), .val (.int (0 : Int32)), .val (.int (0 : Int32)), .val (.int MM), .val (.ref b8), .val (.int RR), .val (.int ((MM + (1 : Int32)) &&& (0 : Int32))), .unset] [(.int (0 : Int32)), (.int ((((0 : Int32) ||| (0 : Int32)) ||| (0 : Int32)) ||| (0 : Int32)))])) t → Steps p.tables e below (s₁.setTop (entryFrame m #[(.int p0_0), (.int p0_1)] maxLocals)) t := fun t k => pre60 t (by
      show Steps p.tables e below (T57.setTop (mkF m 119 #[.val (.int p0_0), .val (.int p0_1), .val (.int (0 : Int32)), .val (.int (0 : Int32)), .val (.int MM), .val (.ref b8), .val (.int RR), .val (.int ((MM + (1 : Int32)) &&& (0 : Int32))), .unset] [(.int (0 : Int32)), (.int (((0 : Int32) ||| (0 : Int32)) ||| (0 : Int32)))])) _
      refine XS.ior X57.here hx rfl (hb hby at_119) rfl ?_
      refine XS.aload X57.here hx rfl (hb hby at_120) rfl rfl ?_
      refine XS.iconst X57.here hx rfl (hb hby at_122) ?_
      show Steps p.tables e below (T57.setTop (mkF m 123 #[.val (.int p0_0), .val (.int p0_1), .val (.int (0 : Int32)), .val (.int (0 : Int32)), .val (.int MM), .val (.ref b8), .val (.int RR), .val (.int ((MM + (1 : Int32)) &&& (0 : Int32))), .unset] [(.int (4 : Int32)), (.ref b8), (.int ((((0 : Int32) ||| (0 : Int32)) ||| (0 : Int32)) ||| (0 : Int32)))])) _
      refine st61 _ ?_
      exact k)
    have hq66 : ¬ ((5 : Int32) < (0 : Int32)) := by
      decide
    obtain ⟨_, _, ⟨T65, L65, k65, n65⟩, -, X65, ⟨Lc65, hQ65, l65, y65, z65⟩, st65⟩ := Jvm.LawKit.callS X61 hx (y := mn1) hown (mvT hZ (hVV 9 _ rfl)) (mvT hZ (hVV 10 _ rfl)) (mvT hZ (hVV 3 _ rfl)) (mvT hZ (hVV 11 _ rfl)) (by decide) (backOf (W := 1) (rm3_o l Z a0 hw [] b8 (5 : Int32) k8 (0 : Int32) ([]) h8 n0 z10 V11 hq66) hZ (hVV 11 _ rfl) (hVV 3 _ rfl) (by decide) (by decide)) (g := (mkF m 130 #[.val (.int p0_0), .val (.int p0_1), .val (.int (0 : Int32)), .val (.int (0 : Int32)), .val (.int MM), .val (.ref b8), .val (.int RR), .val (.int ((MM + (1 : Int32)) &&& (0 : Int32))), .unset] [(.int (5 : Int32)), (.ref b8), (.int (((((0 : Int32) ||| (0 : Int32)) ||| (0 : Int32)) ||| (0 : Int32)) ||| (0 : Int32)))])) rfl (by rw [hml]; rfl) (argsL := [(.ref b8), (.int (5 : Int32))]) (rest := [(.int (((((0 : Int32) ||| (0 : Int32)) ||| (0 : Int32)) ||| (0 : Int32)) ||| (0 : Int32)))]) (lenOf pd_2 rfl) rfl (by show 2 * 0 + _ ≤ _; exact Nat.le_of_eq rfl) (hb hby at_130) (fun _ _ => ⟨rfl, e61, (by decide : 1 + 0 ≤ _), (by decide : 0 + 0 ≤ _)⟩)
    dsimp only [Pt.U, Pt.locs, Pt.cells, Pt.slots] at X65 l65 y65 z65 st65 hQ65
    subst l65 y65 z65
    obtain ⟨rfl, N65q, e65⟩ := hQ65
    have N67 := Fr.app N63 N65q
    have pre68 : ∀ t, Steps p.tables e below (T65.setTop (mkF m 133 #[.val (.int p0_0), .val (.int p0_1), .val (.int (0 : Int32)), .val (.int (0 : Int32)), .val (.int MM), .val (.ref b8), .val (.int RR), .val (.int ((MM + (1 : Int32)) &&& (0 : Int32))), .unset] [(.int (0 : Int32)), (.int (((((0 : Int32) ||| (0 : Int32)) ||| (0 : Int32)) ||| (0 : Int32)) ||| (0 : Int32)))])) t → Steps p.tables e below (s₁.setTop (entryFrame m #[(.int p0_0), (.int p0_1)] maxLocals)) t := fun t k => pre64 t (by
      show Steps p.tables e below (T61.setTop (mkF m 126 #[.val (.int p0_0), .val (.int p0_1), .val (.int (0 : Int32)), .val (.int (0 : Int32)), .val (.int MM), .val (.ref b8), .val (.int RR), .val (.int ((MM + (1 : Int32)) &&& (0 : Int32))), .unset] [(.int (0 : Int32)), (.int ((((0 : Int32) ||| (0 : Int32)) ||| (0 : Int32)) ||| (0 : Int32)))])) _
      refine XS.ior X61.here hx rfl (hb hby at_126) rfl ?_
      refine XS.aload X61.here hx rfl (hb hby at_127) rfl rfl ?_
      refine XS.iconst X61.here hx rfl (hb hby at_129) ?_
      show Steps p.tables e below (T61.setTop (mkF m 130 #[.val (.int p0_0), .val (.int p0_1), .val (.int (0 : Int32)), .val (.int (0 : Int32)), .val (.int MM), .val (.ref b8), .val (.int RR), .val (.int ((MM + (1 : Int32)) &&& (0 : Int32))), .unset] [(.int (5 : Int32)), (.ref b8), (.int (((((0 : Int32) ||| (0 : Int32)) ||| (0 : Int32)) ||| (0 : Int32)) ||| (0 : Int32)))])) _
      refine st65 _ ?_
      exact k)
    have hq70 : ¬ ((6 : Int32) < (0 : Int32)) := by
      decide
    obtain ⟨_, _, ⟨T69, L69, k69, n69⟩, -, X69, ⟨Lc69, hQ69, l69, y69, z69⟩, st69⟩ := Jvm.LawKit.callS X65 hx (y := mn1) hown (mvT hZ (hVV 9 _ rfl)) (mvT hZ (hVV 10 _ rfl)) (mvT hZ (hVV 3 _ rfl)) (mvT hZ (hVV 11 _ rfl)) (by decide) (backOf (W := 1) (rm3_o l Z a0 hw [] b8 (6 : Int32) k8 (0 : Int32) ([]) h8 n0 z10 V11 hq70) hZ (hVV 11 _ rfl) (hVV 3 _ rfl) (by decide) (by decide)) (g := (mkF m 138 #[.val (.int p0_0), .val (.int p0_1), .val (.int (0 : Int32)), .val (.int (0 : Int32)), .val (.int MM), .val (.ref b8), .val (.int RR), .val (.int ((MM + (1 : Int32)) &&& (0 : Int32))), .unset] [(.int (6 : Int32)), (.ref b8), (.int ((((((0 : Int32) ||| (0 : Int32)) ||| (0 : Int32)) ||| (0 : Int32)) ||| (0 : Int32)) ||| (0 : Int32)))])) rfl (by rw [hml]; rfl) (argsL := [(.ref b8), (.int (6 : Int32))]) (rest := [(.int ((((((0 : Int32) ||| (0 : Int32)) ||| (0 : Int32)) ||| (0 : Int32)) ||| (0 : Int32)) ||| (0 : Int32)))]) (lenOf pd_2 rfl) rfl (by show 2 * 0 + _ ≤ _; exact Nat.le_of_eq rfl) (hb hby at_138) (fun _ _ => ⟨rfl, e65, (by decide : 1 + 0 ≤ _), (by decide : 0 + 0 ≤ _)⟩)
    dsimp only [Pt.U, Pt.locs, Pt.cells, Pt.slots] at X69 l69 y69 z69 st69 hQ69
    subst l69 y69 z69
    obtain ⟨rfl, N69q, e69⟩ := hQ69
    have N71 := Fr.app N67 N69q
    have pre72 : ∀ t, Steps p.tables e below (T69.setTop (mkF m 141 #[.val (.int p0_0), .val (.int p0_1), .val (.int (0 : Int32)), .val (.int (0 : Int32)), .val (.int MM), .val (.ref b8), .val (.int RR), .val (.int ((MM + (1 : Int32)) &&& (0 : Int32))), .unset] [(.int (0 : Int32)), (.int ((((((0 : Int32) ||| (0 : Int32)) ||| (0 : Int32)) ||| (0 : Int32)) ||| (0 : Int32)) ||| (0 : Int32)))])) t → Steps p.tables e below (s₁.setTop (entryFrame m #[(.int p0_0), (.int p0_1)] maxLocals)) t := fun t k => pre68 t (by
      show Steps p.tables e below (T65.setTop (mkF m 133 #[.val (.int p0_0), .val (.int p0_1), .val (.int (0 : Int32)), .val (.int (0 : Int32)), .val (.int MM), .val (.ref b8), .val (.int RR), .val (.int ((MM + (1 : Int32)) &&& (0 : Int32))), .unset] [(.int (0 : Int32)), (.int (((((0 : Int32) ||| (0 : Int32)) ||| (0 : Int32)) ||| (0 : Int32)) ||| (0 : Int32)))])) _
      refine XS.ior X65.here hx rfl (hb hby at_133) rfl ?_
      refine XS.aload X65.here hx rfl (hb hby at_134) rfl rfl ?_
      refine XS.bipush X65.here hx rfl (hb hby at_136) ?_
      show Steps p.tables e below (T65.setTop (mkF m 138 #[.val (.int p0_0), .val (.int p0_1), .val (.int (0 : Int32)), .val (.int (0 : Int32)), .val (.int MM), .val (.ref b8), .val (.int RR), .val (.int ((MM + (1 : Int32)) &&& (0 : Int32))), .unset] [(.int (6 : Int32)), (.ref b8), (.int ((((((0 : Int32) ||| (0 : Int32)) ||| (0 : Int32)) ||| (0 : Int32)) ||| (0 : Int32)) ||| (0 : Int32)))])) _
      refine st69 _ ?_
      exact k)
    obtain ⟨cl73, Ar73, q73, S73, N73, H73, G73⟩ := id V11
    have pre75 : ∀ t, Steps p.tables e below (T69.setTop (mkF m 156 #[.val (.int p0_0), .val (.int p0_1), .val (.int (0 : Int32)), .val (.int (0 : Int32)), .val (.int MM), .val (.ref b8), .val (.int RR), .val (.int ((MM + (1 : Int32)) &&& (0 : Int32))), .val (.int (((((((0 : Int32) ||| (0 : Int32)) ||| (0 : Int32)) ||| (0 : Int32)) ||| (0 : Int32)) ||| (0 : Int32)) ||| (0 : Int32)))] [(.int (0 : Int32)), (.int MM), (.int RR)])) t → Steps p.tables e below (s₁.setTop (entryFrame m #[(.int p0_0), (.int p0_1)] maxLocals)) t := fun t k => pre72 t (by
      show Steps p.tables e below (T69.setTop (mkF m 141 #[.val (.int p0_0), .val (.int p0_1), .val (.int (0 : Int32)), .val (.int (0 : Int32)), .val (.int MM), .val (.ref b8), .val (.int RR), .val (.int ((MM + (1 : Int32)) &&& (0 : Int32))), .unset] [(.int (0 : Int32)), (.int ((((((0 : Int32) ||| (0 : Int32)) ||| (0 : Int32)) ||| (0 : Int32)) ||| (0 : Int32)) ||| (0 : Int32)))])) _
      refine XS.ior X69.here hx rfl (hb hby at_141) rfl ?_
      show Steps p.tables e below (T69.setTop (mkF m 142 #[.val (.int p0_0), .val (.int p0_1), .val (.int (0 : Int32)), .val (.int (0 : Int32)), .val (.int MM), .val (.ref b8), .val (.int RR), .val (.int ((MM + (1 : Int32)) &&& (0 : Int32))), .unset] [(.int (((((((0 : Int32) ||| (0 : Int32)) ||| (0 : Int32)) ||| (0 : Int32)) ||| (0 : Int32)) ||| (0 : Int32)) ||| (0 : Int32)))])) _
      refine XS.istore X69.here hx rfl (hb hby at_142) rfl (l' := #[.val (.int p0_0), .val (.int p0_1), .val (.int (0 : Int32)), .val (.int (0 : Int32)), .val (.int MM), .val (.ref b8), .val (.int RR), .val (.int ((MM + (1 : Int32)) &&& (0 : Int32))), .val (.int (((((((0 : Int32) ||| (0 : Int32)) ||| (0 : Int32)) ||| (0 : Int32)) ||| (0 : Int32)) ||| (0 : Int32)) ||| (0 : Int32)))]) rfl ?_
      show Steps p.tables e below (T69.setTop (mkF m 144 #[.val (.int p0_0), .val (.int p0_1), .val (.int (0 : Int32)), .val (.int (0 : Int32)), .val (.int MM), .val (.ref b8), .val (.int RR), .val (.int ((MM + (1 : Int32)) &&& (0 : Int32))), .val (.int (((((((0 : Int32) ||| (0 : Int32)) ||| (0 : Int32)) ||| (0 : Int32)) ||| (0 : Int32)) ||| (0 : Int32)) ||| (0 : Int32)))] [])) _
      refine XS.aload X69.here hx rfl (hb hby at_144) rfl rfl ?_
      show Steps p.tables e below (T69.setTop (mkF m 146 #[.val (.int p0_0), .val (.int p0_1), .val (.int (0 : Int32)), .val (.int (0 : Int32)), .val (.int MM), .val (.ref b8), .val (.int RR), .val (.int ((MM + (1 : Int32)) &&& (0 : Int32))), .val (.int (((((((0 : Int32) ||| (0 : Int32)) ||| (0 : Int32)) ||| (0 : Int32)) ||| (0 : Int32)) ||| (0 : Int32)) ||| (0 : Int32)))] [(.ref b8)])) _
      refine X69.arraylength hx (by rw [e69]; exact Ar73.1) (State.isArrayOf_alike hZ.alike Ar73.2.1) (g := (mkF m 146 #[.val (.int p0_0), .val (.int p0_1), .val (.int (0 : Int32)), .val (.int (0 : Int32)), .val (.int MM), .val (.ref b8), .val (.int RR), .val (.int ((MM + (1 : Int32)) &&& (0 : Int32))), .val (.int (((((((0 : Int32) ||| (0 : Int32)) ||| (0 : Int32)) ||| (0 : Int32)) ||| (0 : Int32)) ||| (0 : Int32)) ||| (0 : Int32)))] [(.ref b8)])) rfl rfl (hb hby at_146) _ ?_
      rw [len_of S73 N73]
      show Steps p.tables e below (T69.setTop (mkF m 147 #[.val (.int p0_0), .val (.int p0_1), .val (.int (0 : Int32)), .val (.int (0 : Int32)), .val (.int MM), .val (.ref b8), .val (.int RR), .val (.int ((MM + (1 : Int32)) &&& (0 : Int32))), .val (.int (((((((0 : Int32) ||| (0 : Int32)) ||| (0 : Int32)) ||| (0 : Int32)) ||| (0 : Int32)) ||| (0 : Int32)) ||| (0 : Int32)))] [(.int (0 : Int32))])) _
      refine XS.iloadN X69.here hx rfl (hb hby at_147) rfl ?_
      show Steps p.tables e below (T69.setTop (mkF m 148 #[.val (.int p0_0), .val (.int p0_1), .val (.int (0 : Int32)), .val (.int (0 : Int32)), .val (.int MM), .val (.ref b8), .val (.int RR), .val (.int ((MM + (1 : Int32)) &&& (0 : Int32))), .val (.int (((((((0 : Int32) ||| (0 : Int32)) ||| (0 : Int32)) ||| (0 : Int32)) ||| (0 : Int32)) ||| (0 : Int32)) ||| (0 : Int32)))] [(.int (0 : Int32)), (.int (0 : Int32))])) _
      refine XS.icmpNo X69.here hx rfl (hb hby at_148) rfl (teq (by decide : (0 : Int32) = (0 : Int32))).2 ?_
      show Steps p.tables e below (T69.setTop (mkF m 151 #[.val (.int p0_0), .val (.int p0_1), .val (.int (0 : Int32)), .val (.int (0 : Int32)), .val (.int MM), .val (.ref b8), .val (.int RR), .val (.int ((MM + (1 : Int32)) &&& (0 : Int32))), .val (.int (((((((0 : Int32) ||| (0 : Int32)) ||| (0 : Int32)) ||| (0 : Int32)) ||| (0 : Int32)) ||| (0 : Int32)) ||| (0 : Int32)))] [])) _
      refine XS.iload X69.here hx rfl (hb hby at_151) rfl ?_
      refine XS.iload X69.here hx rfl (hb hby at_153) rfl ?_
      refine XS.iloadN X69.here hx rfl (hb hby at_155) rfl ?_
      exact k)
    have pre76 : ∀ t, Steps p.tables e below (T69.setTop (mkF m 164 #[.val (.int p0_0), .val (.int p0_1), .val (.int (0 : Int32)), .val (.int (0 : Int32)), .val (.int MM), .val (.ref b8), .val (.int RR), .val (.int ((MM + (1 : Int32)) &&& (0 : Int32))), .val (.int (((((((0 : Int32) ||| (0 : Int32)) ||| (0 : Int32)) ||| (0 : Int32)) ||| (0 : Int32)) ||| (0 : Int32)) ||| (0 : Int32)))] [(.int (bI (¬ (MM = (0 : Int32))))), (.int RR)])) t → Steps p.tables e below (s₁.setTop (entryFrame m #[(.int p0_0), (.int p0_1)] maxLocals)) t := fun t k => pre75 t (by
      by_cases hc74 : MM = (0 : Int32)
      · show Steps p.tables e below (T69.setTop (mkF m 156 #[.val (.int p0_0), .val (.int p0_1), .val (.int (0 : Int32)), .val (.int (0 : Int32)), .val (.int MM), .val (.ref b8), .val (.int RR), .val (.int ((MM + (1 : Int32)) &&& (0 : Int32))), .val (.int (((((((0 : Int32) ||| (0 : Int32)) ||| (0 : Int32)) ||| (0 : Int32)) ||| (0 : Int32)) ||| (0 : Int32)) ||| (0 : Int32)))] [(.int (0 : Int32)), (.int MM), (.int RR)])) _
        refine XS.icmpYes X69.here hx rfl (pc0 := 156) (pc' := 163) rfl (hb hby at_156) rfl (teq hc74).1 (by decide) (by decide) ?_
        show Steps p.tables e below (T69.setTop (mkF m 163 #[.val (.int p0_0), .val (.int p0_1), .val (.int (0 : Int32)), .val (.int (0 : Int32)), .val (.int MM), .val (.ref b8), .val (.int RR), .val (.int ((MM + (1 : Int32)) &&& (0 : Int32))), .val (.int (((((((0 : Int32) ||| (0 : Int32)) ||| (0 : Int32)) ||| (0 : Int32)) ||| (0 : Int32)) ||| (0 : Int32)) ||| (0 : Int32)))] [(.int RR)])) _
        refine XS.iconst X69.here hx rfl (hb hby at_163) ?_
        have q77 : (bI (¬ (MM = (0 : Int32)))) = (0 : Int32) := (bI_f (fun q => q hc74))
        exact castTop (g := (mkF m 164 #[.val (.int p0_0), .val (.int p0_1), .val (.int (0 : Int32)), .val (.int (0 : Int32)), .val (.int MM), .val (.ref b8), .val (.int RR), .val (.int ((MM + (1 : Int32)) &&& (0 : Int32))), .val (.int (((((((0 : Int32) ||| (0 : Int32)) ||| (0 : Int32)) ||| (0 : Int32)) ||| (0 : Int32)) ||| (0 : Int32)) ||| (0 : Int32)))] [(.int (0 : Int32)), (.int RR)])) (g' := (mkF m 164 #[.val (.int p0_0), .val (.int p0_1), .val (.int (0 : Int32)), .val (.int (0 : Int32)), .val (.int MM), .val (.ref b8), .val (.int RR), .val (.int ((MM + (1 : Int32)) &&& (0 : Int32))), .val (.int (((((((0 : Int32) ||| (0 : Int32)) ||| (0 : Int32)) ||| (0 : Int32)) ||| (0 : Int32)) ||| (0 : Int32)) ||| (0 : Int32)))] [(.int (bI (¬ (MM = (0 : Int32))))), (.int RR)])) (by simp only [q77]) k
      · show Steps p.tables e below (T69.setTop (mkF m 156 #[.val (.int p0_0), .val (.int p0_1), .val (.int (0 : Int32)), .val (.int (0 : Int32)), .val (.int MM), .val (.ref b8), .val (.int RR), .val (.int ((MM + (1 : Int32)) &&& (0 : Int32))), .val (.int (((((((0 : Int32) ||| (0 : Int32)) ||| (0 : Int32)) ||| (0 : Int32)) ||| (0 : Int32)) ||| (0 : Int32)) ||| (0 : Int32)))] [(.int (0 : Int32)), (.int MM), (.int RR)])) _
        refine XS.icmpNo X69.here hx rfl (hb hby at_156) rfl (feq hc74).1 ?_
        show Steps p.tables e below (T69.setTop (mkF m 159 #[.val (.int p0_0), .val (.int p0_1), .val (.int (0 : Int32)), .val (.int (0 : Int32)), .val (.int MM), .val (.ref b8), .val (.int RR), .val (.int ((MM + (1 : Int32)) &&& (0 : Int32))), .val (.int (((((((0 : Int32) ||| (0 : Int32)) ||| (0 : Int32)) ||| (0 : Int32)) ||| (0 : Int32)) ||| (0 : Int32)) ||| (0 : Int32)))] [(.int RR)])) _
        refine XS.iconst X69.here hx rfl (hb hby at_159) ?_
        show Steps p.tables e below (T69.setTop (mkF m 160 #[.val (.int p0_0), .val (.int p0_1), .val (.int (0 : Int32)), .val (.int (0 : Int32)), .val (.int MM), .val (.ref b8), .val (.int RR), .val (.int ((MM + (1 : Int32)) &&& (0 : Int32))), .val (.int (((((((0 : Int32) ||| (0 : Int32)) ||| (0 : Int32)) ||| (0 : Int32)) ||| (0 : Int32)) ||| (0 : Int32)) ||| (0 : Int32)))] [(.int (1 : Int32)), (.int RR)])) _
        refine XS.goto X69.here hx rfl (pc0 := 160) (pc' := 164) rfl (hb hby at_160) (by decide) (by decide) ?_
        have q78 : (bI (¬ (MM = (0 : Int32)))) = (1 : Int32) := (bI_t hc74)
        exact castTop (g := (mkF m 164 #[.val (.int p0_0), .val (.int p0_1), .val (.int (0 : Int32)), .val (.int (0 : Int32)), .val (.int MM), .val (.ref b8), .val (.int RR), .val (.int ((MM + (1 : Int32)) &&& (0 : Int32))), .val (.int (((((((0 : Int32) ||| (0 : Int32)) ||| (0 : Int32)) ||| (0 : Int32)) ||| (0 : Int32)) ||| (0 : Int32)) ||| (0 : Int32)))] [(.int (1 : Int32)), (.int RR)])) (g' := (mkF m 164 #[.val (.int p0_0), .val (.int p0_1), .val (.int (0 : Int32)), .val (.int (0 : Int32)), .val (.int MM), .val (.ref b8), .val (.int RR), .val (.int ((MM + (1 : Int32)) &&& (0 : Int32))), .val (.int (((((((0 : Int32) ||| (0 : Int32)) ||| (0 : Int32)) ||| (0 : Int32)) ||| (0 : Int32)) ||| (0 : Int32)) ||| (0 : Int32)))] [(.int (bI (¬ (MM = (0 : Int32))))), (.int RR)])) (by simp only [q78]) k)
    have hd79 : RR = (bI (¬ (MM = (0 : Int32)))) := by
      rw [hRR]
      exact own_fin (P := fun y : Int32 => (0 : Int32) = (bI (¬ (y = (0 : Int32))))) own_r_0 MM hM.1 hM.2
    have hd80 : (((((((0 : Int32) ||| (0 : Int32)) ||| (0 : Int32)) ||| (0 : Int32)) ||| (0 : Int32)) ||| (0 : Int32)) ||| (0 : Int32)) = ((MM + (1 : Int32)) &&& (0 : Int32)) := by
      exact own_fin (P := fun y : Int32 => (((((((0 : Int32) ||| (0 : Int32)) ||| (0 : Int32)) ||| (0 : Int32)) ||| (0 : Int32)) ||| (0 : Int32)) ||| (0 : Int32)) = ((y + (1 : Int32)) &&& (0 : Int32))) own_g_0 MM hM.1 hM.2
    obtain ⟨fs, hr, hrun, hended, hW, hsame⟩ := X69.leave (v := some (.int (1 : Int32))) (fun h => by rw [Bd.returns] at h; cases h)
    refine ⟨_, _, pre76 _ ?_, hrun, hended, _, _, rfl, ?_, ⟨_, rfl⟩, hW, hsame.mono (by decide) (by decide)⟩
    · show Steps p.tables e below (T69.setTop (mkF m 164 #[.val (.int p0_0), .val (.int p0_1), .val (.int (0 : Int32)), .val (.int (0 : Int32)), .val (.int MM), .val (.ref b8), .val (.int RR), .val (.int ((MM + (1 : Int32)) &&& (0 : Int32))), .val (.int (((((((0 : Int32) ||| (0 : Int32)) ||| (0 : Int32)) ||| (0 : Int32)) ||| (0 : Int32)) ||| (0 : Int32)) ||| (0 : Int32)))] [(.int (bI (¬ (MM = (0 : Int32))))), (.int RR)])) _
      refine XS.icmpNo X69.here hx rfl (hb hby at_164) rfl (teq hd79).2 ?_
      show Steps p.tables e below (T69.setTop (mkF m 167 #[.val (.int p0_0), .val (.int p0_1), .val (.int (0 : Int32)), .val (.int (0 : Int32)), .val (.int MM), .val (.ref b8), .val (.int RR), .val (.int ((MM + (1 : Int32)) &&& (0 : Int32))), .val (.int (((((((0 : Int32) ||| (0 : Int32)) ||| (0 : Int32)) ||| (0 : Int32)) ||| (0 : Int32)) ||| (0 : Int32)) ||| (0 : Int32)))] [])) _
      refine XS.iload X69.here hx rfl (hb hby at_167) rfl ?_
      refine XS.iload X69.here hx rfl (hb hby at_169) rfl ?_
      show Steps p.tables e below (T69.setTop (mkF m 171 #[.val (.int p0_0), .val (.int p0_1), .val (.int (0 : Int32)), .val (.int (0 : Int32)), .val (.int MM), .val (.ref b8), .val (.int RR), .val (.int ((MM + (1 : Int32)) &&& (0 : Int32))), .val (.int (((((((0 : Int32) ||| (0 : Int32)) ||| (0 : Int32)) ||| (0 : Int32)) ||| (0 : Int32)) ||| (0 : Int32)) ||| (0 : Int32)))] [(.int ((MM + (1 : Int32)) &&& (0 : Int32))), (.int (((((((0 : Int32) ||| (0 : Int32)) ||| (0 : Int32)) ||| (0 : Int32)) ||| (0 : Int32)) ||| (0 : Int32)) ||| (0 : Int32)))])) _
      refine XS.icmpNo X69.here hx rfl (hb hby at_171) rfl (teq hd80).2 ?_
      show Steps p.tables e below (T69.setTop (mkF m 174 #[.val (.int p0_0), .val (.int p0_1), .val (.int (0 : Int32)), .val (.int (0 : Int32)), .val (.int MM), .val (.ref b8), .val (.int RR), .val (.int ((MM + (1 : Int32)) &&& (0 : Int32))), .val (.int (((((((0 : Int32) ||| (0 : Int32)) ||| (0 : Int32)) ||| (0 : Int32)) ||| (0 : Int32)) ||| (0 : Int32)) ||| (0 : Int32)))] [])) _
      refine XS.iconst X69.here hx rfl (hb hby at_174) ?_
      refine XS.goto X69.here hx rfl (pc0 := 175) (pc' := 179) rfl (hb hby at_175) (by decide) (by decide) ?_
      show Steps p.tables e below (T69.setTop (mkF m 179 #[.val (.int p0_0), .val (.int p0_1), .val (.int (0 : Int32)), .val (.int (0 : Int32)), .val (.int MM), .val (.ref b8), .val (.int RR), .val (.int ((MM + (1 : Int32)) &&& (0 : Int32))), .val (.int (((((((0 : Int32) ||| (0 : Int32)) ||| (0 : Int32)) ||| (0 : Int32)) ||| (0 : Int32)) ||| (0 : Int32)) ||| (0 : Int32)))] [(.int (1 : Int32))])) _
      exact retN X69 hx (t := .boolean) Bd.returns (by simp) (hb hby at_179) hr
    · show Q0 Z p0_0 p0_1 h0 n0 _ T69.heap _
      rw [e69]
      exact ⟨rfl, N71⟩
  · have pre81 : ∀ t, Steps p.tables e below (s₁.setTop (mkF m 5 #[.val (.int p0_0), .val (.int p0_1), .val (.int (1 : Int32)), .unset, .unset, .unset, .unset, .unset, .unset] [])) t → Steps p.tables e below (s₁.setTop (entryFrame m #[(.int p0_0), (.int p0_1)] maxLocals)) t := fun t k => pre1 t (castTop (by rw [hk]) k)
    have pre82 : ∀ t, Steps p.tables e below (s₁.setTop (mkF m 11 #[.val (.int p0_0), .val (.int p0_1), .val (.int (1 : Int32)), .val (.int (((1 : Int32) <<< ((1 : Int32) &&& 31)) - (1 : Int32))), .unset, .unset, .unset, .unset, .unset] [])) t → Steps p.tables e below (s₁.setTop (entryFrame m #[(.int p0_0), (.int p0_1)] maxLocals)) t := fun t k => pre81 t (by
      show Steps p.tables e below (s₁.setTop (mkF m 5 #[.val (.int p0_0), .val (.int p0_1), .val (.int (1 : Int32)), .unset, .unset, .unset, .unset, .unset, .unset] [])) _
      refine XS.iconst X0.here hx rfl (hb hby at_5) ?_
      refine XS.iloadN X0.here hx rfl (hb hby at_6) rfl ?_
      show Steps p.tables e below (s₁.setTop (mkF m 7 #[.val (.int p0_0), .val (.int p0_1), .val (.int (1 : Int32)), .unset, .unset, .unset, .unset, .unset, .unset] [(.int (1 : Int32)), (.int (1 : Int32))])) _
      refine XS.ishl X0.here hx rfl (hb hby at_7) rfl ?_
      show Steps p.tables e below (s₁.setTop (mkF m 8 #[.val (.int p0_0), .val (.int p0_1), .val (.int (1 : Int32)), .unset, .unset, .unset, .unset, .unset, .unset] [(.int ((1 : Int32) <<< ((1 : Int32) &&& 31)))])) _
      refine XS.iconst X0.here hx rfl (hb hby at_8) ?_
      refine XS.isub X0.here hx rfl (hb hby at_9) rfl ?_
      show Steps p.tables e below (s₁.setTop (mkF m 10 #[.val (.int p0_0), .val (.int p0_1), .val (.int (1 : Int32)), .unset, .unset, .unset, .unset, .unset, .unset] [(.int (((1 : Int32) <<< ((1 : Int32) &&& 31)) - (1 : Int32)))])) _
      refine XS.istoreN X0.here hx rfl (hb hby at_10) rfl (l' := #[.val (.int p0_0), .val (.int p0_1), .val (.int (1 : Int32)), .val (.int (((1 : Int32) <<< ((1 : Int32) &&& 31)) - (1 : Int32))), .unset, .unset, .unset, .unset, .unset]) rfl ?_
      exact k)
    have hl83 : (((1 : Int32) <<< ((1 : Int32) &&& 31)) - (1 : Int32)) = (1 : Int32) := by
      decide
    have pre84 : ∀ t, Steps p.tables e below (s₁.setTop (mkF m 11 #[.val (.int p0_0), .val (.int p0_1), .val (.int (1 : Int32)), .val (.int (1 : Int32)), .unset, .unset, .unset, .unset, .unset] [])) t → Steps p.tables e below (s₁.setTop (entryFrame m #[(.int p0_0), (.int p0_1)] maxLocals)) t := fun t k => pre82 t (castTop (by rw [hl83]) k)
    have pre85 : ∀ t, Steps p.tables e below (s₁.setTop (mkF m 16 #[.val (.int p0_0), .val (.int p0_1), .val (.int (1 : Int32)), .val (.int (1 : Int32)), .val (.int (p0_1 &&& (1 : Int32))), .unset, .unset, .unset, .unset] [])) t → Steps p.tables e below (s₁.setTop (entryFrame m #[(.int p0_0), (.int p0_1)] maxLocals)) t := fun t k => pre84 t (by
      show Steps p.tables e below (s₁.setTop (mkF m 11 #[.val (.int p0_0), .val (.int p0_1), .val (.int (1 : Int32)), .val (.int (1 : Int32)), .unset, .unset, .unset, .unset, .unset] [])) _
      refine XS.iloadN X0.here hx rfl (hb hby at_11) rfl ?_
      refine XS.iloadN X0.here hx rfl (hb hby at_12) rfl ?_
      refine XS.iand X0.here hx rfl (hb hby at_13) rfl ?_
      show Steps p.tables e below (s₁.setTop (mkF m 14 #[.val (.int p0_0), .val (.int p0_1), .val (.int (1 : Int32)), .val (.int (1 : Int32)), .unset, .unset, .unset, .unset, .unset] [(.int (p0_1 &&& (1 : Int32)))])) _
      refine XS.istore X0.here hx rfl (hb hby at_14) rfl (l' := #[.val (.int p0_0), .val (.int p0_1), .val (.int (1 : Int32)), .val (.int (1 : Int32)), .val (.int (p0_1 &&& (1 : Int32))), .unset, .unset, .unset, .unset]) rfl ?_
      exact k)
    obtain ⟨MM, hMM⟩ : ∃ z : Int32, z = (p0_1 &&& (1 : Int32)) := ⟨_, rfl⟩
    have pre86 : ∀ t, Steps p.tables e below (s₁.setTop (mkF m 16 #[.val (.int p0_0), .val (.int p0_1), .val (.int (1 : Int32)), .val (.int (1 : Int32)), .val (.int MM), .unset, .unset, .unset, .unset] [])) t → Steps p.tables e below (s₁.setTop (entryFrame m #[(.int p0_0), (.int p0_1)] maxLocals)) t := fun t k => pre85 t (castTop (by rw [hMM]) k)
    have hM : 0 ≤ MM.toInt ∧ MM.toInt < (2 : Nat) := by
      rw [hMM]
      have e := c_mask p0_1 (1 : Int32) 1 (by decide) (by decide)
      omega
    obtain ⟨T87, h87, k87, X87, e87, E87, A87, st87⟩ := newP X0 hx hZ (hVV 0 _ rfl) e0 (g := (mkF m 17 #[.val (.int p0_0), .val (.int p0_1), .val (.int (1 : Int32)), .val (.int (1 : Int32)), .val (.int MM), .unset, .unset, .unset, .unset] [(.int (1 : Int32))])) rfl (hb hby at_17) rfl (by decide) (cap := 1) (by decide) (by decide) (by decide) (by decide)
    obtain ⟨b87, g87⟩ : ∃ z, z = h0.size := ⟨_, rfl⟩
    rw [← g87] at A87 st87
    have gz87 : n0 ≤ b87 := Nat.le_trans Z0 (Nat.le_of_eq g87.symm)
    have pre88 : ∀ t, Steps p.tables e below (T87.setTop (mkF m 19 #[.val (.int p0_0), .val (.int p0_1), .val (.int (1 : Int32)), .val (.int (1 : Int32)), .val (.int MM), .unset, .unset, .unset, .unset] [(.ref b87)])) t → Steps p.tables e below (s₁.setTop (entryFrame m #[(.int p0_0), (.int p0_1)] maxLocals)) t := fun t k => pre86 t (by
      show Steps p.tables e below (s₁.setTop (mkF m 16 #[.val (.int p0_0), .val (.int p0_1), .val (.int (1 : Int32)), .val (.int (1 : Int32)), .val (.int MM), .unset, .unset, .unset, .unset] [])) _
      refine XS.iloadN X0.here hx rfl (hb hby at_16) rfl ?_
      show Steps p.tables e below (s₁.setTop (mkF m 17 #[.val (.int p0_0), .val (.int p0_1), .val (.int (1 : Int32)), .val (.int (1 : Int32)), .val (.int MM), .unset, .unset, .unset, .unset] [(.int (1 : Int32))])) _
      refine st87 _ ?_
      exact k)
    have z89 := Nat.le_trans Z0 E87.1
    have V90 : Arv Z h87 b87 k87 .boolean (1 : Int32) [(.int (0 : Int32))] (.int (0 : Int32)) := (Arv.new A87 (by decide)).pad (pad_rep [] (.int (0 : Int32)) 1)
    have hq92 : (0 : Int32) < (1 : Int32) := by
      decide
    obtain ⟨_, _, ⟨T91, L91, k91, n91⟩, -, X91, ⟨Lc91, hQ91, l91, y91, z91⟩, st91⟩ := Jvm.LawKit.callS X87 hx (y := mn0) hown (mvT hZ (hVV 1 _ rfl)) (mvT hZ (hVV 2 _ rfl)) (mvT hZ (hVV 3 _ rfl)) (mvT hZ (hVV 4 _ rfl)) (by decide) (backOf (W := 0) (rm1_i l Z a0 hw [] b87 (0 : Int32) MM k87 (1 : Int32) ([(.int (0 : Int32))]) h87 n0 z89 V90 (by decide) (Nat.le_of_ble_eq_true rfl) hq92 gz87) hZ (hVV 4 _ rfl) (hVV 3 _ rfl) (by decide) (by decide)) (g := (mkF m 26 #[.val (.int p0_0), .val (.int p0_1), .val (.int (1 : Int32)), .val (.int (1 : Int32)), .val (.int MM), .val (.ref b87), .unset, .unset, .unset] [(.int MM), (.int (0 : Int32)), (.ref b87)])) rfl (by rw [hml]; rfl) (argsL := [(.ref b87), (.int (0 : Int32)), (.int MM)]) (rest := []) (lenOf pd_0 rfl) rfl (by show 2 * 0 + _ ≤ _; exact Nat.le_of_eq rfl) (hb hby at_26) (fun _ _ => ⟨rfl, e87, (by decide : 1 + 0 ≤ _), (by decide : 1 + 0 ≤ _)⟩)
    dsimp only [Pt.U, Pt.locs, Pt.cells, Pt.slots] at X91 l91 y91 z91 st91 hQ91
    subst l91 y91 z91
    obtain ⟨rfl, N91q, K91, r91_0⟩ := hQ91
    have N93 := Fr.app N0 N91q
    have pre94 : ∀ t, Steps p.tables e below (T91.setTop (mkF m 29 #[.val (.int p0_0), .val (.int p0_1), .val (.int (1 : Int32)), .val (.int (1 : Int32)), .val (.int MM), .val (.ref b87), .unset, .unset, .unset] [])) t → Steps p.tables e below (s₁.setTop (entryFrame m #[(.int p0_0), (.int p0_1)] maxLocals)) t := fun t k => pre88 t (by
      show Steps p.tables e below (T87.setTop (mkF m 19 #[.val (.int p0_0), .val (.int p0_1), .val (.int (1 : Int32)), .val (.int (1 : Int32)), .val (.int MM), .unset, .unset, .unset, .unset] [(.ref b87)])) _
      refine XS.astore X87.here hx rfl (hb hby at_19) rfl rfl (l' := #[.val (.int p0_0), .val (.int p0_1), .val (.int (1 : Int32)), .val (.int (1 : Int32)), .val (.int MM), .val (.ref b87), .unset, .unset, .unset]) rfl ?_
      show Steps p.tables e below (T87.setTop (mkF m 21 #[.val (.int p0_0), .val (.int p0_1), .val (.int (1 : Int32)), .val (.int (1 : Int32)), .val (.int MM), .val (.ref b87), .unset, .unset, .unset] [])) _
      refine XS.aload X87.here hx rfl (hb hby at_21) rfl rfl ?_
      refine XS.iconst X87.here hx rfl (hb hby at_23) ?_
      refine XS.iload X87.here hx rfl (hb hby at_24) rfl ?_
      show Steps p.tables e below (T87.setTop (mkF m 26 #[.val (.int p0_0), .val (.int p0_1), .val (.int (1 : Int32)), .val (.int (1 : Int32)), .val (.int MM), .val (.ref b87), .unset, .unset, .unset] [(.int MM), (.int (0 : Int32)), (.ref b87)])) _
      refine st91 _ ?_
      exact k)
    have z95 := Nat.le_trans z89 K91.1
    have V96 : Arv Z T91.heap b87 k87 .boolean (1 : Int32) [(.int (own_b MM (0 : Int32)))] (.int (0 : Int32)) := r91_0
    have hq98 : ¬ ((1 : Int32) < (1 : Int32)) := by
      decide
    obtain ⟨_, _, ⟨T97, L97, k97, n97⟩, -, X97, ⟨Lc97, hQ97, l97, y97, z97⟩, st97⟩ := Jvm.LawKit.callS X91 hx (y := mn0) hown (mvT hZ (hVV 1 _ rfl)) (mvT hZ (hVV 2 _ rfl)) (mvT hZ (hVV 3 _ rfl)) (mvT hZ (hVV 4 _ rfl)) (by decide) (backOf (W := 0) (rm1_o l Z a0 hw [] b87 (1 : Int32) MM k87 (1 : Int32) ([(.int (own_b MM (0 : Int32)))]) T91.heap n0 z95 V96 hq98) hZ (hVV 4 _ rfl) (hVV 3 _ rfl) (by decide) (by decide)) (g := (mkF m 34 #[.val (.int p0_0), .val (.int p0_1), .val (.int (1 : Int32)), .val (.int (1 : Int32)), .val (.int MM), .val (.ref b87), .unset, .unset, .unset] [(.int MM), (.int (1 : Int32)), (.ref b87)])) rfl (by rw [hml]; rfl) (argsL := [(.ref b87), (.int (1 : Int32)), (.int MM)]) (rest := []) (lenOf pd_0 rfl) rfl (by show 2 * 0 + _ ≤ _; exact Nat.le_of_eq rfl) (hb hby at_34) (fun _ _ => ⟨rfl, rfl, (by decide : 1 + 0 ≤ _), (by decide : 1 + 0 ≤ _)⟩)
    dsimp only [Pt.U, Pt.locs, Pt.cells, Pt.slots] at X97 l97 y97 z97 st97 hQ97
    subst l97 y97 z97
    obtain ⟨rfl, N97q, e97⟩ := hQ97
    have N99 := Fr.app N93 N97q
    have pre100 : ∀ t, Steps p.tables e below (T97.setTop (mkF m 37 #[.val (.int p0_0), .val (.int p0_1), .val (.int (1 : Int32)), .val (.int (1 : Int32)), .val (.int MM), .val (.ref b87), .unset, .unset, .unset] [])) t → Steps p.tables e below (s₁.setTop (entryFrame m #[(.int p0_0), (.int p0_1)] maxLocals)) t := fun t k => pre94 t (by
      show Steps p.tables e below (T91.setTop (mkF m 29 #[.val (.int p0_0), .val (.int p0_1), .val (.int (1 : Int32)), .val (.int (1 : Int32)), .val (.int MM), .val (.ref b87), .unset, .unset, .unset] [])) _
      refine XS.aload X91.here hx rfl (hb hby at_29) rfl rfl ?_
      refine XS.iconst X91.here hx rfl (hb hby at_31) ?_
      refine XS.iload X91.here hx rfl (hb hby at_32) rfl ?_
      show Steps p.tables e below (T91.setTop (mkF m 34 #[.val (.int p0_0), .val (.int p0_1), .val (.int (1 : Int32)), .val (.int (1 : Int32)), .val (.int MM), .val (.ref b87), .unset, .unset, .unset] [(.int MM), (.int (1 : Int32)), (.ref b87)])) _
      refine st97 _ ?_
      exact k)
    have hq102 : ¬ ((2 : Int32) < (1 : Int32)) := by
      decide
    obtain ⟨_, _, ⟨T101, L101, k101, n101⟩, -, X101, ⟨Lc101, hQ101, l101, y101, z101⟩, st101⟩ := Jvm.LawKit.callS X97 hx (y := mn0) hown (mvT hZ (hVV 1 _ rfl)) (mvT hZ (hVV 2 _ rfl)) (mvT hZ (hVV 3 _ rfl)) (mvT hZ (hVV 4 _ rfl)) (by decide) (backOf (W := 0) (rm1_o l Z a0 hw [] b87 (2 : Int32) MM k87 (1 : Int32) ([(.int (own_b MM (0 : Int32)))]) T91.heap n0 z95 V96 hq102) hZ (hVV 4 _ rfl) (hVV 3 _ rfl) (by decide) (by decide)) (g := (mkF m 42 #[.val (.int p0_0), .val (.int p0_1), .val (.int (1 : Int32)), .val (.int (1 : Int32)), .val (.int MM), .val (.ref b87), .unset, .unset, .unset] [(.int MM), (.int (2 : Int32)), (.ref b87)])) rfl (by rw [hml]; rfl) (argsL := [(.ref b87), (.int (2 : Int32)), (.int MM)]) (rest := []) (lenOf pd_0 rfl) rfl (by show 2 * 0 + _ ≤ _; exact Nat.le_of_eq rfl) (hb hby at_42) (fun _ _ => ⟨rfl, e97, (by decide : 1 + 0 ≤ _), (by decide : 1 + 0 ≤ _)⟩)
    dsimp only [Pt.U, Pt.locs, Pt.cells, Pt.slots] at X101 l101 y101 z101 st101 hQ101
    subst l101 y101 z101
    obtain ⟨rfl, N101q, e101⟩ := hQ101
    have N103 := Fr.app N99 N101q
    have pre104 : ∀ t, Steps p.tables e below (T101.setTop (mkF m 45 #[.val (.int p0_0), .val (.int p0_1), .val (.int (1 : Int32)), .val (.int (1 : Int32)), .val (.int MM), .val (.ref b87), .unset, .unset, .unset] [])) t → Steps p.tables e below (s₁.setTop (entryFrame m #[(.int p0_0), (.int p0_1)] maxLocals)) t := fun t k => pre100 t (by
      show Steps p.tables e below (T97.setTop (mkF m 37 #[.val (.int p0_0), .val (.int p0_1), .val (.int (1 : Int32)), .val (.int (1 : Int32)), .val (.int MM), .val (.ref b87), .unset, .unset, .unset] [])) _
      refine XS.aload X97.here hx rfl (hb hby at_37) rfl rfl ?_
      refine XS.iconst X97.here hx rfl (hb hby at_39) ?_
      refine XS.iload X97.here hx rfl (hb hby at_40) rfl ?_
      show Steps p.tables e below (T97.setTop (mkF m 42 #[.val (.int p0_0), .val (.int p0_1), .val (.int (1 : Int32)), .val (.int (1 : Int32)), .val (.int MM), .val (.ref b87), .unset, .unset, .unset] [(.int MM), (.int (2 : Int32)), (.ref b87)])) _
      refine st101 _ ?_
      exact k)
    have hq106 : ¬ ((3 : Int32) < (1 : Int32)) := by
      decide
    obtain ⟨_, _, ⟨T105, L105, k105, n105⟩, -, X105, ⟨Lc105, hQ105, l105, y105, z105⟩, st105⟩ := Jvm.LawKit.callS X101 hx (y := mn0) hown (mvT hZ (hVV 1 _ rfl)) (mvT hZ (hVV 2 _ rfl)) (mvT hZ (hVV 3 _ rfl)) (mvT hZ (hVV 4 _ rfl)) (by decide) (backOf (W := 0) (rm1_o l Z a0 hw [] b87 (3 : Int32) MM k87 (1 : Int32) ([(.int (own_b MM (0 : Int32)))]) T91.heap n0 z95 V96 hq106) hZ (hVV 4 _ rfl) (hVV 3 _ rfl) (by decide) (by decide)) (g := (mkF m 50 #[.val (.int p0_0), .val (.int p0_1), .val (.int (1 : Int32)), .val (.int (1 : Int32)), .val (.int MM), .val (.ref b87), .unset, .unset, .unset] [(.int MM), (.int (3 : Int32)), (.ref b87)])) rfl (by rw [hml]; rfl) (argsL := [(.ref b87), (.int (3 : Int32)), (.int MM)]) (rest := []) (lenOf pd_0 rfl) rfl (by show 2 * 0 + _ ≤ _; exact Nat.le_of_eq rfl) (hb hby at_50) (fun _ _ => ⟨rfl, e101, (by decide : 1 + 0 ≤ _), (by decide : 1 + 0 ≤ _)⟩)
    dsimp only [Pt.U, Pt.locs, Pt.cells, Pt.slots] at X105 l105 y105 z105 st105 hQ105
    subst l105 y105 z105
    obtain ⟨rfl, N105q, e105⟩ := hQ105
    have N107 := Fr.app N103 N105q
    have pre108 : ∀ t, Steps p.tables e below (T105.setTop (mkF m 53 #[.val (.int p0_0), .val (.int p0_1), .val (.int (1 : Int32)), .val (.int (1 : Int32)), .val (.int MM), .val (.ref b87), .unset, .unset, .unset] [])) t → Steps p.tables e below (s₁.setTop (entryFrame m #[(.int p0_0), (.int p0_1)] maxLocals)) t := fun t k => pre104 t (by
      show Steps p.tables e below (T101.setTop (mkF m 45 #[.val (.int p0_0), .val (.int p0_1), .val (.int (1 : Int32)), .val (.int (1 : Int32)), .val (.int MM), .val (.ref b87), .unset, .unset, .unset] [])) _
      refine XS.aload X101.here hx rfl (hb hby at_45) rfl rfl ?_
      refine XS.iconst X101.here hx rfl (hb hby at_47) ?_
      refine XS.iload X101.here hx rfl (hb hby at_48) rfl ?_
      show Steps p.tables e below (T101.setTop (mkF m 50 #[.val (.int p0_0), .val (.int p0_1), .val (.int (1 : Int32)), .val (.int (1 : Int32)), .val (.int MM), .val (.ref b87), .unset, .unset, .unset] [(.int MM), (.int (3 : Int32)), (.ref b87)])) _
      refine st105 _ ?_
      exact k)
    have hq110 : ¬ ((4 : Int32) < (1 : Int32)) := by
      decide
    obtain ⟨_, _, ⟨T109, L109, k109, n109⟩, -, X109, ⟨Lc109, hQ109, l109, y109, z109⟩, st109⟩ := Jvm.LawKit.callS X105 hx (y := mn0) hown (mvT hZ (hVV 1 _ rfl)) (mvT hZ (hVV 2 _ rfl)) (mvT hZ (hVV 3 _ rfl)) (mvT hZ (hVV 4 _ rfl)) (by decide) (backOf (W := 0) (rm1_o l Z a0 hw [] b87 (4 : Int32) MM k87 (1 : Int32) ([(.int (own_b MM (0 : Int32)))]) T91.heap n0 z95 V96 hq110) hZ (hVV 4 _ rfl) (hVV 3 _ rfl) (by decide) (by decide)) (g := (mkF m 58 #[.val (.int p0_0), .val (.int p0_1), .val (.int (1 : Int32)), .val (.int (1 : Int32)), .val (.int MM), .val (.ref b87), .unset, .unset, .unset] [(.int MM), (.int (4 : Int32)), (.ref b87)])) rfl (by rw [hml]; rfl) (argsL := [(.ref b87), (.int (4 : Int32)), (.int MM)]) (rest := []) (lenOf pd_0 rfl) rfl (by show 2 * 0 + _ ≤ _; exact Nat.le_of_eq rfl) (hb hby at_58) (fun _ _ => ⟨rfl, e105, (by decide : 1 + 0 ≤ _), (by decide : 1 + 0 ≤ _)⟩)
    dsimp only [Pt.U, Pt.locs, Pt.cells, Pt.slots] at X109 l109 y109 z109 st109 hQ109
    subst l109 y109 z109
    obtain ⟨rfl, N109q, e109⟩ := hQ109
    have N111 := Fr.app N107 N109q
    have pre112 : ∀ t, Steps p.tables e below (T109.setTop (mkF m 61 #[.val (.int p0_0), .val (.int p0_1), .val (.int (1 : Int32)), .val (.int (1 : Int32)), .val (.int MM), .val (.ref b87), .unset, .unset, .unset] [])) t → Steps p.tables e below (s₁.setTop (entryFrame m #[(.int p0_0), (.int p0_1)] maxLocals)) t := fun t k => pre108 t (by
      show Steps p.tables e below (T105.setTop (mkF m 53 #[.val (.int p0_0), .val (.int p0_1), .val (.int (1 : Int32)), .val (.int (1 : Int32)), .val (.int MM), .val (.ref b87), .unset, .unset, .unset] [])) _
      refine XS.aload X105.here hx rfl (hb hby at_53) rfl rfl ?_
      refine XS.iconst X105.here hx rfl (hb hby at_55) ?_
      refine XS.iload X105.here hx rfl (hb hby at_56) rfl ?_
      show Steps p.tables e below (T105.setTop (mkF m 58 #[.val (.int p0_0), .val (.int p0_1), .val (.int (1 : Int32)), .val (.int (1 : Int32)), .val (.int MM), .val (.ref b87), .unset, .unset, .unset] [(.int MM), (.int (4 : Int32)), (.ref b87)])) _
      refine st109 _ ?_
      exact k)
    have hq114 : ¬ ((5 : Int32) < (1 : Int32)) := by
      decide
    obtain ⟨_, _, ⟨T113, L113, k113, n113⟩, -, X113, ⟨Lc113, hQ113, l113, y113, z113⟩, st113⟩ := Jvm.LawKit.callS X109 hx (y := mn0) hown (mvT hZ (hVV 1 _ rfl)) (mvT hZ (hVV 2 _ rfl)) (mvT hZ (hVV 3 _ rfl)) (mvT hZ (hVV 4 _ rfl)) (by decide) (backOf (W := 0) (rm1_o l Z a0 hw [] b87 (5 : Int32) MM k87 (1 : Int32) ([(.int (own_b MM (0 : Int32)))]) T91.heap n0 z95 V96 hq114) hZ (hVV 4 _ rfl) (hVV 3 _ rfl) (by decide) (by decide)) (g := (mkF m 66 #[.val (.int p0_0), .val (.int p0_1), .val (.int (1 : Int32)), .val (.int (1 : Int32)), .val (.int MM), .val (.ref b87), .unset, .unset, .unset] [(.int MM), (.int (5 : Int32)), (.ref b87)])) rfl (by rw [hml]; rfl) (argsL := [(.ref b87), (.int (5 : Int32)), (.int MM)]) (rest := []) (lenOf pd_0 rfl) rfl (by show 2 * 0 + _ ≤ _; exact Nat.le_of_eq rfl) (hb hby at_66) (fun _ _ => ⟨rfl, e109, (by decide : 1 + 0 ≤ _), (by decide : 1 + 0 ≤ _)⟩)
    dsimp only [Pt.U, Pt.locs, Pt.cells, Pt.slots] at X113 l113 y113 z113 st113 hQ113
    subst l113 y113 z113
    obtain ⟨rfl, N113q, e113⟩ := hQ113
    have N115 := Fr.app N111 N113q
    have pre116 : ∀ t, Steps p.tables e below (T113.setTop (mkF m 69 #[.val (.int p0_0), .val (.int p0_1), .val (.int (1 : Int32)), .val (.int (1 : Int32)), .val (.int MM), .val (.ref b87), .unset, .unset, .unset] [])) t → Steps p.tables e below (s₁.setTop (entryFrame m #[(.int p0_0), (.int p0_1)] maxLocals)) t := fun t k => pre112 t (by
      show Steps p.tables e below (T109.setTop (mkF m 61 #[.val (.int p0_0), .val (.int p0_1), .val (.int (1 : Int32)), .val (.int (1 : Int32)), .val (.int MM), .val (.ref b87), .unset, .unset, .unset] [])) _
      refine XS.aload X109.here hx rfl (hb hby at_61) rfl rfl ?_
      refine XS.iconst X109.here hx rfl (hb hby at_63) ?_
      refine XS.iload X109.here hx rfl (hb hby at_64) rfl ?_
      show Steps p.tables e below (T109.setTop (mkF m 66 #[.val (.int p0_0), .val (.int p0_1), .val (.int (1 : Int32)), .val (.int (1 : Int32)), .val (.int MM), .val (.ref b87), .unset, .unset, .unset] [(.int MM), (.int (5 : Int32)), (.ref b87)])) _
      refine st113 _ ?_
      exact k)
    have hq118 : ¬ ((6 : Int32) < (1 : Int32)) := by
      decide
    obtain ⟨_, _, ⟨T117, L117, k117, n117⟩, -, X117, ⟨Lc117, hQ117, l117, y117, z117⟩, st117⟩ := Jvm.LawKit.callS X113 hx (y := mn0) hown (mvT hZ (hVV 1 _ rfl)) (mvT hZ (hVV 2 _ rfl)) (mvT hZ (hVV 3 _ rfl)) (mvT hZ (hVV 4 _ rfl)) (by decide) (backOf (W := 0) (rm1_o l Z a0 hw [] b87 (6 : Int32) MM k87 (1 : Int32) ([(.int (own_b MM (0 : Int32)))]) T91.heap n0 z95 V96 hq118) hZ (hVV 4 _ rfl) (hVV 3 _ rfl) (by decide) (by decide)) (g := (mkF m 75 #[.val (.int p0_0), .val (.int p0_1), .val (.int (1 : Int32)), .val (.int (1 : Int32)), .val (.int MM), .val (.ref b87), .unset, .unset, .unset] [(.int MM), (.int (6 : Int32)), (.ref b87)])) rfl (by rw [hml]; rfl) (argsL := [(.ref b87), (.int (6 : Int32)), (.int MM)]) (rest := []) (lenOf pd_0 rfl) rfl (by show 2 * 0 + _ ≤ _; exact Nat.le_of_eq rfl) (hb hby at_75) (fun _ _ => ⟨rfl, e113, (by decide : 1 + 0 ≤ _), (by decide : 1 + 0 ≤ _)⟩)
    dsimp only [Pt.U, Pt.locs, Pt.cells, Pt.slots] at X117 l117 y117 z117 st117 hQ117
    subst l117 y117 z117
    obtain ⟨rfl, N117q, e117⟩ := hQ117
    have N119 := Fr.app N115 N117q
    have pre120 : ∀ t, Steps p.tables e below (T117.setTop (mkF m 78 #[.val (.int p0_0), .val (.int p0_1), .val (.int (1 : Int32)), .val (.int (1 : Int32)), .val (.int MM), .val (.ref b87), .unset, .unset, .unset] [])) t → Steps p.tables e below (s₁.setTop (entryFrame m #[(.int p0_0), (.int p0_1)] maxLocals)) t := fun t k => pre116 t (by
      show Steps p.tables e below (T113.setTop (mkF m 69 #[.val (.int p0_0), .val (.int p0_1), .val (.int (1 : Int32)), .val (.int (1 : Int32)), .val (.int MM), .val (.ref b87), .unset, .unset, .unset] [])) _
      refine XS.aload X113.here hx rfl (hb hby at_69) rfl rfl ?_
      refine XS.bipush X113.here hx rfl (hb hby at_71) ?_
      refine XS.iload X113.here hx rfl (hb hby at_73) rfl ?_
      show Steps p.tables e below (T113.setTop (mkF m 75 #[.val (.int p0_0), .val (.int p0_1), .val (.int (1 : Int32)), .val (.int (1 : Int32)), .val (.int MM), .val (.ref b87), .unset, .unset, .unset] [(.int MM), (.int (6 : Int32)), (.ref b87)])) _
      refine st117 _ ?_
      exact k)
    obtain ⟨_, _, ⟨T121, L121, k121, n121⟩, -, X121, ⟨Lc121, hQ121, l121, y121, z121⟩, st121⟩ := Jvm.LawKit.callS X117 hx (y := mn2) hown (mvT hZ (hVV 5 _ rfl)) (mvT hZ (hVV 6 _ rfl)) (mvT hZ (hVV 7 _ rfl)) (mvT hZ (hVV 8 _ rfl)) (by decide) (backOf (W := 0) (rm2_1 l Z a0 hw [] b87 k87 (own_b MM (0 : Int32)) T91.heap n0 z95 V96 gz87) hZ (hVV 8 _ rfl) (hVV 7 _ rfl) (by decide) (by decide)) (g := (mkF m 80 #[.val (.int p0_0), .val (.int p0_1), .val (.int (1 : Int32)), .val (.int (1 : Int32)), .val (.int MM), .val (.ref b87), .unset, .unset, .unset] [(.ref b87)])) rfl (by rw [hml]; rfl) (argsL := [(.ref b87)]) (rest := []) (lenOf pd_1 rfl) rfl (by show 2 * 0 + _ ≤ _; exact Nat.le_of_eq rfl) (hb hby at_80) (fun _ _ => ⟨rfl, e117, (by decide : 1 + 0 ≤ _), (by decide : 1 + 0 ≤ _)⟩)
    dsimp only [Pt.U, Pt.locs, Pt.cells, Pt.slots] at X121 l121 y121 z121 st121 hQ121
    subst l121 y121 z121
    obtain ⟨rfl, N121q, K121, r121_0⟩ := hQ121
    have N122 := Fr.app N119 N121q
    have pre123 : ∀ t, Steps p.tables e below (T121.setTop (mkF m 83 #[.val (.int p0_0), .val (.int p0_1), .val (.int (1 : Int32)), .val (.int (1 : Int32)), .val (.int MM), .val (.ref b87), .unset, .unset, .unset] [(.int (bI ((own_b MM (0 : Int32)) = (0 : Int32))))])) t → Steps p.tables e below (s₁.setTop (entryFrame m #[(.int p0_0), (.int p0_1)] maxLocals)) t := fun t k => pre120 t (by
      show Steps p.tables e below (T117.setTop (mkF m 78 #[.val (.int p0_0), .val (.int p0_1), .val (.int (1 : Int32)), .val (.int (1 : Int32)), .val (.int MM), .val (.ref b87), .unset, .unset, .unset] [])) _
      refine XS.aload X117.here hx rfl (hb hby at_78) rfl rfl ?_
      show Steps p.tables e below (T117.setTop (mkF m 80 #[.val (.int p0_0), .val (.int p0_1), .val (.int (1 : Int32)), .val (.int (1 : Int32)), .val (.int MM), .val (.ref b87), .unset, .unset, .unset] [(.ref b87)])) _
      refine st121 _ ?_
      exact k)
    have z124 := Nat.le_trans z95 K121.1
    have pre125 : ∀ t, Steps p.tables e below (T121.setTop (mkF m 85 #[.val (.int p0_0), .val (.int p0_1), .val (.int (1 : Int32)), .val (.int (1 : Int32)), .val (.int MM), .val (.ref b87), .val (.int (bI ((own_b MM (0 : Int32)) = (0 : Int32)))), .unset, .unset] [])) t → Steps p.tables e below (s₁.setTop (entryFrame m #[(.int p0_0), (.int p0_1)] maxLocals)) t := fun t k => pre123 t (by
      show Steps p.tables e below (T121.setTop (mkF m 83 #[.val (.int p0_0), .val (.int p0_1), .val (.int (1 : Int32)), .val (.int (1 : Int32)), .val (.int MM), .val (.ref b87), .unset, .unset, .unset] [(.int (bI ((own_b MM (0 : Int32)) = (0 : Int32))))])) _
      refine XS.istore X121.here hx rfl (hb hby at_83) rfl (l' := #[.val (.int p0_0), .val (.int p0_1), .val (.int (1 : Int32)), .val (.int (1 : Int32)), .val (.int MM), .val (.ref b87), .val (.int (bI ((own_b MM (0 : Int32)) = (0 : Int32)))), .unset, .unset]) rfl ?_
      exact k)
    obtain ⟨RR, hRR⟩ : ∃ z : Int32, z = (bI ((own_b MM (0 : Int32)) = (0 : Int32))) := ⟨_, rfl⟩
    have pre126 : ∀ t, Steps p.tables e below (T121.setTop (mkF m 85 #[.val (.int p0_0), .val (.int p0_1), .val (.int (1 : Int32)), .val (.int (1 : Int32)), .val (.int MM), .val (.ref b87), .val (.int RR), .unset, .unset] [])) t → Steps p.tables e below (s₁.setTop (entryFrame m #[(.int p0_0), (.int p0_1)] maxLocals)) t := fun t k => pre125 t (castTop (by rw [hRR]) k)
    obtain ⟨G0, hG0⟩ : ∃ z : Int32, z = (bI ((own_b MM (0 : Int32)) = (0 : Int32))) := ⟨_, rfl⟩
    have V127 : Arv Z T121.heap b87 k87 .boolean (1 : Int32) [(.int G0)] (.int (0 : Int32)) := by rw [hG0]; exact r121_0
    have hq129 : (0 : Int32) < (1 : Int32) := by
      decide
    obtain ⟨_, _, ⟨T128, L128, k128, n128⟩, -, X128, ⟨Lc128, hQ128, l128, y128, z128⟩, st128⟩ := Jvm.LawKit.callS X121 hx (y := mn1) hown (mvT hZ (hVV 9 _ rfl)) (mvT hZ (hVV 10 _ rfl)) (mvT hZ (hVV 3 _ rfl)) (mvT hZ (hVV 11 _ rfl)) (by decide) (backOf (W := 0) (rm3_i l Z a0 hw [] b87 (0 : Int32) k87 (1 : Int32) ([(.int G0)]) G0 T121.heap n0 z124 V127 (by decide) (by rfl) hq129) hZ (hVV 11 _ rfl) (hVV 3 _ rfl) (by decide) (by decide)) (g := (mkF m 96 #[.val (.int p0_0), .val (.int p0_1), .val (.int (1 : Int32)), .val (.int (1 : Int32)), .val (.int MM), .val (.ref b87), .val (.int RR), .val (.int ((MM + (1 : Int32)) &&& (1 : Int32))), .unset] [(.int (0 : Int32)), (.ref b87)])) rfl (by rw [hml]; rfl) (argsL := [(.ref b87), (.int (0 : Int32))]) (rest := []) (lenOf pd_2 rfl) rfl (by show 2 * 0 + _ ≤ _; exact Nat.le_of_eq rfl) (hb hby at_96) (fun _ _ => ⟨rfl, rfl, (by decide : 1 + 0 ≤ _), (by decide : 1 + 0 ≤ _)⟩)
    dsimp only [Pt.U, Pt.locs, Pt.cells, Pt.slots] at X128 l128 y128 z128 st128 hQ128
    subst l128 y128 z128
    obtain ⟨rfl, N128q, e128⟩ := hQ128
    have N130 := Fr.app N122 N128q
    have pre131 : ∀ t, Steps p.tables e below (T128.setTop (mkF m 99 #[.val (.int p0_0), .val (.int p0_1), .val (.int (1 : Int32)), .val (.int (1 : Int32)), .val (.int MM), .val (.ref b87), .val (.int RR), .val (.int ((MM + (1 : Int32)) &&& (1 : Int32))), .unset] [(.int (if G0 = (0 : Int32) then (0 : Int32) else ((1 : Int32) <<< ((0 : Int32) &&& 31))))])) t → Steps p.tables e below (s₁.setTop (entryFrame m #[(.int p0_0), (.int p0_1)] maxLocals)) t := fun t k => pre126 t (by
      show Steps p.tables e below (T121.setTop (mkF m 85 #[.val (.int p0_0), .val (.int p0_1), .val (.int (1 : Int32)), .val (.int (1 : Int32)), .val (.int MM), .val (.ref b87), .val (.int RR), .unset, .unset] [])) _
      refine XS.iload X121.here hx rfl (hb hby at_85) rfl ?_
      refine XS.iconst X121.here hx rfl (hb hby at_87) ?_
      refine XS.iadd X121.here hx rfl (hb hby at_88) rfl ?_
      refine XS.iloadN X121.here hx rfl (hb hby at_89) rfl ?_
      refine XS.iand X121.here hx rfl (hb hby at_90) rfl ?_
      show Steps p.tables e below (T121.setTop (mkF m 91 #[.val (.int p0_0), .val (.int p0_1), .val (.int (1 : Int32)), .val (.int (1 : Int32)), .val (.int MM), .val (.ref b87), .val (.int RR), .unset, .unset] [(.int ((MM + (1 : Int32)) &&& (1 : Int32)))])) _
      refine XS.istore X121.here hx rfl (hb hby at_91) rfl (l' := #[.val (.int p0_0), .val (.int p0_1), .val (.int (1 : Int32)), .val (.int (1 : Int32)), .val (.int MM), .val (.ref b87), .val (.int RR), .val (.int ((MM + (1 : Int32)) &&& (1 : Int32))), .unset]) rfl ?_
      show Steps p.tables e below (T121.setTop (mkF m 93 #[.val (.int p0_0), .val (.int p0_1), .val (.int (1 : Int32)), .val (.int (1 : Int32)), .val (.int MM), .val (.ref b87), .val (.int RR), .val (.int ((MM + (1 : Int32)) &&& (1 : Int32))), .unset] [])) _
      refine XS.aload X121.here hx rfl (hb hby at_93) rfl rfl ?_
      refine XS.iconst X121.here hx rfl (hb hby at_95) ?_
      show Steps p.tables e below (T121.setTop (mkF m 96 #[.val (.int p0_0), .val (.int p0_1), .val (.int (1 : Int32)), .val (.int (1 : Int32)), .val (.int MM), .val (.ref b87), .val (.int RR), .val (.int ((MM + (1 : Int32)) &&& (1 : Int32))), .unset] [(.int (0 : Int32)), (.ref b87)])) _
      refine st128 _ ?_
      exact k)
    have hq133 : ¬ ((1 : Int32) < (1 : Int32)) := by
      decide
    obtain ⟨_, _, ⟨T132, L132, k132, n132⟩, -, X132, ⟨Lc132, hQ132, l132, y132, z132⟩, st132⟩ := Jvm.LawKit.callS X128 hx (y := mn1) hown (mvT hZ (hVV 9 _ rfl)) (mvT hZ (hVV 10 _ rfl)) (mvT hZ (hVV 3 _ rfl)) (mvT hZ (hVV 11 _ rfl)) (by decide) (backOf (W := 1) (rm3_o l Z a0 hw [] b87 (1 : Int32) k87 (1 : Int32) ([(.int G0)]) T121.heap n0 z124 V127 hq133) hZ (hVV 11 _ rfl) (hVV 3 _ rfl) (by decide) (by decide)) (g := (mkF m 102 #[.val (.int p0_0), .val (.int p0_1), .val (.int (1 : Int32)), .val (.int (1 : Int32)), .val (.int MM), .val (.ref b87), .val (.int RR), .val (.int ((MM + (1 : Int32)) &&& (1 : Int32))), .unset] [(.int (1 : Int32)), (.ref b87), (.int (if G0 = (0 : Int32) then (0 : Int32) else ((1 : Int32) <<< ((0 : Int32) &&& 31))))])) rfl (by rw [hml]; rfl) (argsL := [(.ref b87), (.int (1 : Int32))]) (rest := [(.int (if G0 = (0 : Int32) then (0 : Int32) else ((1 : Int32) <<< ((0 : Int32) &&& 31))))]) (lenOf pd_2 rfl) rfl (by show 2 * 0 + _ ≤ _; exact Nat.le_of_eq rfl) (hb hby at_102) (fun _ _ => ⟨rfl, e128, (by decide : 1 + 0 ≤ _), (by decide : 1 + 0 ≤ _)⟩)
    dsimp only [Pt.U, Pt.locs, Pt.cells, Pt.slots] at X132 l132 y132 z132 st132 hQ132
    subst l132 y132 z132
    obtain ⟨rfl, N132q, e132⟩ := hQ132
    have N134 := Fr.app N130 N132q
    have pre135 : ∀ t, Steps p.tables e below (T132.setTop (mkF m 105 #[.val (.int p0_0), .val (.int p0_1), .val (.int (1 : Int32)), .val (.int (1 : Int32)), .val (.int MM), .val (.ref b87), .val (.int RR), .val (.int ((MM + (1 : Int32)) &&& (1 : Int32))), .unset] [(.int (0 : Int32)), (.int (if G0 = (0 : Int32) then (0 : Int32) else ((1 : Int32) <<< ((0 : Int32) &&& 31))))])) t → Steps p.tables e below (s₁.setTop (entryFrame m #[(.int p0_0), (.int p0_1)] maxLocals)) t := fun t k => pre131 t (by
      show Steps p.tables e below (T128.setTop (mkF m 99 #[.val (.int p0_0), .val (.int p0_1), .val (.int (1 : Int32)), .val (.int (1 : Int32)), .val (.int MM), .val (.ref b87), .val (.int RR), .val (.int ((MM + (1 : Int32)) &&& (1 : Int32))), .unset] [(.int (if G0 = (0 : Int32) then (0 : Int32) else ((1 : Int32) <<< ((0 : Int32) &&& 31))))])) _
      refine XS.aload X128.here hx rfl (hb hby at_99) rfl rfl ?_
      refine XS.iconst X128.here hx rfl (hb hby at_101) ?_
      show Steps p.tables e below (T128.setTop (mkF m 102 #[.val (.int p0_0), .val (.int p0_1), .val (.int (1 : Int32)), .val (.int (1 : Int32)), .val (.int MM), .val (.ref b87), .val (.int RR), .val (.int ((MM + (1 : Int32)) &&& (1 : Int32))), .unset] [(.int (1 : Int32)), (.ref b87), (.int (if G0 = (0 : Int32) then (0 : Int32) else ((1 : Int32) <<< ((0 : Int32) &&& 31))))])) _
      refine st132 _ ?_
      exact k)
    have hq137 : ¬ ((2 : Int32) < (1 : Int32)) := by
      decide
    obtain ⟨_, _, ⟨T136, L136, k136, n136⟩, -, X136, ⟨Lc136, hQ136, l136, y136, z136⟩, st136⟩ := Jvm.LawKit.callS X132 hx (y := mn1) hown (mvT hZ (hVV 9 _ rfl)) (mvT hZ (hVV 10 _ rfl)) (mvT hZ (hVV 3 _ rfl)) (mvT hZ (hVV 11 _ rfl)) (by decide) (backOf (W := 1) (rm3_o l Z a0 hw [] b87 (2 : Int32) k87 (1 : Int32) ([(.int G0)]) T121.heap n0 z124 V127 hq137) hZ (hVV 11 _ rfl) (hVV 3 _ rfl) (by decide) (by decide)) (g := (mkF m 109 #[.val (.int p0_0), .val (.int p0_1), .val (.int (1 : Int32)), .val (.int (1 : Int32)), .val (.int MM), .val (.ref b87), .val (.int RR), .val (.int ((MM + (1 : Int32)) &&& (1 : Int32))), .unset] [(.int (2 : Int32)), (.ref b87), (.int ((if G0 = (0 : Int32) then (0 : Int32) else ((1 : Int32) <<< ((0 : Int32) &&& 31))) ||| (0 : Int32)))])) rfl (by rw [hml]; rfl) (argsL := [(.ref b87), (.int (2 : Int32))]) (rest := [(.int ((if G0 = (0 : Int32) then (0 : Int32) else ((1 : Int32) <<< ((0 : Int32) &&& 31))) ||| (0 : Int32)))]) (lenOf pd_2 rfl) rfl (by show 2 * 0 + _ ≤ _; exact Nat.le_of_eq rfl) (hb hby at_109) (fun _ _ => ⟨rfl, e132, (by decide : 1 + 0 ≤ _), (by decide : 1 + 0 ≤ _)⟩)
    dsimp only [Pt.U, Pt.locs, Pt.cells, Pt.slots] at X136 l136 y136 z136 st136 hQ136
    subst l136 y136 z136
    obtain ⟨rfl, N136q, e136⟩ := hQ136
    have N138 := Fr.app N134 N136q
    have pre139 : ∀ t, Steps p.tables e below (T136.setTop (mkF m 112 #[.val (.int p0_0), .val (.int p0_1), .val (.int (1 : Int32)), .val (.int (1 : Int32)), .val (.int MM), .val (.ref b87), .val (.int RR), .val (.int ((MM + (1 : Int32)) &&& (1 : Int32))), .unset] [(.int (0 : Int32)), (.int ((if G0 = (0 : Int32) then (0 : Int32) else ((1 : Int32) <<< ((0 : Int32) &&& 31))) ||| (0 : Int32)))])) t → Steps p.tables e below (s₁.setTop (entryFrame m #[(.int p0_0), (.int p0_1)] maxLocals)) t := fun t k => pre135 t (by
      show Steps p.tables e below (T132.setTop (mkF m 105 #[.val (.int p0_0), .val (.int p0_1), .val (.int (1 : Int32)), .val (.int (1 : Int32)), .val (.int MM), .val (.ref b87), .val (.int RR), .val (.int ((MM + (1 : Int32)) &&& (1 : Int32))), .unset] [(.int (0 : Int32)), (.int (if G0 = (0 : Int32) then (0 : Int32) else ((1 : Int32) <<< ((0 : Int32) &&& 31))))])) _
      refine XS.ior X132.here hx rfl (hb hby at_105) rfl ?_
      refine XS.aload X132.here hx rfl (hb hby at_106) rfl rfl ?_
      refine XS.iconst X132.here hx rfl (hb hby at_108) ?_
      show Steps p.tables e below (T132.setTop (mkF m 109 #[.val (.int p0_0), .val (.int p0_1), .val (.int (1 : Int32)), .val (.int (1 : Int32)), .val (.int MM), .val (.ref b87), .val (.int RR), .val (.int ((MM + (1 : Int32)) &&& (1 : Int32))), .unset] [(.int (2 : Int32)), (.ref b87), (.int ((if G0 = (0 : Int32) then (0 : Int32) else ((1 : Int32) <<< ((0 : Int32) &&& 31))) ||| (0 : Int32)))])) _
      refine st136 _ ?_
      exact k)
    have hq141 : ¬ ((3 : Int32) < (1 : Int32)) := by
      decide
    obtain ⟨_, _, ⟨T140, L140, k140, n140⟩, -, X140, ⟨Lc140, hQ140, l140, y140, z140⟩, st140⟩ := Jvm.LawKit.callS X136 hx (y := mn1) hown (mvT hZ (hVV 9 _ rfl)) (mvT hZ (hVV 10 _ rfl)) (mvT hZ (hVV 3 _ rfl)) (mvT hZ (hVV 11 _ rfl)) (by decide) (backOf (W := 1) (rm3_o l Z a0 hw [] b87 (3 : Int32) k87 (1 : Int32) ([(.int G0)]) T121.heap n0 z124 V127 hq141) hZ (hVV 11 _ rfl) (hVV 3 _ rfl) (by decide) (by decide)) (g := (mkF m 116 #[.val (.int p0_0), .val (.int p0_1), .val (.int (1 : Int32)), .val (.int (1 : Int32)), .val (.int MM), .val (.ref b87), .val (.int RR), .val (.int ((MM + (1 : Int32)) &&& (1 : Int32))), .unset] [(.int (3 : Int32)), (.ref b87), (.int (((if G0 = (0 : Int32) then (0 : Int32) else ((1 : Int32) <<< ((0 : Int32) &&& 31))) ||| (0 : Int32)) ||| (0 : Int32)))])) rfl (by rw [hml]; rfl) (argsL := [(.ref b87), (.int (3 : Int32))]) (rest := [(.int (((if G0 = (0 : Int32) then (0 : Int32) else ((1 : Int32) <<< ((0 : Int32) &&& 31))) ||| (0 : Int32)) ||| (0 : Int32)))]) (lenOf pd_2 rfl) rfl (by show 2 * 0 + _ ≤ _; exact Nat.le_of_eq rfl) (hb hby at_116) (fun _ _ => ⟨rfl, e136, (by decide : 1 + 0 ≤ _), (by decide : 1 + 0 ≤ _)⟩)
    dsimp only [Pt.U, Pt.locs, Pt.cells, Pt.slots] at X140 l140 y140 z140 st140 hQ140
    subst l140 y140 z140
    obtain ⟨rfl, N140q, e140⟩ := hQ140
    have N142 := Fr.app N138 N140q
    have pre143 : ∀ t, Steps p.tables e below (T140.setTop (mkF m 119 #[.val (.int p0_0), .val (.int p0_1), .val (.int (1 : Int32)), .val (.int (1 : Int32)), .val (.int MM), .val (.ref b87), .val (.int RR), .val (.int ((MM + (1 : Int32)) &&& (1 : Int32))), .unset] [(.int (0 : Int32)), (.int (((if G0 = (0 : Int32) then (0 : Int32) else ((1 : Int32) <<< ((0 : Int32) &&& 31))) ||| (0 : Int32)) ||| (0 : Int32)))])) t → Steps p.tables e below (s₁.setTop (entryFrame m #[(.int p0_0), (.int p0_1)] maxLocals)) t := fun t k => pre139 t (by
      show Steps p.tables e below (T136.setTop (mkF m 112 #[.val (.int p0_0), .val (.int p0_1), .val (.int (1 : Int32)), .val (.int (1 : Int32)), .val (.int MM), .val (.ref b87), .val (.int RR), .val (.int ((MM + (1 : Int32)) &&& (1 : Int32))), .unset] [(.int (0 : Int32)), (.int ((if G0 = (0 : Int32) then (0 : Int32) else ((1 : Int32) <<< ((0 : Int32) &&& 31))) ||| (0 : Int32)))])) _
      refine XS.ior X136.here hx rfl (hb hby at_112) rfl ?_
      refine XS.aload X136.here hx rfl (hb hby at_113) rfl rfl ?_
      refine XS.iconst X136.here hx rfl (hb hby at_115) ?_
      show Steps p.tables e below (T136.setTop (mkF m 116 #[.val (.int p0_0), .val (.int p0_1), .val (.int (1 : Int32)), .val (.int (1 : Int32)), .val (.int MM), .val (.ref b87), .val (.int RR), .val (.int ((MM + (1 : Int32)) &&& (1 : Int32))), .unset] [(.int (3 : Int32)), (.ref b87), (.int (((if G0 = (0 : Int32) then (0 : Int32) else ((1 : Int32) <<< ((0 : Int32) &&& 31))) ||| (0 : Int32)) ||| (0 : Int32)))])) _
      refine st140 _ ?_
      exact k)
    have hq145 : ¬ ((4 : Int32) < (1 : Int32)) := by
      decide
    obtain ⟨_, _, ⟨T144, L144, k144, n144⟩, -, X144, ⟨Lc144, hQ144, l144, y144, z144⟩, st144⟩ := Jvm.LawKit.callS X140 hx (y := mn1) hown (mvT hZ (hVV 9 _ rfl)) (mvT hZ (hVV 10 _ rfl)) (mvT hZ (hVV 3 _ rfl)) (mvT hZ (hVV 11 _ rfl)) (by decide) (backOf (W := 1) (rm3_o l Z a0 hw [] b87 (4 : Int32) k87 (1 : Int32) ([(.int G0)]) T121.heap n0 z124 V127 hq145) hZ (hVV 11 _ rfl) (hVV 3 _ rfl) (by decide) (by decide)) (g := (mkF m 123 #[.val (.int p0_0), .val (.int p0_1), .val (.int (1 : Int32)), .val (.int (1 : Int32)), .val (.int MM), .val (.ref b87), .val (.int RR), .val (.int ((MM + (1 : Int32)) &&& (1 : Int32))), .unset] [(.int (4 : Int32)), (.ref b87), (.int ((((if G0 = (0 : Int32) then (0 : Int32) else ((1 : Int32) <<< ((0 : Int32) &&& 31))) ||| (0 : Int32)) ||| (0 : Int32)) ||| (0 : Int32)))])) rfl (by rw [hml]; rfl) (argsL := [(.ref b87), (.int (4 : Int32))]) (rest := [(.int ((((if G0 = (0 : Int32) then (0 : Int32) else ((1 : Int32) <<< ((0 : Int32) &&& 31))) ||| (0 : Int32)) ||| (0 : Int32)) ||| (0 : Int32)))]) (lenOf pd_2 rfl) rfl (by show 2 * 0 + _ ≤ _; exact Nat.le_of_eq rfl) (hb hby at_123) (fun _ _ => ⟨rfl, e140, (by decide : 1 + 0 ≤ _), (by decide : 1 + 0 ≤ _)⟩)
    dsimp only [Pt.U, Pt.locs, Pt.cells, Pt.slots] at X144 l144 y144 z144 st144 hQ144
    subst l144 y144 z144
    obtain ⟨rfl, N144q, e144⟩ := hQ144
    have N146 := Fr.app N142 N144q
    have pre147 : ∀ t, Steps p.tables e below (T144.setTop (mkF m 126 #[.val (.int p0_0), .val (.int p0_1), .val (.int (1 : Int32)), .val (.int (1 : Int32)), .val (.int MM), .val (.ref b87), .val (.int RR), .val (.int ((MM + (1 : Int32)) &&& (1 : Int32))), .unset] [(.int (0 : Int32)), (.int ((((if G0 = (0 : Int32) then (0 : Int32) else ((1 : Int32) <<< ((0 : Int32) &&& 31))) ||| (0 : Int32)) ||| (0 : Int32)) ||| (0 : Int32)))])) t → Steps p.tables e below (s₁.setTop (entryFrame m #[(.int p0_0), (.int p0_1)] maxLocals)) t := fun t k => pre143 t (by
      show Steps p.tables e below (T140.setTop (mkF m 119 #[.val (.int p0_0), .val (.int p0_1), .val (.int (1 : Int32)), .val (.int (1 : Int32)), .val (.int MM), .val (.ref b87), .val (.int RR), .val (.int ((MM + (1 : Int32)) &&& (1 : Int32))), .unset] [(.int (0 : Int32)), (.int (((if G0 = (0 : Int32) then (0 : Int32) else ((1 : Int32) <<< ((0 : Int32) &&& 31))) ||| (0 : Int32)) ||| (0 : Int32)))])) _
      refine XS.ior X140.here hx rfl (hb hby at_119) rfl ?_
      refine XS.aload X140.here hx rfl (hb hby at_120) rfl rfl ?_
      refine XS.iconst X140.here hx rfl (hb hby at_122) ?_
      show Steps p.tables e below (T140.setTop (mkF m 123 #[.val (.int p0_0), .val (.int p0_1), .val (.int (1 : Int32)), .val (.int (1 : Int32)), .val (.int MM), .val (.ref b87), .val (.int RR), .val (.int ((MM + (1 : Int32)) &&& (1 : Int32))), .unset] [(.int (4 : Int32)), (.ref b87), (.int ((((if G0 = (0 : Int32) then (0 : Int32) else ((1 : Int32) <<< ((0 : Int32) &&& 31))) ||| (0 : Int32)) ||| (0 : Int32)) ||| (0 : Int32)))])) _
      refine st144 _ ?_
      exact k)
    have hq149 : ¬ ((5 : Int32) < (1 : Int32)) := by
      decide
    obtain ⟨_, _, ⟨T148, L148, k148, n148⟩, -, X148, ⟨Lc148, hQ148, l148, y148, z148⟩, st148⟩ := Jvm.LawKit.callS X144 hx (y := mn1) hown (mvT hZ (hVV 9 _ rfl)) (mvT hZ (hVV 10 _ rfl)) (mvT hZ (hVV 3 _ rfl)) (mvT hZ (hVV 11 _ rfl)) (by decide) (backOf (W := 1) (rm3_o l Z a0 hw [] b87 (5 : Int32) k87 (1 : Int32) ([(.int G0)]) T121.heap n0 z124 V127 hq149) hZ (hVV 11 _ rfl) (hVV 3 _ rfl) (by decide) (by decide)) (g := (mkF m 130 #[.val (.int p0_0), .val (.int p0_1), .val (.int (1 : Int32)), .val (.int (1 : Int32)), .val (.int MM), .val (.ref b87), .val (.int RR), .val (.int ((MM + (1 : Int32)) &&& (1 : Int32))), .unset] [(.int (5 : Int32)), (.ref b87), (.int (((((if G0 = (0 : Int32) then (0 : Int32) else ((1 : Int32) <<< ((0 : Int32) &&& 31))) ||| (0 : Int32)) ||| (0 : Int32)) ||| (0 : Int32)) ||| (0 : Int32)))])) rfl (by rw [hml]; rfl) (argsL := [(.ref b87), (.int (5 : Int32))]) (rest := [(.int (((((if G0 = (0 : Int32) then (0 : Int32) else ((1 : Int32) <<< ((0 : Int32) &&& 31))) ||| (0 : Int32)) ||| (0 : Int32)) ||| (0 : Int32)) ||| (0 : Int32)))]) (lenOf pd_2 rfl) rfl (by show 2 * 0 + _ ≤ _; exact Nat.le_of_eq rfl) (hb hby at_130) (fun _ _ => ⟨rfl, e144, (by decide : 1 + 0 ≤ _), (by decide : 1 + 0 ≤ _)⟩)
    dsimp only [Pt.U, Pt.locs, Pt.cells, Pt.slots] at X148 l148 y148 z148 st148 hQ148
    subst l148 y148 z148
    obtain ⟨rfl, N148q, e148⟩ := hQ148
    have N150 := Fr.app N146 N148q
    have pre151 : ∀ t, Steps p.tables e below (T148.setTop (mkF m 133 #[.val (.int p0_0), .val (.int p0_1), .val (.int (1 : Int32)), .val (.int (1 : Int32)), .val (.int MM), .val (.ref b87), .val (.int RR), .val (.int ((MM + (1 : Int32)) &&& (1 : Int32))), .unset] [(.int (0 : Int32)), (.int (((((if G0 = (0 : Int32) then (0 : Int32) else ((1 : Int32) <<< ((0 : Int32) &&& 31))) ||| (0 : Int32)) ||| (0 : Int32)) ||| (0 : Int32)) ||| (0 : Int32)))])) t → Steps p.tables e below (s₁.setTop (entryFrame m #[(.int p0_0), (.int p0_1)] maxLocals)) t := fun t k => pre147 t (by
      show Steps p.tables e below (T144.setTop (mkF m 126 #[.val (.int p0_0), .val (.int p0_1), .val (.int (1 : Int32)), .val (.int (1 : Int32)), .val (.int MM), .val (.ref b87), .val (.int RR), .val (.int ((MM + (1 : Int32)) &&& (1 : Int32))), .unset] [(.int (0 : Int32)), (.int ((((if G0 = (0 : Int32) then (0 : Int32) else ((1 : Int32) <<< ((0 : Int32) &&& 31))) ||| (0 : Int32)) ||| (0 : Int32)) ||| (0 : Int32)))])) _
      refine XS.ior X144.here hx rfl (hb hby at_126) rfl ?_
      refine XS.aload X144.here hx rfl (hb hby at_127) rfl rfl ?_
      refine XS.iconst X144.here hx rfl (hb hby at_129) ?_
      show Steps p.tables e below (T144.setTop (mkF m 130 #[.val (.int p0_0), .val (.int p0_1), .val (.int (1 : Int32)), .val (.int (1 : Int32)), .val (.int MM), .val (.ref b87), .val (.int RR), .val (.int ((MM + (1 : Int32)) &&& (1 : Int32))), .unset] [(.int (5 : Int32)), (.ref b87), (.int (((((if G0 = (0 : Int32) then (0 : Int32) else ((1 : Int32) <<< ((0 : Int32) &&& 31))) ||| (0 : Int32)) ||| (0 : Int32)) ||| (0 : Int32)) ||| (0 : Int32)))])) _
      refine st148 _ ?_
      exact k)
    have hq153 : ¬ ((6 : Int32) < (1 : Int32)) := by
      decide
    obtain ⟨_, _, ⟨T152, L152, k152, n152⟩, -, X152, ⟨Lc152, hQ152, l152, y152, z152⟩, st152⟩ := Jvm.LawKit.callS X148 hx (y := mn1) hown (mvT hZ (hVV 9 _ rfl)) (mvT hZ (hVV 10 _ rfl)) (mvT hZ (hVV 3 _ rfl)) (mvT hZ (hVV 11 _ rfl)) (by decide) (backOf (W := 1) (rm3_o l Z a0 hw [] b87 (6 : Int32) k87 (1 : Int32) ([(.int G0)]) T121.heap n0 z124 V127 hq153) hZ (hVV 11 _ rfl) (hVV 3 _ rfl) (by decide) (by decide)) (g := (mkF m 138 #[.val (.int p0_0), .val (.int p0_1), .val (.int (1 : Int32)), .val (.int (1 : Int32)), .val (.int MM), .val (.ref b87), .val (.int RR), .val (.int ((MM + (1 : Int32)) &&& (1 : Int32))), .unset] [(.int (6 : Int32)), (.ref b87), (.int ((((((if G0 = (0 : Int32) then (0 : Int32) else ((1 : Int32) <<< ((0 : Int32) &&& 31))) ||| (0 : Int32)) ||| (0 : Int32)) ||| (0 : Int32)) ||| (0 : Int32)) ||| (0 : Int32)))])) rfl (by rw [hml]; rfl) (argsL := [(.ref b87), (.int (6 : Int32))]) (rest := [(.int ((((((if G0 = (0 : Int32) then (0 : Int32) else ((1 : Int32) <<< ((0 : Int32) &&& 31))) ||| (0 : Int32)) ||| (0 : Int32)) ||| (0 : Int32)) ||| (0 : Int32)) ||| (0 : Int32)))]) (lenOf pd_2 rfl) rfl (by show 2 * 0 + _ ≤ _; exact Nat.le_of_eq rfl) (hb hby at_138) (fun _ _ => ⟨rfl, e148, (by decide : 1 + 0 ≤ _), (by decide : 1 + 0 ≤ _)⟩)
    dsimp only [Pt.U, Pt.locs, Pt.cells, Pt.slots] at X152 l152 y152 z152 st152 hQ152
    subst l152 y152 z152
    obtain ⟨rfl, N152q, e152⟩ := hQ152
    have N154 := Fr.app N150 N152q
    have pre155 : ∀ t, Steps p.tables e below (T152.setTop (mkF m 141 #[.val (.int p0_0), .val (.int p0_1), .val (.int (1 : Int32)), .val (.int (1 : Int32)), .val (.int MM), .val (.ref b87), .val (.int RR), .val (.int ((MM + (1 : Int32)) &&& (1 : Int32))), .unset] [(.int (0 : Int32)), (.int ((((((if G0 = (0 : Int32) then (0 : Int32) else ((1 : Int32) <<< ((0 : Int32) &&& 31))) ||| (0 : Int32)) ||| (0 : Int32)) ||| (0 : Int32)) ||| (0 : Int32)) ||| (0 : Int32)))])) t → Steps p.tables e below (s₁.setTop (entryFrame m #[(.int p0_0), (.int p0_1)] maxLocals)) t := fun t k => pre151 t (by
      show Steps p.tables e below (T148.setTop (mkF m 133 #[.val (.int p0_0), .val (.int p0_1), .val (.int (1 : Int32)), .val (.int (1 : Int32)), .val (.int MM), .val (.ref b87), .val (.int RR), .val (.int ((MM + (1 : Int32)) &&& (1 : Int32))), .unset] [(.int (0 : Int32)), (.int (((((if G0 = (0 : Int32) then (0 : Int32) else ((1 : Int32) <<< ((0 : Int32) &&& 31))) ||| (0 : Int32)) ||| (0 : Int32)) ||| (0 : Int32)) ||| (0 : Int32)))])) _
      refine XS.ior X148.here hx rfl (hb hby at_133) rfl ?_
      refine XS.aload X148.here hx rfl (hb hby at_134) rfl rfl ?_
      refine XS.bipush X148.here hx rfl (hb hby at_136) ?_
      show Steps p.tables e below (T148.setTop (mkF m 138 #[.val (.int p0_0), .val (.int p0_1), .val (.int (1 : Int32)), .val (.int (1 : Int32)), .val (.int MM), .val (.ref b87), .val (.int RR), .val (.int ((MM + (1 : Int32)) &&& (1 : Int32))), .unset] [(.int (6 : Int32)), (.ref b87), (.int ((((((if G0 = (0 : Int32) then (0 : Int32) else ((1 : Int32) <<< ((0 : Int32) &&& 31))) ||| (0 : Int32)) ||| (0 : Int32)) ||| (0 : Int32)) ||| (0 : Int32)) ||| (0 : Int32)))])) _
      refine st152 _ ?_
      exact k)
    obtain ⟨cl156, Ar156, q156, S156, N156, H156, G156⟩ := id V127
    have pre158 : ∀ t, Steps p.tables e below (T152.setTop (mkF m 156 #[.val (.int p0_0), .val (.int p0_1), .val (.int (1 : Int32)), .val (.int (1 : Int32)), .val (.int MM), .val (.ref b87), .val (.int RR), .val (.int ((MM + (1 : Int32)) &&& (1 : Int32))), .val (.int (((((((if G0 = (0 : Int32) then (0 : Int32) else ((1 : Int32) <<< ((0 : Int32) &&& 31))) ||| (0 : Int32)) ||| (0 : Int32)) ||| (0 : Int32)) ||| (0 : Int32)) ||| (0 : Int32)) ||| (0 : Int32)))] [(.int (1 : Int32)), (.int MM), (.int RR)])) t → Steps p.tables e below (s₁.setTop (entryFrame m #[(.int p0_0), (.int p0_1)] maxLocals)) t := fun t k => pre155 t (by
      show Steps p.tables e below (T152.setTop (mkF m 141 #[.val (.int p0_0), .val (.int p0_1), .val (.int (1 : Int32)), .val (.int (1 : Int32)), .val (.int MM), .val (.ref b87), .val (.int RR), .val (.int ((MM + (1 : Int32)) &&& (1 : Int32))), .unset] [(.int (0 : Int32)), (.int ((((((if G0 = (0 : Int32) then (0 : Int32) else ((1 : Int32) <<< ((0 : Int32) &&& 31))) ||| (0 : Int32)) ||| (0 : Int32)) ||| (0 : Int32)) ||| (0 : Int32)) ||| (0 : Int32)))])) _
      refine XS.ior X152.here hx rfl (hb hby at_141) rfl ?_
      show Steps p.tables e below (T152.setTop (mkF m 142 #[.val (.int p0_0), .val (.int p0_1), .val (.int (1 : Int32)), .val (.int (1 : Int32)), .val (.int MM), .val (.ref b87), .val (.int RR), .val (.int ((MM + (1 : Int32)) &&& (1 : Int32))), .unset] [(.int (((((((if G0 = (0 : Int32) then (0 : Int32) else ((1 : Int32) <<< ((0 : Int32) &&& 31))) ||| (0 : Int32)) ||| (0 : Int32)) ||| (0 : Int32)) ||| (0 : Int32)) ||| (0 : Int32)) ||| (0 : Int32)))])) _
      refine XS.istore X152.here hx rfl (hb hby at_142) rfl (l' := #[.val (.int p0_0), .val (.int p0_1), .val (.int (1 : Int32)), .val (.int (1 : Int32)), .val (.int MM), .val (.ref b87), .val (.int RR), .val (.int ((MM + (1 : Int32)) &&& (1 : Int32))), .val (.int (((((((if G0 = (0 : Int32) then (0 : Int32) else ((1 : Int32) <<< ((0 : Int32) &&& 31))) ||| (0 : Int32)) ||| (0 : Int32)) ||| (0 : Int32)) ||| (0 : Int32)) ||| (0 : Int32)) ||| (0 : Int32)))]) rfl ?_
      show Steps p.tables e below (T152.setTop (mkF m 144 #[.val (.int p0_0), .val (.int p0_1), .val (.int (1 : Int32)), .val (.int (1 : Int32)), .val (.int MM), .val (.ref b87), .val (.int RR), .val (.int ((MM + (1 : Int32)) &&& (1 : Int32))), .val (.int (((((((if G0 = (0 : Int32) then (0 : Int32) else ((1 : Int32) <<< ((0 : Int32) &&& 31))) ||| (0 : Int32)) ||| (0 : Int32)) ||| (0 : Int32)) ||| (0 : Int32)) ||| (0 : Int32)) ||| (0 : Int32)))] [])) _
      refine XS.aload X152.here hx rfl (hb hby at_144) rfl rfl ?_
      show Steps p.tables e below (T152.setTop (mkF m 146 #[.val (.int p0_0), .val (.int p0_1), .val (.int (1 : Int32)), .val (.int (1 : Int32)), .val (.int MM), .val (.ref b87), .val (.int RR), .val (.int ((MM + (1 : Int32)) &&& (1 : Int32))), .val (.int (((((((if G0 = (0 : Int32) then (0 : Int32) else ((1 : Int32) <<< ((0 : Int32) &&& 31))) ||| (0 : Int32)) ||| (0 : Int32)) ||| (0 : Int32)) ||| (0 : Int32)) ||| (0 : Int32)) ||| (0 : Int32)))] [(.ref b87)])) _
      refine X152.arraylength hx (by rw [e152]; exact Ar156.1) (State.isArrayOf_alike hZ.alike Ar156.2.1) (g := (mkF m 146 #[.val (.int p0_0), .val (.int p0_1), .val (.int (1 : Int32)), .val (.int (1 : Int32)), .val (.int MM), .val (.ref b87), .val (.int RR), .val (.int ((MM + (1 : Int32)) &&& (1 : Int32))), .val (.int (((((((if G0 = (0 : Int32) then (0 : Int32) else ((1 : Int32) <<< ((0 : Int32) &&& 31))) ||| (0 : Int32)) ||| (0 : Int32)) ||| (0 : Int32)) ||| (0 : Int32)) ||| (0 : Int32)) ||| (0 : Int32)))] [(.ref b87)])) rfl rfl (hb hby at_146) _ ?_
      rw [len_of S156 N156]
      show Steps p.tables e below (T152.setTop (mkF m 147 #[.val (.int p0_0), .val (.int p0_1), .val (.int (1 : Int32)), .val (.int (1 : Int32)), .val (.int MM), .val (.ref b87), .val (.int RR), .val (.int ((MM + (1 : Int32)) &&& (1 : Int32))), .val (.int (((((((if G0 = (0 : Int32) then (0 : Int32) else ((1 : Int32) <<< ((0 : Int32) &&& 31))) ||| (0 : Int32)) ||| (0 : Int32)) ||| (0 : Int32)) ||| (0 : Int32)) ||| (0 : Int32)) ||| (0 : Int32)))] [(.int (1 : Int32))])) _
      refine XS.iloadN X152.here hx rfl (hb hby at_147) rfl ?_
      show Steps p.tables e below (T152.setTop (mkF m 148 #[.val (.int p0_0), .val (.int p0_1), .val (.int (1 : Int32)), .val (.int (1 : Int32)), .val (.int MM), .val (.ref b87), .val (.int RR), .val (.int ((MM + (1 : Int32)) &&& (1 : Int32))), .val (.int (((((((if G0 = (0 : Int32) then (0 : Int32) else ((1 : Int32) <<< ((0 : Int32) &&& 31))) ||| (0 : Int32)) ||| (0 : Int32)) ||| (0 : Int32)) ||| (0 : Int32)) ||| (0 : Int32)) ||| (0 : Int32)))] [(.int (1 : Int32)), (.int (1 : Int32))])) _
      refine XS.icmpNo X152.here hx rfl (hb hby at_148) rfl (teq (by decide : (1 : Int32) = (1 : Int32))).2 ?_
      show Steps p.tables e below (T152.setTop (mkF m 151 #[.val (.int p0_0), .val (.int p0_1), .val (.int (1 : Int32)), .val (.int (1 : Int32)), .val (.int MM), .val (.ref b87), .val (.int RR), .val (.int ((MM + (1 : Int32)) &&& (1 : Int32))), .val (.int (((((((if G0 = (0 : Int32) then (0 : Int32) else ((1 : Int32) <<< ((0 : Int32) &&& 31))) ||| (0 : Int32)) ||| (0 : Int32)) ||| (0 : Int32)) ||| (0 : Int32)) ||| (0 : Int32)) ||| (0 : Int32)))] [])) _
      refine XS.iload X152.here hx rfl (hb hby at_151) rfl ?_
      refine XS.iload X152.here hx rfl (hb hby at_153) rfl ?_
      refine XS.iloadN X152.here hx rfl (hb hby at_155) rfl ?_
      exact k)
    have pre159 : ∀ t, Steps p.tables e below (T152.setTop (mkF m 164 #[.val (.int p0_0), .val (.int p0_1), .val (.int (1 : Int32)), .val (.int (1 : Int32)), .val (.int MM), .val (.ref b87), .val (.int RR), .val (.int ((MM + (1 : Int32)) &&& (1 : Int32))), .val (.int (((((((if G0 = (0 : Int32) then (0 : Int32) else ((1 : Int32) <<< ((0 : Int32) &&& 31))) ||| (0 : Int32)) ||| (0 : Int32)) ||| (0 : Int32)) ||| (0 : Int32)) ||| (0 : Int32)) ||| (0 : Int32)))] [(.int (bI (¬ (MM = (1 : Int32))))), (.int RR)])) t → Steps p.tables e below (s₁.setTop (entryFrame m #[(.int p0_0), (.int p0_1)] maxLocals)) t := fun t k => pre158 t (by
      by_cases hc157 : MM = (1 : Int32)
      · show Steps p.tables e below (T152.setTop (mkF m 156 #[.val (.int p0_0), .val (.int p0_1), .val (.int (1 : Int32)), .val (.int (1 : Int32)), .val (.int MM), .val (.ref b87), .val (.int RR), .val (.int ((MM + (1 : Int32)) &&& (1 : Int32))), .val (.int (((((((if G0 = (0 : Int32) then (0 : Int32) else ((1 : Int32) <<< ((0 : Int32) &&& 31))) ||| (0 : Int32)) ||| (0 : Int32)) ||| (0 : Int32)) ||| (0 : Int32)) ||| (0 : Int32)) ||| (0 : Int32)))] [(.int (1 : Int32)), (.int MM), (.int RR)])) _
        refine XS.icmpYes X152.here hx rfl (pc0 := 156) (pc' := 163) rfl (hb hby at_156) rfl (teq hc157).1 (by decide) (by decide) ?_
        show Steps p.tables e below (T152.setTop (mkF m 163 #[.val (.int p0_0), .val (.int p0_1), .val (.int (1 : Int32)), .val (.int (1 : Int32)), .val (.int MM), .val (.ref b87), .val (.int RR), .val (.int ((MM + (1 : Int32)) &&& (1 : Int32))), .val (.int (((((((if G0 = (0 : Int32) then (0 : Int32) else ((1 : Int32) <<< ((0 : Int32) &&& 31))) ||| (0 : Int32)) ||| (0 : Int32)) ||| (0 : Int32)) ||| (0 : Int32)) ||| (0 : Int32)) ||| (0 : Int32)))] [(.int RR)])) _
        refine XS.iconst X152.here hx rfl (hb hby at_163) ?_
        have q160 : (bI (¬ (MM = (1 : Int32)))) = (0 : Int32) := (bI_f (fun q => q hc157))
        exact castTop (g := (mkF m 164 #[.val (.int p0_0), .val (.int p0_1), .val (.int (1 : Int32)), .val (.int (1 : Int32)), .val (.int MM), .val (.ref b87), .val (.int RR), .val (.int ((MM + (1 : Int32)) &&& (1 : Int32))), .val (.int (((((((if G0 = (0 : Int32) then (0 : Int32) else ((1 : Int32) <<< ((0 : Int32) &&& 31))) ||| (0 : Int32)) ||| (0 : Int32)) ||| (0 : Int32)) ||| (0 : Int32)) ||| (0 : Int32)) ||| (0 : Int32)))] [(.int (0 : Int32)), (.int RR)])) (g' := (mkF m 164 #[.val (.int p0_0), .val (.int p0_1), .val (.int (1 : Int32)), .val (.int (1 : Int32)), .val (.int MM), .val (.ref b87), .val (.int RR), .val (.int ((MM + (1 : Int32)) &&& (1 : Int32))), .val (.int (((((((if G0 = (0 : Int32) then (0 : Int32) else ((1 : Int32) <<< ((0 : Int32) &&& 31))) ||| (0 : Int32)) ||| (0 : Int32)) ||| (0 : Int32)) ||| (0 : Int32)) ||| (0 : Int32)) ||| (0 : Int32)))] [(.int (bI (¬ (MM = (1 : Int32))))), (.int RR)])) (by simp only [q160]) k
      · show Steps p.tables e below (T152.setTop (mkF m 156 #[.val (.int p0_0), .val (.int p0_1), .val (.int (1 : Int32)), .val (.int (1 : Int32)), .val (.int MM), .val (.ref b87), .val (.int RR), .val (.int ((MM + (1 : Int32)) &&& (1 : Int32))), .val (.int (((((((if G0 = (0 : Int32) then (0 : Int32) else ((1 : Int32) <<< ((0 : Int32) &&& 31))) ||| (0 : Int32)) ||| (0 : Int32)) ||| (0 : Int32)) ||| (0 : Int32)) ||| (0 : Int32)) ||| (0 : Int32)))] [(.int (1 : Int32)), (.int MM), (.int RR)])) _
        refine XS.icmpNo X152.here hx rfl (hb hby at_156) rfl (feq hc157).1 ?_
        show Steps p.tables e below (T152.setTop (mkF m 159 #[.val (.int p0_0), .val (.int p0_1), .val (.int (1 : Int32)), .val (.int (1 : Int32)), .val (.int MM), .val (.ref b87), .val (.int RR), .val (.int ((MM + (1 : Int32)) &&& (1 : Int32))), .val (.int (((((((if G0 = (0 : Int32) then (0 : Int32) else ((1 : Int32) <<< ((0 : Int32) &&& 31))) ||| (0 : Int32)) ||| (0 : Int32)) ||| (0 : Int32)) ||| (0 : Int32)) ||| (0 : Int32)) ||| (0 : Int32)))] [(.int RR)])) _
        refine XS.iconst X152.here hx rfl (hb hby at_159) ?_
        show Steps p.tables e below (T152.setTop (mkF m 160 #[.val (.int p0_0), .val (.int p0_1), .val (.int (1 : Int32)), .val (.int (1 : Int32)), .val (.int MM), .val (.ref b87), .val (.int RR), .val (.int ((MM + (1 : Int32)) &&& (1 : Int32))), .val (.int (((((((if G0 = (0 : Int32) then (0 : Int32) else ((1 : Int32) <<< ((0 : Int32) &&& 31))) ||| (0 : Int32)) ||| (0 : Int32)) ||| (0 : Int32)) ||| (0 : Int32)) ||| (0 : Int32)) ||| (0 : Int32)))] [(.int (1 : Int32)), (.int RR)])) _
        refine XS.goto X152.here hx rfl (pc0 := 160) (pc' := 164) rfl (hb hby at_160) (by decide) (by decide) ?_
        have q161 : (bI (¬ (MM = (1 : Int32)))) = (1 : Int32) := (bI_t hc157)
        exact castTop (g := (mkF m 164 #[.val (.int p0_0), .val (.int p0_1), .val (.int (1 : Int32)), .val (.int (1 : Int32)), .val (.int MM), .val (.ref b87), .val (.int RR), .val (.int ((MM + (1 : Int32)) &&& (1 : Int32))), .val (.int (((((((if G0 = (0 : Int32) then (0 : Int32) else ((1 : Int32) <<< ((0 : Int32) &&& 31))) ||| (0 : Int32)) ||| (0 : Int32)) ||| (0 : Int32)) ||| (0 : Int32)) ||| (0 : Int32)) ||| (0 : Int32)))] [(.int (1 : Int32)), (.int RR)])) (g' := (mkF m 164 #[.val (.int p0_0), .val (.int p0_1), .val (.int (1 : Int32)), .val (.int (1 : Int32)), .val (.int MM), .val (.ref b87), .val (.int RR), .val (.int ((MM + (1 : Int32)) &&& (1 : Int32))), .val (.int (((((((if G0 = (0 : Int32) then (0 : Int32) else ((1 : Int32) <<< ((0 : Int32) &&& 31))) ||| (0 : Int32)) ||| (0 : Int32)) ||| (0 : Int32)) ||| (0 : Int32)) ||| (0 : Int32)) ||| (0 : Int32)))] [(.int (bI (¬ (MM = (1 : Int32))))), (.int RR)])) (by simp only [q161]) k)
    have hd162 : RR = (bI (¬ (MM = (1 : Int32)))) := by
      rw [hRR]
      exact own_fin (P := fun y : Int32 => (bI ((own_b y (0 : Int32)) = (0 : Int32))) = (bI (¬ (y = (1 : Int32))))) own_r_1 MM hM.1 hM.2
    have hd163 : (((((((if G0 = (0 : Int32) then (0 : Int32) else ((1 : Int32) <<< ((0 : Int32) &&& 31))) ||| (0 : Int32)) ||| (0 : Int32)) ||| (0 : Int32)) ||| (0 : Int32)) ||| (0 : Int32)) ||| (0 : Int32)) = ((MM + (1 : Int32)) &&& (1 : Int32)) := by
      rw [hG0]
      exact own_fin (P := fun y : Int32 => (((((((if (bI ((own_b y (0 : Int32)) = (0 : Int32))) = (0 : Int32) then (0 : Int32) else ((1 : Int32) <<< ((0 : Int32) &&& 31))) ||| (0 : Int32)) ||| (0 : Int32)) ||| (0 : Int32)) ||| (0 : Int32)) ||| (0 : Int32)) ||| (0 : Int32)) = ((y + (1 : Int32)) &&& (1 : Int32))) own_g_1 MM hM.1 hM.2
    obtain ⟨fs, hr, hrun, hended, hW, hsame⟩ := X152.leave (v := some (.int (1 : Int32))) (fun h => by rw [Bd.returns] at h; cases h)
    refine ⟨_, _, pre159 _ ?_, hrun, hended, _, _, rfl, ?_, ⟨_, rfl⟩, hW, hsame.mono (by decide) (by decide)⟩
    · show Steps p.tables e below (T152.setTop (mkF m 164 #[.val (.int p0_0), .val (.int p0_1), .val (.int (1 : Int32)), .val (.int (1 : Int32)), .val (.int MM), .val (.ref b87), .val (.int RR), .val (.int ((MM + (1 : Int32)) &&& (1 : Int32))), .val (.int (((((((if G0 = (0 : Int32) then (0 : Int32) else ((1 : Int32) <<< ((0 : Int32) &&& 31))) ||| (0 : Int32)) ||| (0 : Int32)) ||| (0 : Int32)) ||| (0 : Int32)) ||| (0 : Int32)) ||| (0 : Int32)))] [(.int (bI (¬ (MM = (1 : Int32))))), (.int RR)])) _
      refine XS.icmpNo X152.here hx rfl (hb hby at_164) rfl (teq hd162).2 ?_
      show Steps p.tables e below (T152.setTop (mkF m 167 #[.val (.int p0_0), .val (.int p0_1), .val (.int (1 : Int32)), .val (.int (1 : Int32)), .val (.int MM), .val (.ref b87), .val (.int RR), .val (.int ((MM + (1 : Int32)) &&& (1 : Int32))), .val (.int (((((((if G0 = (0 : Int32) then (0 : Int32) else ((1 : Int32) <<< ((0 : Int32) &&& 31))) ||| (0 : Int32)) ||| (0 : Int32)) ||| (0 : Int32)) ||| (0 : Int32)) ||| (0 : Int32)) ||| (0 : Int32)))] [])) _
      refine XS.iload X152.here hx rfl (hb hby at_167) rfl ?_
      refine XS.iload X152.here hx rfl (hb hby at_169) rfl ?_
      show Steps p.tables e below (T152.setTop (mkF m 171 #[.val (.int p0_0), .val (.int p0_1), .val (.int (1 : Int32)), .val (.int (1 : Int32)), .val (.int MM), .val (.ref b87), .val (.int RR), .val (.int ((MM + (1 : Int32)) &&& (1 : Int32))), .val (.int (((((((if G0 = (0 : Int32) then (0 : Int32) else ((1 : Int32) <<< ((0 : Int32) &&& 31))) ||| (0 : Int32)) ||| (0 : Int32)) ||| (0 : Int32)) ||| (0 : Int32)) ||| (0 : Int32)) ||| (0 : Int32)))] [(.int ((MM + (1 : Int32)) &&& (1 : Int32))), (.int (((((((if G0 = (0 : Int32) then (0 : Int32) else ((1 : Int32) <<< ((0 : Int32) &&& 31))) ||| (0 : Int32)) ||| (0 : Int32)) ||| (0 : Int32)) ||| (0 : Int32)) ||| (0 : Int32)) ||| (0 : Int32)))])) _
      refine XS.icmpNo X152.here hx rfl (hb hby at_171) rfl (teq hd163).2 ?_
      show Steps p.tables e below (T152.setTop (mkF m 174 #[.val (.int p0_0), .val (.int p0_1), .val (.int (1 : Int32)), .val (.int (1 : Int32)), .val (.int MM), .val (.ref b87), .val (.int RR), .val (.int ((MM + (1 : Int32)) &&& (1 : Int32))), .val (.int (((((((if G0 = (0 : Int32) then (0 : Int32) else ((1 : Int32) <<< ((0 : Int32) &&& 31))) ||| (0 : Int32)) ||| (0 : Int32)) ||| (0 : Int32)) ||| (0 : Int32)) ||| (0 : Int32)) ||| (0 : Int32)))] [])) _
      refine XS.iconst X152.here hx rfl (hb hby at_174) ?_
      refine XS.goto X152.here hx rfl (pc0 := 175) (pc' := 179) rfl (hb hby at_175) (by decide) (by decide) ?_
      show Steps p.tables e below (T152.setTop (mkF m 179 #[.val (.int p0_0), .val (.int p0_1), .val (.int (1 : Int32)), .val (.int (1 : Int32)), .val (.int MM), .val (.ref b87), .val (.int RR), .val (.int ((MM + (1 : Int32)) &&& (1 : Int32))), .val (.int (((((((if G0 = (0 : Int32) then (0 : Int32) else ((1 : Int32) <<< ((0 : Int32) &&& 31))) ||| (0 : Int32)) ||| (0 : Int32)) ||| (0 : Int32)) ||| (0 : Int32)) ||| (0 : Int32)) ||| (0 : Int32)))] [(.int (1 : Int32))])) _
      exact retN X152 hx (t := .boolean) Bd.returns (by simp) (hb hby at_179) hr
    · show Q0 Z p0_0 p0_1 h0 n0 _ T152.heap _
      rw [e152]
      exact ⟨rfl, N154⟩
  · have pre164 : ∀ t, Steps p.tables e below (s₁.setTop (mkF m 5 #[.val (.int p0_0), .val (.int p0_1), .val (.int (2 : Int32)), .unset, .unset, .unset, .unset, .unset, .unset] [])) t → Steps p.tables e below (s₁.setTop (entryFrame m #[(.int p0_0), (.int p0_1)] maxLocals)) t := fun t k => pre1 t (castTop (by rw [hk]) k)
    have pre165 : ∀ t, Steps p.tables e below (s₁.setTop (mkF m 11 #[.val (.int p0_0), .val (.int p0_1), .val (.int (2 : Int32)), .val (.int (((1 : Int32) <<< ((2 : Int32) &&& 31)) - (1 : Int32))), .unset, .unset, .unset, .unset, .unset] [])) t → Steps p.tables e below (s₁.setTop (entryFrame m #[(.int p0_0), (.int p0_1)] maxLocals)) t := fun t k => pre164 t (by
      show Steps p.tables e below (s₁.setTop (mkF m 5 #[.val (.int p0_0), .val (.int p0_1), .val (.int (2 : Int32)), .unset, .unset, .unset, .unset, .unset, .unset] [])) _
      refine XS.iconst X0.here hx rfl (hb hby at_5) ?_
      refine XS.iloadN X0.here hx rfl (hb hby at_6) rfl ?_
      show Steps p.tables e below (s₁.setTop (mkF m 7 #[.val (.int p0_0), .val (.int p0_1), .val (.int (2 : Int32)), .unset, .unset, .unset, .unset, .unset, .unset] [(.int (2 : Int32)), (.int (1 : Int32))])) _
      refine XS.ishl X0.here hx rfl (hb hby at_7) rfl ?_
      show Steps p.tables e below (s₁.setTop (mkF m 8 #[.val (.int p0_0), .val (.int p0_1), .val (.int (2 : Int32)), .unset, .unset, .unset, .unset, .unset, .unset] [(.int ((1 : Int32) <<< ((2 : Int32) &&& 31)))])) _
      refine XS.iconst X0.here hx rfl (hb hby at_8) ?_
      refine XS.isub X0.here hx rfl (hb hby at_9) rfl ?_
      show Steps p.tables e below (s₁.setTop (mkF m 10 #[.val (.int p0_0), .val (.int p0_1), .val (.int (2 : Int32)), .unset, .unset, .unset, .unset, .unset, .unset] [(.int (((1 : Int32) <<< ((2 : Int32) &&& 31)) - (1 : Int32)))])) _
      refine XS.istoreN X0.here hx rfl (hb hby at_10) rfl (l' := #[.val (.int p0_0), .val (.int p0_1), .val (.int (2 : Int32)), .val (.int (((1 : Int32) <<< ((2 : Int32) &&& 31)) - (1 : Int32))), .unset, .unset, .unset, .unset, .unset]) rfl ?_
      exact k)
    have hl166 : (((1 : Int32) <<< ((2 : Int32) &&& 31)) - (1 : Int32)) = (3 : Int32) := by
      decide
    have pre167 : ∀ t, Steps p.tables e below (s₁.setTop (mkF m 11 #[.val (.int p0_0), .val (.int p0_1), .val (.int (2 : Int32)), .val (.int (3 : Int32)), .unset, .unset, .unset, .unset, .unset] [])) t → Steps p.tables e below (s₁.setTop (entryFrame m #[(.int p0_0), (.int p0_1)] maxLocals)) t := fun t k => pre165 t (castTop (by rw [hl166]) k)
    have pre168 : ∀ t, Steps p.tables e below (s₁.setTop (mkF m 16 #[.val (.int p0_0), .val (.int p0_1), .val (.int (2 : Int32)), .val (.int (3 : Int32)), .val (.int (p0_1 &&& (3 : Int32))), .unset, .unset, .unset, .unset] [])) t → Steps p.tables e below (s₁.setTop (entryFrame m #[(.int p0_0), (.int p0_1)] maxLocals)) t := fun t k => pre167 t (by
      show Steps p.tables e below (s₁.setTop (mkF m 11 #[.val (.int p0_0), .val (.int p0_1), .val (.int (2 : Int32)), .val (.int (3 : Int32)), .unset, .unset, .unset, .unset, .unset] [])) _
      refine XS.iloadN X0.here hx rfl (hb hby at_11) rfl ?_
      refine XS.iloadN X0.here hx rfl (hb hby at_12) rfl ?_
      refine XS.iand X0.here hx rfl (hb hby at_13) rfl ?_
      show Steps p.tables e below (s₁.setTop (mkF m 14 #[.val (.int p0_0), .val (.int p0_1), .val (.int (2 : Int32)), .val (.int (3 : Int32)), .unset, .unset, .unset, .unset, .unset] [(.int (p0_1 &&& (3 : Int32)))])) _
      refine XS.istore X0.here hx rfl (hb hby at_14) rfl (l' := #[.val (.int p0_0), .val (.int p0_1), .val (.int (2 : Int32)), .val (.int (3 : Int32)), .val (.int (p0_1 &&& (3 : Int32))), .unset, .unset, .unset, .unset]) rfl ?_
      exact k)
    obtain ⟨MM, hMM⟩ : ∃ z : Int32, z = (p0_1 &&& (3 : Int32)) := ⟨_, rfl⟩
    have pre169 : ∀ t, Steps p.tables e below (s₁.setTop (mkF m 16 #[.val (.int p0_0), .val (.int p0_1), .val (.int (2 : Int32)), .val (.int (3 : Int32)), .val (.int MM), .unset, .unset, .unset, .unset] [])) t → Steps p.tables e below (s₁.setTop (entryFrame m #[(.int p0_0), (.int p0_1)] maxLocals)) t := fun t k => pre168 t (castTop (by rw [hMM]) k)
    have hM : 0 ≤ MM.toInt ∧ MM.toInt < (4 : Nat) := by
      rw [hMM]
      have e := c_mask p0_1 (3 : Int32) 2 (by decide) (by decide)
      omega
    obtain ⟨T170, h170, k170, X170, e170, E170, A170, st170⟩ := newP X0 hx hZ (hVV 0 _ rfl) e0 (g := (mkF m 17 #[.val (.int p0_0), .val (.int p0_1), .val (.int (2 : Int32)), .val (.int (3 : Int32)), .val (.int MM), .unset, .unset, .unset, .unset] [(.int (2 : Int32))])) rfl (hb hby at_17) rfl (by decide) (cap := 2) (by decide) (by decide) (by decide) (by decide)
    obtain ⟨b170, g170⟩ : ∃ z, z = h0.size := ⟨_, rfl⟩
    rw [← g170] at A170 st170
    have gz170 : n0 ≤ b170 := Nat.le_trans Z0 (Nat.le_of_eq g170.symm)
    have pre171 : ∀ t, Steps p.tables e below (T170.setTop (mkF m 19 #[.val (.int p0_0), .val (.int p0_1), .val (.int (2 : Int32)), .val (.int (3 : Int32)), .val (.int MM), .unset, .unset, .unset, .unset] [(.ref b170)])) t → Steps p.tables e below (s₁.setTop (entryFrame m #[(.int p0_0), (.int p0_1)] maxLocals)) t := fun t k => pre169 t (by
      show Steps p.tables e below (s₁.setTop (mkF m 16 #[.val (.int p0_0), .val (.int p0_1), .val (.int (2 : Int32)), .val (.int (3 : Int32)), .val (.int MM), .unset, .unset, .unset, .unset] [])) _
      refine XS.iloadN X0.here hx rfl (hb hby at_16) rfl ?_
      show Steps p.tables e below (s₁.setTop (mkF m 17 #[.val (.int p0_0), .val (.int p0_1), .val (.int (2 : Int32)), .val (.int (3 : Int32)), .val (.int MM), .unset, .unset, .unset, .unset] [(.int (2 : Int32))])) _
      refine st170 _ ?_
      exact k)
    have z172 := Nat.le_trans Z0 E170.1
    have V173 : Arv Z h170 b170 k170 .boolean (2 : Int32) [(.int (0 : Int32)), (.int (0 : Int32))] (.int (0 : Int32)) := (Arv.new A170 (by decide)).pad (pad_rep [] (.int (0 : Int32)) 2)
    have hq175 : (0 : Int32) < (2 : Int32) := by
      decide
    obtain ⟨_, _, ⟨T174, L174, k174, n174⟩, -, X174, ⟨Lc174, hQ174, l174, y174, z174⟩, st174⟩ := Jvm.LawKit.callS X170 hx (y := mn0) hown (mvT hZ (hVV 1 _ rfl)) (mvT hZ (hVV 2 _ rfl)) (mvT hZ (hVV 3 _ rfl)) (mvT hZ (hVV 4 _ rfl)) (by decide) (backOf (W := 0) (rm1_i l Z a0 hw [] b170 (0 : Int32) MM k170 (2 : Int32) ([(.int (0 : Int32)), (.int (0 : Int32))]) h170 n0 z172 V173 (by decide) (Nat.le_of_ble_eq_true rfl) hq175 gz170) hZ (hVV 4 _ rfl) (hVV 3 _ rfl) (by decide) (by decide)) (g := (mkF m 26 #[.val (.int p0_0), .val (.int p0_1), .val (.int (2 : Int32)), .val (.int (3 : Int32)), .val (.int MM), .val (.ref b170), .unset, .unset, .unset] [(.int MM), (.int (0 : Int32)), (.ref b170)])) rfl (by rw [hml]; rfl) (argsL := [(.ref b170), (.int (0 : Int32)), (.int MM)]) (rest := []) (lenOf pd_0 rfl) rfl (by show 2 * 0 + _ ≤ _; exact Nat.le_of_eq rfl) (hb hby at_26) (fun _ _ => ⟨rfl, e170, (by decide : 1 + 0 ≤ _), (by decide : 2 + 0 ≤ _)⟩)
    dsimp only [Pt.U, Pt.locs, Pt.cells, Pt.slots] at X174 l174 y174 z174 st174 hQ174
    subst l174 y174 z174
    obtain ⟨rfl, N174q, K174, r174_0⟩ := hQ174
    have N176 := Fr.app N0 N174q
    have pre177 : ∀ t, Steps p.tables e below (T174.setTop (mkF m 29 #[.val (.int p0_0), .val (.int p0_1), .val (.int (2 : Int32)), .val (.int (3 : Int32)), .val (.int MM), .val (.ref b170), .unset, .unset, .unset] [])) t → Steps p.tables e below (s₁.setTop (entryFrame m #[(.int p0_0), (.int p0_1)] maxLocals)) t := fun t k => pre171 t (by
      show Steps p.tables e below (T170.setTop (mkF m 19 #[.val (.int p0_0), .val (.int p0_1), .val (.int (2 : Int32)), .val (.int (3 : Int32)), .val (.int MM), .unset, .unset, .unset, .unset] [(.ref b170)])) _
      refine XS.astore X170.here hx rfl (hb hby at_19) rfl rfl (l' := #[.val (.int p0_0), .val (.int p0_1), .val (.int (2 : Int32)), .val (.int (3 : Int32)), .val (.int MM), .val (.ref b170), .unset, .unset, .unset]) rfl ?_
      show Steps p.tables e below (T170.setTop (mkF m 21 #[.val (.int p0_0), .val (.int p0_1), .val (.int (2 : Int32)), .val (.int (3 : Int32)), .val (.int MM), .val (.ref b170), .unset, .unset, .unset] [])) _
      refine XS.aload X170.here hx rfl (hb hby at_21) rfl rfl ?_
      refine XS.iconst X170.here hx rfl (hb hby at_23) ?_
      refine XS.iload X170.here hx rfl (hb hby at_24) rfl ?_
      show Steps p.tables e below (T170.setTop (mkF m 26 #[.val (.int p0_0), .val (.int p0_1), .val (.int (2 : Int32)), .val (.int (3 : Int32)), .val (.int MM), .val (.ref b170), .unset, .unset, .unset] [(.int MM), (.int (0 : Int32)), (.ref b170)])) _
      refine st174 _ ?_
      exact k)
    have z178 := Nat.le_trans z172 K174.1
    have V179 : Arv Z T174.heap b170 k170 .boolean (2 : Int32) [(.int (own_b MM (0 : Int32))), (.int (0 : Int32))] (.int (0 : Int32)) := r174_0
    have hq181 : (1 : Int32) < (2 : Int32) := by
      decide
    obtain ⟨_, _, ⟨T180, L180, k180, n180⟩, -, X180, ⟨Lc180, hQ180, l180, y180, z180⟩, st180⟩ := Jvm.LawKit.callS X174 hx (y := mn0) hown (mvT hZ (hVV 1 _ rfl)) (mvT hZ (hVV 2 _ rfl)) (mvT hZ (hVV 3 _ rfl)) (mvT hZ (hVV 4 _ rfl)) (by decide) (backOf (W := 0) (rm1_i l Z a0 hw [] b170 (1 : Int32) MM k170 (2 : Int32) ([(.int (own_b MM (0 : Int32))), (.int (0 : Int32))]) T174.heap n0 z178 V179 (by decide) (Nat.le_of_ble_eq_true rfl) hq181 gz170) hZ (hVV 4 _ rfl) (hVV 3 _ rfl) (by decide) (by decide)) (g := (mkF m 34 #[.val (.int p0_0), .val (.int p0_1), .val (.int (2 : Int32)), .val (.int (3 : Int32)), .val (.int MM), .val (.ref b170), .unset, .unset, .unset] [(.int MM), (.int (1 : Int32)), (.ref b170)])) rfl (by rw [hml]; rfl) (argsL := [(.ref b170), (.int (1 : Int32)), (.int MM)]) (rest := []) (lenOf pd_0 rfl) rfl (by show 2 * 0 + _ ≤ _; exact Nat.le_of_eq rfl) (hb hby at_34) (fun _ _ => ⟨rfl, rfl, (by decide : 1 + 0 ≤ _), (by decide : 2 + 0 ≤ _)⟩)
    dsimp only [Pt.U, Pt.locs, Pt.cells, Pt.slots] at X180 l180 y180 z180 st180 hQ180
    subst l180 y180 z180
    obtain ⟨rfl, N180q, K180, r180_0⟩ := hQ180
    have N182 := Fr.app N176 N180q
    have pre183 : ∀ t, Steps p.tables e below (T180.setTop (mkF m 37 #[.val (.int p0_0), .val (.int p0_1), .val (.int (2 : Int32)), .val (.int (3 : Int32)), .val (.int MM), .val (.ref b170), .unset, .unset, .unset] [])) t → Steps p.tables e below (s₁.setTop (entryFrame m #[(.int p0_0), (.int p0_1)] maxLocals)) t := fun t k => pre177 t (by
      show Steps p.tables e below (T174.setTop (mkF m 29 #[.val (.int p0_0), .val (.int p0_1), .val (.int (2 : Int32)), .val (.int (3 : Int32)), .val (.int MM), .val (.ref b170), .unset, .unset, .unset] [])) _
      refine XS.aload X174.here hx rfl (hb hby at_29) rfl rfl ?_
      refine XS.iconst X174.here hx rfl (hb hby at_31) ?_
      refine XS.iload X174.here hx rfl (hb hby at_32) rfl ?_
      show Steps p.tables e below (T174.setTop (mkF m 34 #[.val (.int p0_0), .val (.int p0_1), .val (.int (2 : Int32)), .val (.int (3 : Int32)), .val (.int MM), .val (.ref b170), .unset, .unset, .unset] [(.int MM), (.int (1 : Int32)), (.ref b170)])) _
      refine st180 _ ?_
      exact k)
    have z184 := Nat.le_trans z178 K180.1
    have V185 : Arv Z T180.heap b170 k170 .boolean (2 : Int32) [(.int (own_b MM (0 : Int32))), (.int (own_b MM (1 : Int32)))] (.int (0 : Int32)) := r180_0
    have hq187 : ¬ ((2 : Int32) < (2 : Int32)) := by
      decide
    obtain ⟨_, _, ⟨T186, L186, k186, n186⟩, -, X186, ⟨Lc186, hQ186, l186, y186, z186⟩, st186⟩ := Jvm.LawKit.callS X180 hx (y := mn0) hown (mvT hZ (hVV 1 _ rfl)) (mvT hZ (hVV 2 _ rfl)) (mvT hZ (hVV 3 _ rfl)) (mvT hZ (hVV 4 _ rfl)) (by decide) (backOf (W := 0) (rm1_o l Z a0 hw [] b170 (2 : Int32) MM k170 (2 : Int32) ([(.int (own_b MM (0 : Int32))), (.int (own_b MM (1 : Int32)))]) T180.heap n0 z184 V185 hq187) hZ (hVV 4 _ rfl) (hVV 3 _ rfl) (by decide) (by decide)) (g := (mkF m 42 #[.val (.int p0_0), .val (.int p0_1), .val (.int (2 : Int32)), .val (.int (3 : Int32)), .val (.int MM), .val (.ref b170), .unset, .unset, .unset] [(.int MM), (.int (2 : Int32)), (.ref b170)])) rfl (by rw [hml]; rfl) (argsL := [(.ref b170), (.int (2 : Int32)), (.int MM)]) (rest := []) (lenOf pd_0 rfl) rfl (by show 2 * 0 + _ ≤ _; exact Nat.le_of_eq rfl) (hb hby at_42) (fun _ _ => ⟨rfl, rfl, (by decide : 1 + 0 ≤ _), (by decide : 2 + 0 ≤ _)⟩)
    dsimp only [Pt.U, Pt.locs, Pt.cells, Pt.slots] at X186 l186 y186 z186 st186 hQ186
    subst l186 y186 z186
    obtain ⟨rfl, N186q, e186⟩ := hQ186
    have N188 := Fr.app N182 N186q
    have pre189 : ∀ t, Steps p.tables e below (T186.setTop (mkF m 45 #[.val (.int p0_0), .val (.int p0_1), .val (.int (2 : Int32)), .val (.int (3 : Int32)), .val (.int MM), .val (.ref b170), .unset, .unset, .unset] [])) t → Steps p.tables e below (s₁.setTop (entryFrame m #[(.int p0_0), (.int p0_1)] maxLocals)) t := fun t k => pre183 t (by
      show Steps p.tables e below (T180.setTop (mkF m 37 #[.val (.int p0_0), .val (.int p0_1), .val (.int (2 : Int32)), .val (.int (3 : Int32)), .val (.int MM), .val (.ref b170), .unset, .unset, .unset] [])) _
      refine XS.aload X180.here hx rfl (hb hby at_37) rfl rfl ?_
      refine XS.iconst X180.here hx rfl (hb hby at_39) ?_
      refine XS.iload X180.here hx rfl (hb hby at_40) rfl ?_
      show Steps p.tables e below (T180.setTop (mkF m 42 #[.val (.int p0_0), .val (.int p0_1), .val (.int (2 : Int32)), .val (.int (3 : Int32)), .val (.int MM), .val (.ref b170), .unset, .unset, .unset] [(.int MM), (.int (2 : Int32)), (.ref b170)])) _
      refine st186 _ ?_
      exact k)
    have hq191 : ¬ ((3 : Int32) < (2 : Int32)) := by
      decide
    obtain ⟨_, _, ⟨T190, L190, k190, n190⟩, -, X190, ⟨Lc190, hQ190, l190, y190, z190⟩, st190⟩ := Jvm.LawKit.callS X186 hx (y := mn0) hown (mvT hZ (hVV 1 _ rfl)) (mvT hZ (hVV 2 _ rfl)) (mvT hZ (hVV 3 _ rfl)) (mvT hZ (hVV 4 _ rfl)) (by decide) (backOf (W := 0) (rm1_o l Z a0 hw [] b170 (3 : Int32) MM k170 (2 : Int32) ([(.int (own_b MM (0 : Int32))), (.int (own_b MM (1 : Int32)))]) T180.heap n0 z184 V185 hq191) hZ (hVV 4 _ rfl) (hVV 3 _ rfl) (by decide) (by decide)) (g := (mkF m 50 #[.val (.int p0_0), .val (.int p0_1), .val (.int (2 : Int32)), .val (.int (3 : Int32)), .val (.int MM), .val (.ref b170), .unset, .unset, .unset] [(.int MM), (.int (3 : Int32)), (.ref b170)])) rfl (by rw [hml]; rfl) (argsL := [(.ref b170), (.int (3 : Int32)), (.int MM)]) (rest := []) (lenOf pd_0 rfl) rfl (by show 2 * 0 + _ ≤ _; exact Nat.le_of_eq rfl) (hb hby at_50) (fun _ _ => ⟨rfl, e186, (by decide : 1 + 0 ≤ _), (by decide : 2 + 0 ≤ _)⟩)
    dsimp only [Pt.U, Pt.locs, Pt.cells, Pt.slots] at X190 l190 y190 z190 st190 hQ190
    subst l190 y190 z190
    obtain ⟨rfl, N190q, e190⟩ := hQ190
    have N192 := Fr.app N188 N190q
    have pre193 : ∀ t, Steps p.tables e below (T190.setTop (mkF m 53 #[.val (.int p0_0), .val (.int p0_1), .val (.int (2 : Int32)), .val (.int (3 : Int32)), .val (.int MM), .val (.ref b170), .unset, .unset, .unset] [])) t → Steps p.tables e below (s₁.setTop (entryFrame m #[(.int p0_0), (.int p0_1)] maxLocals)) t := fun t k => pre189 t (by
      show Steps p.tables e below (T186.setTop (mkF m 45 #[.val (.int p0_0), .val (.int p0_1), .val (.int (2 : Int32)), .val (.int (3 : Int32)), .val (.int MM), .val (.ref b170), .unset, .unset, .unset] [])) _
      refine XS.aload X186.here hx rfl (hb hby at_45) rfl rfl ?_
      refine XS.iconst X186.here hx rfl (hb hby at_47) ?_
      refine XS.iload X186.here hx rfl (hb hby at_48) rfl ?_
      show Steps p.tables e below (T186.setTop (mkF m 50 #[.val (.int p0_0), .val (.int p0_1), .val (.int (2 : Int32)), .val (.int (3 : Int32)), .val (.int MM), .val (.ref b170), .unset, .unset, .unset] [(.int MM), (.int (3 : Int32)), (.ref b170)])) _
      refine st190 _ ?_
      exact k)
    have hq195 : ¬ ((4 : Int32) < (2 : Int32)) := by
      decide
    obtain ⟨_, _, ⟨T194, L194, k194, n194⟩, -, X194, ⟨Lc194, hQ194, l194, y194, z194⟩, st194⟩ := Jvm.LawKit.callS X190 hx (y := mn0) hown (mvT hZ (hVV 1 _ rfl)) (mvT hZ (hVV 2 _ rfl)) (mvT hZ (hVV 3 _ rfl)) (mvT hZ (hVV 4 _ rfl)) (by decide) (backOf (W := 0) (rm1_o l Z a0 hw [] b170 (4 : Int32) MM k170 (2 : Int32) ([(.int (own_b MM (0 : Int32))), (.int (own_b MM (1 : Int32)))]) T180.heap n0 z184 V185 hq195) hZ (hVV 4 _ rfl) (hVV 3 _ rfl) (by decide) (by decide)) (g := (mkF m 58 #[.val (.int p0_0), .val (.int p0_1), .val (.int (2 : Int32)), .val (.int (3 : Int32)), .val (.int MM), .val (.ref b170), .unset, .unset, .unset] [(.int MM), (.int (4 : Int32)), (.ref b170)])) rfl (by rw [hml]; rfl) (argsL := [(.ref b170), (.int (4 : Int32)), (.int MM)]) (rest := []) (lenOf pd_0 rfl) rfl (by show 2 * 0 + _ ≤ _; exact Nat.le_of_eq rfl) (hb hby at_58) (fun _ _ => ⟨rfl, e190, (by decide : 1 + 0 ≤ _), (by decide : 2 + 0 ≤ _)⟩)
    dsimp only [Pt.U, Pt.locs, Pt.cells, Pt.slots] at X194 l194 y194 z194 st194 hQ194
    subst l194 y194 z194
    obtain ⟨rfl, N194q, e194⟩ := hQ194
    have N196 := Fr.app N192 N194q
    have pre197 : ∀ t, Steps p.tables e below (T194.setTop (mkF m 61 #[.val (.int p0_0), .val (.int p0_1), .val (.int (2 : Int32)), .val (.int (3 : Int32)), .val (.int MM), .val (.ref b170), .unset, .unset, .unset] [])) t → Steps p.tables e below (s₁.setTop (entryFrame m #[(.int p0_0), (.int p0_1)] maxLocals)) t := fun t k => pre193 t (by
      show Steps p.tables e below (T190.setTop (mkF m 53 #[.val (.int p0_0), .val (.int p0_1), .val (.int (2 : Int32)), .val (.int (3 : Int32)), .val (.int MM), .val (.ref b170), .unset, .unset, .unset] [])) _
      refine XS.aload X190.here hx rfl (hb hby at_53) rfl rfl ?_
      refine XS.iconst X190.here hx rfl (hb hby at_55) ?_
      refine XS.iload X190.here hx rfl (hb hby at_56) rfl ?_
      show Steps p.tables e below (T190.setTop (mkF m 58 #[.val (.int p0_0), .val (.int p0_1), .val (.int (2 : Int32)), .val (.int (3 : Int32)), .val (.int MM), .val (.ref b170), .unset, .unset, .unset] [(.int MM), (.int (4 : Int32)), (.ref b170)])) _
      refine st194 _ ?_
      exact k)
    have hq199 : ¬ ((5 : Int32) < (2 : Int32)) := by
      decide
    obtain ⟨_, _, ⟨T198, L198, k198, n198⟩, -, X198, ⟨Lc198, hQ198, l198, y198, z198⟩, st198⟩ := Jvm.LawKit.callS X194 hx (y := mn0) hown (mvT hZ (hVV 1 _ rfl)) (mvT hZ (hVV 2 _ rfl)) (mvT hZ (hVV 3 _ rfl)) (mvT hZ (hVV 4 _ rfl)) (by decide) (backOf (W := 0) (rm1_o l Z a0 hw [] b170 (5 : Int32) MM k170 (2 : Int32) ([(.int (own_b MM (0 : Int32))), (.int (own_b MM (1 : Int32)))]) T180.heap n0 z184 V185 hq199) hZ (hVV 4 _ rfl) (hVV 3 _ rfl) (by decide) (by decide)) (g := (mkF m 66 #[.val (.int p0_0), .val (.int p0_1), .val (.int (2 : Int32)), .val (.int (3 : Int32)), .val (.int MM), .val (.ref b170), .unset, .unset, .unset] [(.int MM), (.int (5 : Int32)), (.ref b170)])) rfl (by rw [hml]; rfl) (argsL := [(.ref b170), (.int (5 : Int32)), (.int MM)]) (rest := []) (lenOf pd_0 rfl) rfl (by show 2 * 0 + _ ≤ _; exact Nat.le_of_eq rfl) (hb hby at_66) (fun _ _ => ⟨rfl, e194, (by decide : 1 + 0 ≤ _), (by decide : 2 + 0 ≤ _)⟩)
    dsimp only [Pt.U, Pt.locs, Pt.cells, Pt.slots] at X198 l198 y198 z198 st198 hQ198
    subst l198 y198 z198
    obtain ⟨rfl, N198q, e198⟩ := hQ198
    have N200 := Fr.app N196 N198q
    have pre201 : ∀ t, Steps p.tables e below (T198.setTop (mkF m 69 #[.val (.int p0_0), .val (.int p0_1), .val (.int (2 : Int32)), .val (.int (3 : Int32)), .val (.int MM), .val (.ref b170), .unset, .unset, .unset] [])) t → Steps p.tables e below (s₁.setTop (entryFrame m #[(.int p0_0), (.int p0_1)] maxLocals)) t := fun t k => pre197 t (by
      show Steps p.tables e below (T194.setTop (mkF m 61 #[.val (.int p0_0), .val (.int p0_1), .val (.int (2 : Int32)), .val (.int (3 : Int32)), .val (.int MM), .val (.ref b170), .unset, .unset, .unset] [])) _
      refine XS.aload X194.here hx rfl (hb hby at_61) rfl rfl ?_
      refine XS.iconst X194.here hx rfl (hb hby at_63) ?_
      refine XS.iload X194.here hx rfl (hb hby at_64) rfl ?_
      show Steps p.tables e below (T194.setTop (mkF m 66 #[.val (.int p0_0), .val (.int p0_1), .val (.int (2 : Int32)), .val (.int (3 : Int32)), .val (.int MM), .val (.ref b170), .unset, .unset, .unset] [(.int MM), (.int (5 : Int32)), (.ref b170)])) _
      refine st198 _ ?_
      exact k)
    have hq203 : ¬ ((6 : Int32) < (2 : Int32)) := by
      decide
    obtain ⟨_, _, ⟨T202, L202, k202, n202⟩, -, X202, ⟨Lc202, hQ202, l202, y202, z202⟩, st202⟩ := Jvm.LawKit.callS X198 hx (y := mn0) hown (mvT hZ (hVV 1 _ rfl)) (mvT hZ (hVV 2 _ rfl)) (mvT hZ (hVV 3 _ rfl)) (mvT hZ (hVV 4 _ rfl)) (by decide) (backOf (W := 0) (rm1_o l Z a0 hw [] b170 (6 : Int32) MM k170 (2 : Int32) ([(.int (own_b MM (0 : Int32))), (.int (own_b MM (1 : Int32)))]) T180.heap n0 z184 V185 hq203) hZ (hVV 4 _ rfl) (hVV 3 _ rfl) (by decide) (by decide)) (g := (mkF m 75 #[.val (.int p0_0), .val (.int p0_1), .val (.int (2 : Int32)), .val (.int (3 : Int32)), .val (.int MM), .val (.ref b170), .unset, .unset, .unset] [(.int MM), (.int (6 : Int32)), (.ref b170)])) rfl (by rw [hml]; rfl) (argsL := [(.ref b170), (.int (6 : Int32)), (.int MM)]) (rest := []) (lenOf pd_0 rfl) rfl (by show 2 * 0 + _ ≤ _; exact Nat.le_of_eq rfl) (hb hby at_75) (fun _ _ => ⟨rfl, e198, (by decide : 1 + 0 ≤ _), (by decide : 2 + 0 ≤ _)⟩)
    dsimp only [Pt.U, Pt.locs, Pt.cells, Pt.slots] at X202 l202 y202 z202 st202 hQ202
    subst l202 y202 z202
    obtain ⟨rfl, N202q, e202⟩ := hQ202
    have N204 := Fr.app N200 N202q
    have pre205 : ∀ t, Steps p.tables e below (T202.setTop (mkF m 78 #[.val (.int p0_0), .val (.int p0_1), .val (.int (2 : Int32)), .val (.int (3 : Int32)), .val (.int MM), .val (.ref b170), .unset, .unset, .unset] [])) t → Steps p.tables e below (s₁.setTop (entryFrame m #[(.int p0_0), (.int p0_1)] maxLocals)) t := fun t k => pre201 t (by
      show Steps p.tables e below (T198.setTop (mkF m 69 #[.val (.int p0_0), .val (.int p0_1), .val (.int (2 : Int32)), .val (.int (3 : Int32)), .val (.int MM), .val (.ref b170), .unset, .unset, .unset] [])) _
      refine XS.aload X198.here hx rfl (hb hby at_69) rfl rfl ?_
      refine XS.bipush X198.here hx rfl (hb hby at_71) ?_
      refine XS.iload X198.here hx rfl (hb hby at_73) rfl ?_
      show Steps p.tables e below (T198.setTop (mkF m 75 #[.val (.int p0_0), .val (.int p0_1), .val (.int (2 : Int32)), .val (.int (3 : Int32)), .val (.int MM), .val (.ref b170), .unset, .unset, .unset] [(.int MM), (.int (6 : Int32)), (.ref b170)])) _
      refine st202 _ ?_
      exact k)
    obtain ⟨_, _, ⟨T206, L206, k206, n206⟩, -, X206, ⟨Lc206, hQ206, l206, y206, z206⟩, st206⟩ := Jvm.LawKit.callS X202 hx (y := mn2) hown (mvT hZ (hVV 5 _ rfl)) (mvT hZ (hVV 6 _ rfl)) (mvT hZ (hVV 7 _ rfl)) (mvT hZ (hVV 8 _ rfl)) (by decide) (backOf (W := 0) (rm2_2 l Z a0 hw [] b170 k170 (own_b MM (0 : Int32)) (own_b MM (1 : Int32)) T180.heap n0 z184 V185 gz170) hZ (hVV 8 _ rfl) (hVV 7 _ rfl) (by decide) (by decide)) (g := (mkF m 80 #[.val (.int p0_0), .val (.int p0_1), .val (.int (2 : Int32)), .val (.int (3 : Int32)), .val (.int MM), .val (.ref b170), .unset, .unset, .unset] [(.ref b170)])) rfl (by rw [hml]; rfl) (argsL := [(.ref b170)]) (rest := []) (lenOf pd_1 rfl) rfl (by show 2 * 0 + _ ≤ _; exact Nat.le_of_eq rfl) (hb hby at_80) (fun _ _ => ⟨rfl, e202, (by decide : 1 + 0 ≤ _), (by decide : 2 + 0 ≤ _)⟩)
    dsimp only [Pt.U, Pt.locs, Pt.cells, Pt.slots] at X206 l206 y206 z206 st206 hQ206
    subst l206 y206 z206
    obtain ⟨rfl, N206q, K206, r206_0⟩ := hQ206
    have N207 := Fr.app N204 N206q
    have pre208 : ∀ t, Steps p.tables e below (T206.setTop (mkF m 83 #[.val (.int p0_0), .val (.int p0_1), .val (.int (2 : Int32)), .val (.int (3 : Int32)), .val (.int MM), .val (.ref b170), .unset, .unset, .unset] [(.int (bI (((own_b MM (0 : Int32)) = (0 : Int32)) ∨ ((own_b MM (1 : Int32)) = (0 : Int32)))))])) t → Steps p.tables e below (s₁.setTop (entryFrame m #[(.int p0_0), (.int p0_1)] maxLocals)) t := fun t k => pre205 t (by
      show Steps p.tables e below (T202.setTop (mkF m 78 #[.val (.int p0_0), .val (.int p0_1), .val (.int (2 : Int32)), .val (.int (3 : Int32)), .val (.int MM), .val (.ref b170), .unset, .unset, .unset] [])) _
      refine XS.aload X202.here hx rfl (hb hby at_78) rfl rfl ?_
      show Steps p.tables e below (T202.setTop (mkF m 80 #[.val (.int p0_0), .val (.int p0_1), .val (.int (2 : Int32)), .val (.int (3 : Int32)), .val (.int MM), .val (.ref b170), .unset, .unset, .unset] [(.ref b170)])) _
      refine st206 _ ?_
      exact k)
    have z209 := Nat.le_trans z184 K206.1
    have pre210 : ∀ t, Steps p.tables e below (T206.setTop (mkF m 85 #[.val (.int p0_0), .val (.int p0_1), .val (.int (2 : Int32)), .val (.int (3 : Int32)), .val (.int MM), .val (.ref b170), .val (.int (bI (((own_b MM (0 : Int32)) = (0 : Int32)) ∨ ((own_b MM (1 : Int32)) = (0 : Int32))))), .unset, .unset] [])) t → Steps p.tables e below (s₁.setTop (entryFrame m #[(.int p0_0), (.int p0_1)] maxLocals)) t := fun t k => pre208 t (by
      show Steps p.tables e below (T206.setTop (mkF m 83 #[.val (.int p0_0), .val (.int p0_1), .val (.int (2 : Int32)), .val (.int (3 : Int32)), .val (.int MM), .val (.ref b170), .unset, .unset, .unset] [(.int (bI (((own_b MM (0 : Int32)) = (0 : Int32)) ∨ ((own_b MM (1 : Int32)) = (0 : Int32)))))])) _
      refine XS.istore X206.here hx rfl (hb hby at_83) rfl (l' := #[.val (.int p0_0), .val (.int p0_1), .val (.int (2 : Int32)), .val (.int (3 : Int32)), .val (.int MM), .val (.ref b170), .val (.int (bI (((own_b MM (0 : Int32)) = (0 : Int32)) ∨ ((own_b MM (1 : Int32)) = (0 : Int32))))), .unset, .unset]) rfl ?_
      exact k)
    obtain ⟨RR, hRR⟩ : ∃ z : Int32, z = (bI (((own_b MM (0 : Int32)) = (0 : Int32)) ∨ ((own_b MM (1 : Int32)) = (0 : Int32)))) := ⟨_, rfl⟩
    have pre211 : ∀ t, Steps p.tables e below (T206.setTop (mkF m 85 #[.val (.int p0_0), .val (.int p0_1), .val (.int (2 : Int32)), .val (.int (3 : Int32)), .val (.int MM), .val (.ref b170), .val (.int RR), .unset, .unset] [])) t → Steps p.tables e below (s₁.setTop (entryFrame m #[(.int p0_0), (.int p0_1)] maxLocals)) t := fun t k => pre210 t (castTop (by rw [hRR]) k)
    obtain ⟨G0, hG0⟩ : ∃ z : Int32, z = (bI ((own_b MM (0 : Int32)) = (0 : Int32))) := ⟨_, rfl⟩
    obtain ⟨G1, hG1⟩ : ∃ z : Int32, z = (if (own_b MM (0 : Int32)) = (0 : Int32) then (own_b MM (1 : Int32)) else (bI ((own_b MM (1 : Int32)) = (0 : Int32)))) := ⟨_, rfl⟩
    have V212 : Arv Z T206.heap b170 k170 .boolean (2 : Int32) [(.int G0), (.int G1)] (.int (0 : Int32)) := by rw [hG0, hG1]; exact r206_0
    have hq214 : (0 : Int32) < (2 : Int32) := by
      decide
    obtain ⟨_, _, ⟨T213, L213, k213, n213⟩, -, X213, ⟨Lc213, hQ213, l213, y213, z213⟩, st213⟩ := Jvm.LawKit.callS X206 hx (y := mn1) hown (mvT hZ (hVV 9 _ rfl)) (mvT hZ (hVV 10 _ rfl)) (mvT hZ (hVV 3 _ rfl)) (mvT hZ (hVV 11 _ rfl)) (by decide) (backOf (W := 0) (rm3_i l Z a0 hw [] b170 (0 : Int32) k170 (2 : Int32) ([(.int G0), (.int G1)]) G0 T206.heap n0 z209 V212 (by decide) (by rfl) hq214) hZ (hVV 11 _ rfl) (hVV 3 _ rfl) (by decide) (by decide)) (g := (mkF m 96 #[.val (.int p0_0), .val (.int p0_1), .val (.int (2 : Int32)), .val (.int (3 : Int32)), .val (.int MM), .val (.ref b170), .val (.int RR), .val (.int ((MM + (1 : Int32)) &&& (3 : Int32))), .unset] [(.int (0 : Int32)), (.ref b170)])) rfl (by rw [hml]; rfl) (argsL := [(.ref b170), (.int (0 : Int32))]) (rest := []) (lenOf pd_2 rfl) rfl (by show 2 * 0 + _ ≤ _; exact Nat.le_of_eq rfl) (hb hby at_96) (fun _ _ => ⟨rfl, rfl, (by decide : 1 + 0 ≤ _), (by decide : 2 + 0 ≤ _)⟩)
    dsimp only [Pt.U, Pt.locs, Pt.cells, Pt.slots] at X213 l213 y213 z213 st213 hQ213
    subst l213 y213 z213
    obtain ⟨rfl, N213q, e213⟩ := hQ213
    have N215 := Fr.app N207 N213q
    have pre216 : ∀ t, Steps p.tables e below (T213.setTop (mkF m 99 #[.val (.int p0_0), .val (.int p0_1), .val (.int (2 : Int32)), .val (.int (3 : Int32)), .val (.int MM), .val (.ref b170), .val (.int RR), .val (.int ((MM + (1 : Int32)) &&& (3 : Int32))), .unset] [(.int (if G0 = (0 : Int32) then (0 : Int32) else ((1 : Int32) <<< ((0 : Int32) &&& 31))))])) t → Steps p.tables e below (s₁.setTop (entryFrame m #[(.int p0_0), (.int p0_1)] maxLocals)) t := fun t k => pre211 t (by
      show Steps p.tables e below (T206.setTop (mkF m 85 #[.val (.int p0_0), .val (.int p0_1), .val (.int (2 : Int32)), .val (.int (3 : Int32)), .val (.int MM), .val (.ref b170), .val (.int RR), .unset, .unset] [])) _
      refine XS.iload X206.here hx rfl (hb hby at_85) rfl ?_
      refine XS.iconst X206.here hx rfl (hb hby at_87) ?_
      refine XS.iadd X206.here hx rfl (hb hby at_88) rfl ?_
      refine XS.iloadN X206.here hx rfl (hb hby at_89) rfl ?_
      refine XS.iand X206.here hx rfl (hb hby at_90) rfl ?_
      show Steps p.tables e below (T206.setTop (mkF m 91 #[.val (.int p0_0), .val (.int p0_1), .val (.int (2 : Int32)), .val (.int (3 : Int32)), .val (.int MM), .val (.ref b170), .val (.int RR), .unset, .unset] [(.int ((MM + (1 : Int32)) &&& (3 : Int32)))])) _
      refine XS.istore X206.here hx rfl (hb hby at_91) rfl (l' := #[.val (.int p0_0), .val (.int p0_1), .val (.int (2 : Int32)), .val (.int (3 : Int32)), .val (.int MM), .val (.ref b170), .val (.int RR), .val (.int ((MM + (1 : Int32)) &&& (3 : Int32))), .unset]) rfl ?_
      show Steps p.tables e below (T206.setTop (mkF m 93 #[.val (.int p0_0), .val (.int p0_1), .val (.int (2 : Int32)), .val (.int (3 : Int32)), .val (.int MM), .val (.ref b170), .val (.int RR), .val (.int ((MM + (1 : Int32)) &&& (3 : Int32))), .unset] [])) _
      refine XS.aload X206.here hx rfl (hb hby at_93) rfl rfl ?_
      refine XS.iconst X206.here hx rfl (hb hby at_95) ?_
      show Steps p.tables e below (T206.setTop (mkF m 96 #[.val (.int p0_0), .val (.int p0_1), .val (.int (2 : Int32)), .val (.int (3 : Int32)), .val (.int MM), .val (.ref b170), .val (.int RR), .val (.int ((MM + (1 : Int32)) &&& (3 : Int32))), .unset] [(.int (0 : Int32)), (.ref b170)])) _
      refine st213 _ ?_
      exact k)
    have hq218 : (1 : Int32) < (2 : Int32) := by
      decide
    obtain ⟨_, _, ⟨T217, L217, k217, n217⟩, -, X217, ⟨Lc217, hQ217, l217, y217, z217⟩, st217⟩ := Jvm.LawKit.callS X213 hx (y := mn1) hown (mvT hZ (hVV 9 _ rfl)) (mvT hZ (hVV 10 _ rfl)) (mvT hZ (hVV 3 _ rfl)) (mvT hZ (hVV 11 _ rfl)) (by decide) (backOf (W := 1) (rm3_i l Z a0 hw [] b170 (1 : Int32) k170 (2 : Int32) ([(.int G0), (.int G1)]) G1 T206.heap n0 z209 V212 (by decide) (by rfl) hq218) hZ (hVV 11 _ rfl) (hVV 3 _ rfl) (by decide) (by decide)) (g := (mkF m 102 #[.val (.int p0_0), .val (.int p0_1), .val (.int (2 : Int32)), .val (.int (3 : Int32)), .val (.int MM), .val (.ref b170), .val (.int RR), .val (.int ((MM + (1 : Int32)) &&& (3 : Int32))), .unset] [(.int (1 : Int32)), (.ref b170), (.int (if G0 = (0 : Int32) then (0 : Int32) else ((1 : Int32) <<< ((0 : Int32) &&& 31))))])) rfl (by rw [hml]; rfl) (argsL := [(.ref b170), (.int (1 : Int32))]) (rest := [(.int (if G0 = (0 : Int32) then (0 : Int32) else ((1 : Int32) <<< ((0 : Int32) &&& 31))))]) (lenOf pd_2 rfl) rfl (by show 2 * 0 + _ ≤ _; exact Nat.le_of_eq rfl) (hb hby at_102) (fun _ _ => ⟨rfl, e213, (by decide : 1 + 0 ≤ _), (by decide : 2 + 0 ≤ _)⟩)
    dsimp only [Pt.U, Pt.locs, Pt.cells, Pt.slots] at X217 l217 y217 z217 st217 hQ217
    subst l217 y217 z217
    obtain ⟨rfl, N217q, e217⟩ := hQ217
    have N219 := Fr.app N215 N217q
    have pre220 : ∀ t, Steps p.tables e below (T217.setTop (mkF m 105 #[.val (.int p0_0), .val (.int p0_1), .val (.int (2 : Int32)), .val (.int (3 : Int32)), .val (.int MM), .val (.ref b170), .val (.int RR), .val (.int ((MM + (1 : Int32)) &&& (3 : Int32))), .unset] [(.int (if G1 = (0 : Int32) then (0 : Int32) else ((1 : Int32) <<< ((1 : Int32) &&& 31)))), (.int (if G0 = (0 : Int32) then (0 : Int32) else ((1 : Int32) <<< ((0 : Int32) &&& 31))))])) t → Steps p.tables e below (s₁.setTop (entryFrame m #[(.int p0_0), (.int p0_1)] maxLocals)) t := fun t k => pre216 t (by
      show Steps p.tables e below (T213.setTop (mkF m 99 #[.val (.int p0_0), .val (.int p0_1), .val (.int (2 : Int32)), .val (.int (3 : Int32)), .val (.int MM), .val (.ref b170), .val (.int RR), .val (.int ((MM + (1 : Int32)) &&& (3 : Int32))), .unset] [(.int (if G0 = (0 : Int32) then (0 : Int32) else ((1 : Int32) <<< ((0 : Int32) &&& 31))))])) _
      refine XS.aload X213.here hx rfl (hb hby at_99) rfl rfl ?_
      refine XS.iconst X213.here hx rfl (hb hby at_101) ?_
      show Steps p.tables e below (T213.setTop (mkF m 102 #[.val (.int p0_0), .val (.int p0_1), .val (.int (2 : Int32)), .val (.int (3 : Int32)), .val (.int MM), .val (.ref b170), .val (.int RR), .val (.int ((MM + (1 : Int32)) &&& (3 : Int32))), .unset] [(.int (1 : Int32)), (.ref b170), (.int (if G0 = (0 : Int32) then (0 : Int32) else ((1 : Int32) <<< ((0 : Int32) &&& 31))))])) _
      refine st217 _ ?_
      exact k)
    have hq222 : ¬ ((2 : Int32) < (2 : Int32)) := by
      decide
    obtain ⟨_, _, ⟨T221, L221, k221, n221⟩, -, X221, ⟨Lc221, hQ221, l221, y221, z221⟩, st221⟩ := Jvm.LawKit.callS X217 hx (y := mn1) hown (mvT hZ (hVV 9 _ rfl)) (mvT hZ (hVV 10 _ rfl)) (mvT hZ (hVV 3 _ rfl)) (mvT hZ (hVV 11 _ rfl)) (by decide) (backOf (W := 1) (rm3_o l Z a0 hw [] b170 (2 : Int32) k170 (2 : Int32) ([(.int G0), (.int G1)]) T206.heap n0 z209 V212 hq222) hZ (hVV 11 _ rfl) (hVV 3 _ rfl) (by decide) (by decide)) (g := (mkF m 109 #[.val (.int p0_0), .val (.int p0_1), .val (.int (2 : Int32)), .val (.int (3 : Int32)), .val (.int MM), .val (.ref b170), .val (.int RR), .val (.int ((MM + (1 : Int32)) &&& (3 : Int32))), .unset] [(.int (2 : Int32)), (.ref b170), (.int ((if G0 = (0 : Int32) then (0 : Int32) else ((1 : Int32) <<< ((0 : Int32) &&& 31))) ||| (if G1 = (0 : Int32) then (0 : Int32) else ((1 : Int32) <<< ((1 : Int32) &&& 31)))))])) rfl (by rw [hml]; rfl) (argsL := [(.ref b170), (.int (2 : Int32))]) (rest := [(.int ((if G0 = (0 : Int32) then (0 : Int32) else ((1 : Int32) <<< ((0 : Int32) &&& 31))) ||| (if G1 = (0 : Int32) then (0 : Int32) else ((1 : Int32) <<< ((1 : Int32) &&& 31)))))]) (lenOf pd_2 rfl) rfl (by show 2 * 0 + _ ≤ _; exact Nat.le_of_eq rfl) (hb hby at_109) (fun _ _ => ⟨rfl, e217, (by decide : 1 + 0 ≤ _), (by decide : 2 + 0 ≤ _)⟩)
    dsimp only [Pt.U, Pt.locs, Pt.cells, Pt.slots] at X221 l221 y221 z221 st221 hQ221
    subst l221 y221 z221
    obtain ⟨rfl, N221q, e221⟩ := hQ221
    have N223 := Fr.app N219 N221q
    have pre224 : ∀ t, Steps p.tables e below (T221.setTop (mkF m 112 #[.val (.int p0_0), .val (.int p0_1), .val (.int (2 : Int32)), .val (.int (3 : Int32)), .val (.int MM), .val (.ref b170), .val (.int RR), .val (.int ((MM + (1 : Int32)) &&& (3 : Int32))), .unset] [(.int (0 : Int32)), (.int ((if G0 = (0 : Int32) then (0 : Int32) else ((1 : Int32) <<< ((0 : Int32) &&& 31))) ||| (if G1 = (0 : Int32) then (0 : Int32) else ((1 : Int32) <<< ((1 : Int32) &&& 31)))))])) t → Steps p.tables e below (s₁.setTop (entryFrame m #[(.int p0_0), (.int p0_1)] maxLocals)) t := fun t k => pre220 t (by
      show Steps p.tables e below (T217.setTop (mkF m 105 #[.val (.int p0_0), .val (.int p0_1), .val (.int (2 : Int32)), .val (.int (3 : Int32)), .val (.int MM), .val (.ref b170), .val (.int RR), .val (.int ((MM + (1 : Int32)) &&& (3 : Int32))), .unset] [(.int (if G1 = (0 : Int32) then (0 : Int32) else ((1 : Int32) <<< ((1 : Int32) &&& 31)))), (.int (if G0 = (0 : Int32) then (0 : Int32) else ((1 : Int32) <<< ((0 : Int32) &&& 31))))])) _
      refine XS.ior X217.here hx rfl (hb hby at_105) rfl ?_
      refine XS.aload X217.here hx rfl (hb hby at_106) rfl rfl ?_
      refine XS.iconst X217.here hx rfl (hb hby at_108) ?_
      show Steps p.tables e below (T217.setTop (mkF m 109 #[.val (.int p0_0), .val (.int p0_1), .val (.int (2 : Int32)), .val (.int (3 : Int32)), .val (.int MM), .val (.ref b170), .val (.int RR), .val (.int ((MM + (1 : Int32)) &&& (3 : Int32))), .unset] [(.int (2 : Int32)), (.ref b170), (.int ((if G0 = (0 : Int32) then (0 : Int32) else ((1 : Int32) <<< ((0 : Int32) &&& 31))) ||| (if G1 = (0 : Int32) then (0 : Int32) else ((1 : Int32) <<< ((1 : Int32) &&& 31)))))])) _
      refine st221 _ ?_
      exact k)
    have hq226 : ¬ ((3 : Int32) < (2 : Int32)) := by
      decide
    obtain ⟨_, _, ⟨T225, L225, k225, n225⟩, -, X225, ⟨Lc225, hQ225, l225, y225, z225⟩, st225⟩ := Jvm.LawKit.callS X221 hx (y := mn1) hown (mvT hZ (hVV 9 _ rfl)) (mvT hZ (hVV 10 _ rfl)) (mvT hZ (hVV 3 _ rfl)) (mvT hZ (hVV 11 _ rfl)) (by decide) (backOf (W := 1) (rm3_o l Z a0 hw [] b170 (3 : Int32) k170 (2 : Int32) ([(.int G0), (.int G1)]) T206.heap n0 z209 V212 hq226) hZ (hVV 11 _ rfl) (hVV 3 _ rfl) (by decide) (by decide)) (g := (mkF m 116 #[.val (.int p0_0), .val (.int p0_1), .val (.int (2 : Int32)), .val (.int (3 : Int32)), .val (.int MM), .val (.ref b170), .val (.int RR), .val (.int ((MM + (1 : Int32)) &&& (3 : Int32))), .unset] [(.int (3 : Int32)), (.ref b170), (.int (((if G0 = (0 : Int32) then (0 : Int32) else ((1 : Int32) <<< ((0 : Int32) &&& 31))) ||| (if G1 = (0 : Int32) then (0 : Int32) else ((1 : Int32) <<< ((1 : Int32) &&& 31)))) ||| (0 : Int32)))])) rfl (by rw [hml]; rfl) (argsL := [(.ref b170), (.int (3 : Int32))]) (rest := [(.int (((if G0 = (0 : Int32) then (0 : Int32) else ((1 : Int32) <<< ((0 : Int32) &&& 31))) ||| (if G1 = (0 : Int32) then (0 : Int32) else ((1 : Int32) <<< ((1 : Int32) &&& 31)))) ||| (0 : Int32)))]) (lenOf pd_2 rfl) rfl (by show 2 * 0 + _ ≤ _; exact Nat.le_of_eq rfl) (hb hby at_116) (fun _ _ => ⟨rfl, e221, (by decide : 1 + 0 ≤ _), (by decide : 2 + 0 ≤ _)⟩)
    dsimp only [Pt.U, Pt.locs, Pt.cells, Pt.slots] at X225 l225 y225 z225 st225 hQ225
    subst l225 y225 z225
    obtain ⟨rfl, N225q, e225⟩ := hQ225
    have N227 := Fr.app N223 N225q
    have pre228 : ∀ t, Steps p.tables e below (T225.setTop (mkF m 119 #[.val (.int p0_0), .val (.int p0_1), .val (.int (2 : Int32)), .val (.int (3 : Int32)), .val (.int MM), .val (.ref b170), .val (.int RR), .val (.int ((MM + (1 : Int32)) &&& (3 : Int32))), .unset] [(.int (0 : Int32)), (.int (((if G0 = (0 : Int32) then (0 : Int32) else ((1 : Int32) <<< ((0 : Int32) &&& 31))) ||| (if G1 = (0 : Int32) then (0 : Int32) else ((1 : Int32) <<< ((1 : Int32) &&& 31)))) ||| (0 : Int32)))])) t → Steps p.tables e below (s₁.setTop (entryFrame m #[(.int p0_0), (.int p0_1)] maxLocals)) t := fun t k => pre224 t (by
      show Steps p.tables e below (T221.setTop (mkF m 112 #[.val (.int p0_0), .val (.int p0_1), .val (.int (2 : Int32)), .val (.int (3 : Int32)), .val (.int MM), .val (.ref b170), .val (.int RR), .val (.int ((MM + (1 : Int32)) &&& (3 : Int32))), .unset] [(.int (0 : Int32)), (.int ((if G0 = (0 : Int32) then (0 : Int32) else ((1 : Int32) <<< ((0 : Int32) &&& 31))) ||| (if G1 = (0 : Int32) then (0 : Int32) else ((1 : Int32) <<< ((1 : Int32) &&& 31)))))])) _
      refine XS.ior X221.here hx rfl (hb hby at_112) rfl ?_
      refine XS.aload X221.here hx rfl (hb hby at_113) rfl rfl ?_
      refine XS.iconst X221.here hx rfl (hb hby at_115) ?_
      show Steps p.tables e below (T221.setTop (mkF m 116 #[.val (.int p0_0), .val (.int p0_1), .val (.int (2 : Int32)), .val (.int (3 : Int32)), .val (.int MM), .val (.ref b170), .val (.int RR), .val (.int ((MM + (1 : Int32)) &&& (3 : Int32))), .unset] [(.int (3 : Int32)), (.ref b170), (.int (((if G0 = (0 : Int32) then (0 : Int32) else ((1 : Int32) <<< ((0 : Int32) &&& 31))) ||| (if G1 = (0 : Int32) then (0 : Int32) else ((1 : Int32) <<< ((1 : Int32) &&& 31)))) ||| (0 : Int32)))])) _
      refine st225 _ ?_
      exact k)
    have hq230 : ¬ ((4 : Int32) < (2 : Int32)) := by
      decide
    obtain ⟨_, _, ⟨T229, L229, k229, n229⟩, -, X229, ⟨Lc229, hQ229, l229, y229, z229⟩, st229⟩ := Jvm.LawKit.callS X225 hx (y := mn1) hown (mvT hZ (hVV 9 _ rfl)) (mvT hZ (hVV 10 _ rfl)) (mvT hZ (hVV 3 _ rfl)) (mvT hZ (hVV 11 _ rfl)) (by decide) (backOf (W := 1) (rm3_o l Z a0 hw [] b170 (4 : Int32) k170 (2 : Int32) ([(.int G0), (.int G1)]) T206.heap n0 z209 V212 hq230) hZ (hVV 11 _ rfl) (hVV 3 _ rfl) (by decide) (by decide)) (g := (mkF m 123 #[.val (.int p0_0), .val (.int p0_1), .val (.int (2 : Int32)), .val (.int (3 : Int32)), .val (.int MM), .val (.ref b170), .val (.int RR), .val (.int ((MM + (1 : Int32)) &&& (3 : Int32))), .unset] [(.int (4 : Int32)), (.ref b170), (.int ((((if G0 = (0 : Int32) then (0 : Int32) else ((1 : Int32) <<< ((0 : Int32) &&& 31))) ||| (if G1 = (0 : Int32) then (0 : Int32) else ((1 : Int32) <<< ((1 : Int32) &&& 31)))) ||| (0 : Int32)) ||| (0 : Int32)))])) rfl (by rw [hml]; rfl) (argsL := [(.ref b170), (.int (4 : Int32))]) (rest := [(.int ((((if G0 = (0 : Int32) then (0 : Int32) else ((1 : Int32) <<< ((0 : Int32) &&& 31))) ||| (if G1 = (0 : Int32) then (0 : Int32) else ((1 : Int32) <<< ((1 : Int32) &&& 31)))) ||| (0 : Int32)) ||| (0 : Int32)))]) (lenOf pd_2 rfl) rfl (by show 2 * 0 + _ ≤ _; exact Nat.le_of_eq rfl) (hb hby at_123) (fun _ _ => ⟨rfl, e225, (by decide : 1 + 0 ≤ _), (by decide : 2 + 0 ≤ _)⟩)
    dsimp only [Pt.U, Pt.locs, Pt.cells, Pt.slots] at X229 l229 y229 z229 st229 hQ229
    subst l229 y229 z229
    obtain ⟨rfl, N229q, e229⟩ := hQ229
    have N231 := Fr.app N227 N229q
    have pre232 : ∀ t, Steps p.tables e below (T229.setTop (mkF m 126 #[.val (.int p0_0), .val (.int p0_1), .val (.int (2 : Int32)), .val (.int (3 : Int32)), .val (.int MM), .val (.ref b170), .val (.int RR), .val (.int ((MM + (1 : Int32)) &&& (3 : Int32))), .unset] [(.int (0 : Int32)), (.int ((((if G0 = (0 : Int32) then (0 : Int32) else ((1 : Int32) <<< ((0 : Int32) &&& 31))) ||| (if G1 = (0 : Int32) then (0 : Int32) else ((1 : Int32) <<< ((1 : Int32) &&& 31)))) ||| (0 : Int32)) ||| (0 : Int32)))])) t → Steps p.tables e below (s₁.setTop (entryFrame m #[(.int p0_0), (.int p0_1)] maxLocals)) t := fun t k => pre228 t (by
      show Steps p.tables e below (T225.setTop (mkF m 119 #[.val (.int p0_0), .val (.int p0_1), .val (.int (2 : Int32)), .val (.int (3 : Int32)), .val (.int MM), .val (.ref b170), .val (.int RR), .val (.int ((MM + (1 : Int32)) &&& (3 : Int32))), .unset] [(.int (0 : Int32)), (.int (((if G0 = (0 : Int32) then (0 : Int32) else ((1 : Int32) <<< ((0 : Int32) &&& 31))) ||| (if G1 = (0 : Int32) then (0 : Int32) else ((1 : Int32) <<< ((1 : Int32) &&& 31)))) ||| (0 : Int32)))])) _
      refine XS.ior X225.here hx rfl (hb hby at_119) rfl ?_
      refine XS.aload X225.here hx rfl (hb hby at_120) rfl rfl ?_
      refine XS.iconst X225.here hx rfl (hb hby at_122) ?_
      show Steps p.tables e below (T225.setTop (mkF m 123 #[.val (.int p0_0), .val (.int p0_1), .val (.int (2 : Int32)), .val (.int (3 : Int32)), .val (.int MM), .val (.ref b170), .val (.int RR), .val (.int ((MM + (1 : Int32)) &&& (3 : Int32))), .unset] [(.int (4 : Int32)), (.ref b170), (.int ((((if G0 = (0 : Int32) then (0 : Int32) else ((1 : Int32) <<< ((0 : Int32) &&& 31))) ||| (if G1 = (0 : Int32) then (0 : Int32) else ((1 : Int32) <<< ((1 : Int32) &&& 31)))) ||| (0 : Int32)) ||| (0 : Int32)))])) _
      refine st229 _ ?_
      exact k)
    have hq234 : ¬ ((5 : Int32) < (2 : Int32)) := by
      decide
    obtain ⟨_, _, ⟨T233, L233, k233, n233⟩, -, X233, ⟨Lc233, hQ233, l233, y233, z233⟩, st233⟩ := Jvm.LawKit.callS X229 hx (y := mn1) hown (mvT hZ (hVV 9 _ rfl)) (mvT hZ (hVV 10 _ rfl)) (mvT hZ (hVV 3 _ rfl)) (mvT hZ (hVV 11 _ rfl)) (by decide) (backOf (W := 1) (rm3_o l Z a0 hw [] b170 (5 : Int32) k170 (2 : Int32) ([(.int G0), (.int G1)]) T206.heap n0 z209 V212 hq234) hZ (hVV 11 _ rfl) (hVV 3 _ rfl) (by decide) (by decide)) (g := (mkF m 130 #[.val (.int p0_0), .val (.int p0_1), .val (.int (2 : Int32)), .val (.int (3 : Int32)), .val (.int MM), .val (.ref b170), .val (.int RR), .val (.int ((MM + (1 : Int32)) &&& (3 : Int32))), .unset] [(.int (5 : Int32)), (.ref b170), (.int (((((if G0 = (0 : Int32) then (0 : Int32) else ((1 : Int32) <<< ((0 : Int32) &&& 31))) ||| (if G1 = (0 : Int32) then (0 : Int32) else ((1 : Int32) <<< ((1 : Int32) &&& 31)))) ||| (0 : Int32)) ||| (0 : Int32)) ||| (0 : Int32)))])) rfl (by rw [hml]; rfl) (argsL := [(.ref b170), (.int (5 : Int32))]) (rest := [(.int (((((if G0 = (0 : Int32) then (0 : Int32) else ((1 : Int32) <<< ((0 : Int32) &&& 31))) ||| (if G1 = (0 : Int32) then (0 : Int32) else ((1 : Int32) <<< ((1 : Int32) &&& 31)))) ||| (0 : Int32)) ||| (0 : Int32)) ||| (0 : Int32)))]) (lenOf pd_2 rfl) rfl (by show 2 * 0 + _ ≤ _; exact Nat.le_of_eq rfl) (hb hby at_130) (fun _ _ => ⟨rfl, e229, (by decide : 1 + 0 ≤ _), (by decide : 2 + 0 ≤ _)⟩)
    dsimp only [Pt.U, Pt.locs, Pt.cells, Pt.slots] at X233 l233 y233 z233 st233 hQ233
    subst l233 y233 z233
    obtain ⟨rfl, N233q, e233⟩ := hQ233
    have N235 := Fr.app N231 N233q
    have pre236 : ∀ t, Steps p.tables e below (T233.setTop (mkF m 133 #[.val (.int p0_0), .val (.int p0_1), .val (.int (2 : Int32)), .val (.int (3 : Int32)), .val (.int MM), .val (.ref b170), .val (.int RR), .val (.int ((MM + (1 : Int32)) &&& (3 : Int32))), .unset] [(.int (0 : Int32)), (.int (((((if G0 = (0 : Int32) then (0 : Int32) else ((1 : Int32) <<< ((0 : Int32) &&& 31))) ||| (if G1 = (0 : Int32) then (0 : Int32) else ((1 : Int32) <<< ((1 : Int32) &&& 31)))) ||| (0 : Int32)) ||| (0 : Int32)) ||| (0 : Int32)))])) t → Steps p.tables e below (s₁.setTop (entryFrame m #[(.int p0_0), (.int p0_1)] maxLocals)) t := fun t k => pre232 t (by
      show Steps p.tables e below (T229.setTop (mkF m 126 #[.val (.int p0_0), .val (.int p0_1), .val (.int (2 : Int32)), .val (.int (3 : Int32)), .val (.int MM), .val (.ref b170), .val (.int RR), .val (.int ((MM + (1 : Int32)) &&& (3 : Int32))), .unset] [(.int (0 : Int32)), (.int ((((if G0 = (0 : Int32) then (0 : Int32) else ((1 : Int32) <<< ((0 : Int32) &&& 31))) ||| (if G1 = (0 : Int32) then (0 : Int32) else ((1 : Int32) <<< ((1 : Int32) &&& 31)))) ||| (0 : Int32)) ||| (0 : Int32)))])) _
      refine XS.ior X229.here hx rfl (hb hby at_126) rfl ?_
      refine XS.aload X229.here hx rfl (hb hby at_127) rfl rfl ?_
      refine XS.iconst X229.here hx rfl (hb hby at_129) ?_
      show Steps p.tables e below (T229.setTop (mkF m 130 #[.val (.int p0_0), .val (.int p0_1), .val (.int (2 : Int32)), .val (.int (3 : Int32)), .val (.int MM), .val (.ref b170), .val (.int RR), .val (.int ((MM + (1 : Int32)) &&& (3 : Int32))), .unset] [(.int (5 : Int32)), (.ref b170), (.int (((((if G0 = (0 : Int32) then (0 : Int32) else ((1 : Int32) <<< ((0 : Int32) &&& 31))) ||| (if G1 = (0 : Int32) then (0 : Int32) else ((1 : Int32) <<< ((1 : Int32) &&& 31)))) ||| (0 : Int32)) ||| (0 : Int32)) ||| (0 : Int32)))])) _
      refine st233 _ ?_
      exact k)
    have hq238 : ¬ ((6 : Int32) < (2 : Int32)) := by
      decide
    obtain ⟨_, _, ⟨T237, L237, k237, n237⟩, -, X237, ⟨Lc237, hQ237, l237, y237, z237⟩, st237⟩ := Jvm.LawKit.callS X233 hx (y := mn1) hown (mvT hZ (hVV 9 _ rfl)) (mvT hZ (hVV 10 _ rfl)) (mvT hZ (hVV 3 _ rfl)) (mvT hZ (hVV 11 _ rfl)) (by decide) (backOf (W := 1) (rm3_o l Z a0 hw [] b170 (6 : Int32) k170 (2 : Int32) ([(.int G0), (.int G1)]) T206.heap n0 z209 V212 hq238) hZ (hVV 11 _ rfl) (hVV 3 _ rfl) (by decide) (by decide)) (g := (mkF m 138 #[.val (.int p0_0), .val (.int p0_1), .val (.int (2 : Int32)), .val (.int (3 : Int32)), .val (.int MM), .val (.ref b170), .val (.int RR), .val (.int ((MM + (1 : Int32)) &&& (3 : Int32))), .unset] [(.int (6 : Int32)), (.ref b170), (.int ((((((if G0 = (0 : Int32) then (0 : Int32) else ((1 : Int32) <<< ((0 : Int32) &&& 31))) ||| (if G1 = (0 : Int32) then (0 : Int32) else ((1 : Int32) <<< ((1 : Int32) &&& 31)))) ||| (0 : Int32)) ||| (0 : Int32)) ||| (0 : Int32)) ||| (0 : Int32)))])) rfl (by rw [hml]; rfl) (argsL := [(.ref b170), (.int (6 : Int32))]) (rest := [(.int ((((((if G0 = (0 : Int32) then (0 : Int32) else ((1 : Int32) <<< ((0 : Int32) &&& 31))) ||| (if G1 = (0 : Int32) then (0 : Int32) else ((1 : Int32) <<< ((1 : Int32) &&& 31)))) ||| (0 : Int32)) ||| (0 : Int32)) ||| (0 : Int32)) ||| (0 : Int32)))]) (lenOf pd_2 rfl) rfl (by show 2 * 0 + _ ≤ _; exact Nat.le_of_eq rfl) (hb hby at_138) (fun _ _ => ⟨rfl, e233, (by decide : 1 + 0 ≤ _), (by decide : 2 + 0 ≤ _)⟩)
    dsimp only [Pt.U, Pt.locs, Pt.cells, Pt.slots] at X237 l237 y237 z237 st237 hQ237
    subst l237 y237 z237
    obtain ⟨rfl, N237q, e237⟩ := hQ237
    have N239 := Fr.app N235 N237q
    have pre240 : ∀ t, Steps p.tables e below (T237.setTop (mkF m 141 #[.val (.int p0_0), .val (.int p0_1), .val (.int (2 : Int32)), .val (.int (3 : Int32)), .val (.int MM), .val (.ref b170), .val (.int RR), .val (.int ((MM + (1 : Int32)) &&& (3 : Int32))), .unset] [(.int (0 : Int32)), (.int ((((((if G0 = (0 : Int32) then (0 : Int32) else ((1 : Int32) <<< ((0 : Int32) &&& 31))) ||| (if G1 = (0 : Int32) then (0 : Int32) else ((1 : Int32) <<< ((1 : Int32) &&& 31)))) ||| (0 : Int32)) ||| (0 : Int32)) ||| (0 : Int32)) ||| (0 : Int32)))])) t → Steps p.tables e below (s₁.setTop (entryFrame m #[(.int p0_0), (.int p0_1)] maxLocals)) t := fun t k => pre236 t (by
      show Steps p.tables e below (T233.setTop (mkF m 133 #[.val (.int p0_0), .val (.int p0_1), .val (.int (2 : Int32)), .val (.int (3 : Int32)), .val (.int MM), .val (.ref b170), .val (.int RR), .val (.int ((MM + (1 : Int32)) &&& (3 : Int32))), .unset] [(.int (0 : Int32)), (.int (((((if G0 = (0 : Int32) then (0 : Int32) else ((1 : Int32) <<< ((0 : Int32) &&& 31))) ||| (if G1 = (0 : Int32) then (0 : Int32) else ((1 : Int32) <<< ((1 : Int32) &&& 31)))) ||| (0 : Int32)) ||| (0 : Int32)) ||| (0 : Int32)))])) _
      refine XS.ior X233.here hx rfl (hb hby at_133) rfl ?_
      refine XS.aload X233.here hx rfl (hb hby at_134) rfl rfl ?_
      refine XS.bipush X233.here hx rfl (hb hby at_136) ?_
      show Steps p.tables e below (T233.setTop (mkF m 138 #[.val (.int p0_0), .val (.int p0_1), .val (.int (2 : Int32)), .val (.int (3 : Int32)), .val (.int MM), .val (.ref b170), .val (.int RR), .val (.int ((MM + (1 : Int32)) &&& (3 : Int32))), .unset] [(.int (6 : Int32)), (.ref b170), (.int ((((((if G0 = (0 : Int32) then (0 : Int32) else ((1 : Int32) <<< ((0 : Int32) &&& 31))) ||| (if G1 = (0 : Int32) then (0 : Int32) else ((1 : Int32) <<< ((1 : Int32) &&& 31)))) ||| (0 : Int32)) ||| (0 : Int32)) ||| (0 : Int32)) ||| (0 : Int32)))])) _
      refine st237 _ ?_
      exact k)
    obtain ⟨cl241, Ar241, q241, S241, N241, H241, G241⟩ := id V212
    have pre243 : ∀ t, Steps p.tables e below (T237.setTop (mkF m 156 #[.val (.int p0_0), .val (.int p0_1), .val (.int (2 : Int32)), .val (.int (3 : Int32)), .val (.int MM), .val (.ref b170), .val (.int RR), .val (.int ((MM + (1 : Int32)) &&& (3 : Int32))), .val (.int (((((((if G0 = (0 : Int32) then (0 : Int32) else ((1 : Int32) <<< ((0 : Int32) &&& 31))) ||| (if G1 = (0 : Int32) then (0 : Int32) else ((1 : Int32) <<< ((1 : Int32) &&& 31)))) ||| (0 : Int32)) ||| (0 : Int32)) ||| (0 : Int32)) ||| (0 : Int32)) ||| (0 : Int32)))] [(.int (3 : Int32)), (.int MM), (.int RR)])) t → Steps p.tables e below (s₁.setTop (entryFrame m #[(.int p0_0), (.int p0_1)] maxLocals)) t := fun t k => pre240 t (by
      show Steps p.tables e below (T237.setTop (mkF m 141 #[.val (.int p0_0), .val (.int p0_1), .val (.int (2 : Int32)), .val (.int (3 : Int32)), .val (.int MM), .val (.ref b170), .val (.int RR), .val (.int ((MM + (1 : Int32)) &&& (3 : Int32))), .unset] [(.int (0 : Int32)), (.int ((((((if G0 = (0 : Int32) then (0 : Int32) else ((1 : Int32) <<< ((0 : Int32) &&& 31))) ||| (if G1 = (0 : Int32) then (0 : Int32) else ((1 : Int32) <<< ((1 : Int32) &&& 31)))) ||| (0 : Int32)) ||| (0 : Int32)) ||| (0 : Int32)) ||| (0 : Int32)))])) _
      refine XS.ior X237.here hx rfl (hb hby at_141) rfl ?_
      show Steps p.tables e below (T237.setTop (mkF m 142 #[.val (.int p0_0), .val (.int p0_1), .val (.int (2 : Int32)), .val (.int (3 : Int32)), .val (.int MM), .val (.ref b170), .val (.int RR), .val (.int ((MM + (1 : Int32)) &&& (3 : Int32))), .unset] [(.int (((((((if G0 = (0 : Int32) then (0 : Int32) else ((1 : Int32) <<< ((0 : Int32) &&& 31))) ||| (if G1 = (0 : Int32) then (0 : Int32) else ((1 : Int32) <<< ((1 : Int32) &&& 31)))) ||| (0 : Int32)) ||| (0 : Int32)) ||| (0 : Int32)) ||| (0 : Int32)) ||| (0 : Int32)))])) _
      refine XS.istore X237.here hx rfl (hb hby at_142) rfl (l' := #[.val (.int p0_0), .val (.int p0_1), .val (.int (2 : Int32)), .val (.int (3 : Int32)), .val (.int MM), .val (.ref b170), .val (.int RR), .val (.int ((MM + (1 : Int32)) &&& (3 : Int32))), .val (.int (((((((if G0 = (0 : Int32) then (0 : Int32) else ((1 : Int32) <<< ((0 : Int32) &&& 31))) ||| (if G1 = (0 : Int32) then (0 : Int32) else ((1 : Int32) <<< ((1 : Int32) &&& 31)))) ||| (0 : Int32)) ||| (0 : Int32)) ||| (0 : Int32)) ||| (0 : Int32)) ||| (0 : Int32)))]) rfl ?_
      show Steps p.tables e below (T237.setTop (mkF m 144 #[.val (.int p0_0), .val (.int p0_1), .val (.int (2 : Int32)), .val (.int (3 : Int32)), .val (.int MM), .val (.ref b170), .val (.int RR), .val (.int ((MM + (1 : Int32)) &&& (3 : Int32))), .val (.int (((((((if G0 = (0 : Int32) then (0 : Int32) else ((1 : Int32) <<< ((0 : Int32) &&& 31))) ||| (if G1 = (0 : Int32) then (0 : Int32) else ((1 : Int32) <<< ((1 : Int32) &&& 31)))) ||| (0 : Int32)) ||| (0 : Int32)) ||| (0 : Int32)) ||| (0 : Int32)) ||| (0 : Int32)))] [])) _
      refine XS.aload X237.here hx rfl (hb hby at_144) rfl rfl ?_
      show Steps p.tables e below (T237.setTop (mkF m 146 #[.val (.int p0_0), .val (.int p0_1), .val (.int (2 : Int32)), .val (.int (3 : Int32)), .val (.int MM), .val (.ref b170), .val (.int RR), .val (.int ((MM + (1 : Int32)) &&& (3 : Int32))), .val (.int (((((((if G0 = (0 : Int32) then (0 : Int32) else ((1 : Int32) <<< ((0 : Int32) &&& 31))) ||| (if G1 = (0 : Int32) then (0 : Int32) else ((1 : Int32) <<< ((1 : Int32) &&& 31)))) ||| (0 : Int32)) ||| (0 : Int32)) ||| (0 : Int32)) ||| (0 : Int32)) ||| (0 : Int32)))] [(.ref b170)])) _
      refine X237.arraylength hx (by rw [e237]; exact Ar241.1) (State.isArrayOf_alike hZ.alike Ar241.2.1) (g := (mkF m 146 #[.val (.int p0_0), .val (.int p0_1), .val (.int (2 : Int32)), .val (.int (3 : Int32)), .val (.int MM), .val (.ref b170), .val (.int RR), .val (.int ((MM + (1 : Int32)) &&& (3 : Int32))), .val (.int (((((((if G0 = (0 : Int32) then (0 : Int32) else ((1 : Int32) <<< ((0 : Int32) &&& 31))) ||| (if G1 = (0 : Int32) then (0 : Int32) else ((1 : Int32) <<< ((1 : Int32) &&& 31)))) ||| (0 : Int32)) ||| (0 : Int32)) ||| (0 : Int32)) ||| (0 : Int32)) ||| (0 : Int32)))] [(.ref b170)])) rfl rfl (hb hby at_146) _ ?_
      rw [len_of S241 N241]
      show Steps p.tables e below (T237.setTop (mkF m 147 #[.val (.int p0_0), .val (.int p0_1), .val (.int (2 : Int32)), .val (.int (3 : Int32)), .val (.int MM), .val (.ref b170), .val (.int RR), .val (.int ((MM + (1 : Int32)) &&& (3 : Int32))), .val (.int (((((((if G0 = (0 : Int32) then (0 : Int32) else ((1 : Int32) <<< ((0 : Int32) &&& 31))) ||| (if G1 = (0 : Int32) then (0 : Int32) else ((1 : Int32) <<< ((1 : Int32) &&& 31)))) ||| (0 : Int32)) ||| (0 : Int32)) ||| (0 : Int32)) ||| (0 : Int32)) ||| (0 : Int32)))] [(.int (2 : Int32))])) _
      refine XS.iloadN X237.here hx rfl (hb hby at_147) rfl ?_
      show Steps p.tables e below (T237.setTop (mkF m 148 #[.val (.int p0_0), .val (.int p0_1), .val (.int (2 : Int32)), .val (.int (3 : Int32)), .val (.int MM), .val (.ref b170), .val (.int RR), .val (.int ((MM + (1 : Int32)) &&& (3 : Int32))), .val (.int (((((((if G0 = (0 : Int32) then (0 : Int32) else ((1 : Int32) <<< ((0 : Int32) &&& 31))) ||| (if G1 = (0 : Int32) then (0 : Int32) else ((1 : Int32) <<< ((1 : Int32) &&& 31)))) ||| (0 : Int32)) ||| (0 : Int32)) ||| (0 : Int32)) ||| (0 : Int32)) ||| (0 : Int32)))] [(.int (2 : Int32)), (.int (2 : Int32))])) _
      refine XS.icmpNo X237.here hx rfl (hb hby at_148) rfl (teq (by decide : (2 : Int32) = (2 : Int32))).2 ?_
      show Steps p.tables e below (T237.setTop (mkF m 151 #[.val (.int p0_0), .val (.int p0_1), .val (.int (2 : Int32)), .val (.int (3 : Int32)), .val (.int MM), .val (.ref b170), .val (.int RR), .val (.int ((MM + (1 : Int32)) &&& (3 : Int32))), .val (.int (((((((if G0 = (0 : Int32) then (0 : Int32) else ((1 : Int32) <<< ((0 : Int32) &&& 31))) ||| (if G1 = (0 : Int32) then (0 : Int32) else ((1 : Int32) <<< ((1 : Int32) &&& 31)))) ||| (0 : Int32)) ||| (0 : Int32)) ||| (0 : Int32)) ||| (0 : Int32)) ||| (0 : Int32)))] [])) _
      refine XS.iload X237.here hx rfl (hb hby at_151) rfl ?_
      refine XS.iload X237.here hx rfl (hb hby at_153) rfl ?_
      refine XS.iloadN X237.here hx rfl (hb hby at_155) rfl ?_
      exact k)
    have pre244 : ∀ t, Steps p.tables e below (T237.setTop (mkF m 164 #[.val (.int p0_0), .val (.int p0_1), .val (.int (2 : Int32)), .val (.int (3 : Int32)), .val (.int MM), .val (.ref b170), .val (.int RR), .val (.int ((MM + (1 : Int32)) &&& (3 : Int32))), .val (.int (((((((if G0 = (0 : Int32) then (0 : Int32) else ((1 : Int32) <<< ((0 : Int32) &&& 31))) ||| (if G1 = (0 : Int32) then (0 : Int32) else ((1 : Int32) <<< ((1 : Int32) &&& 31)))) ||| (0 : Int32)) ||| (0 : Int32)) ||| (0 : Int32)) ||| (0 : Int32)) ||| (0 : Int32)))] [(.int (bI (¬ (MM = (3 : Int32))))), (.int RR)])) t → Steps p.tables e below (s₁.setTop (entryFrame m #[(.int p0_0), (.int p0_1)] maxLocals)) t := fun t k => pre243 t (by
      by_cases hc242 : MM = (3 : Int32)
      · show Steps p.tables e below (T237.setTop (mkF m 156 #[.val (.int p0_0), .val (.int p0_1), .val (.int (2 : Int32)), .val (.int (3 : Int32)), .val (.int MM), .val (.ref b170), .val (.int RR), .val (.int ((MM + (1 : Int32)) &&& (3 : Int32))), .val (.int (((((((if G0 = (0 : Int32) then (0 : Int32) else ((1 : Int32) <<< ((0 : Int32) &&& 31))) ||| (if G1 = (0 : Int32) then (0 : Int32) else ((1 : Int32) <<< ((1 : Int32) &&& 31)))) ||| (0 : Int32)) ||| (0 : Int32)) ||| (0 : Int32)) ||| (0 : Int32)) ||| (0 : Int32)))] [(.int (3 : Int32)), (.int MM), (.int RR)])) _
        refine XS.icmpYes X237.here hx rfl (pc0 := 156) (pc' := 163) rfl (hb hby at_156) rfl (teq hc242).1 (by decide) (by decide) ?_
        show Steps p.tables e below (T237.setTop (mkF m 163 #[.val (.int p0_0), .val (.int p0_1), .val (.int (2 : Int32)), .val (.int (3 : Int32)), .val (.int MM), .val (.ref b170), .val (.int RR), .val (.int ((MM + (1 : Int32)) &&& (3 : Int32))), .val (.int (((((((if G0 = (0 : Int32) then (0 : Int32) else ((1 : Int32) <<< ((0 : Int32) &&& 31))) ||| (if G1 = (0 : Int32) then (0 : Int32) else ((1 : Int32) <<< ((1 : Int32) &&& 31)))) ||| (0 : Int32)) ||| (0 : Int32)) ||| (0 : Int32)) ||| (0 : Int32)) ||| (0 : Int32)))] [(.int RR)])) _
        refine XS.iconst X237.here hx rfl (hb hby at_163) ?_
        have q245 : (bI (¬ (MM = (3 : Int32)))) = (0 : Int32) := (bI_f (fun q => q hc242))
        exact castTop (g := (mkF m 164 #[.val (.int p0_0), .val (.int p0_1), .val (.int (2 : Int32)), .val (.int (3 : Int32)), .val (.int MM), .val (.ref b170), .val (.int RR), .val (.int ((MM + (1 : Int32)) &&& (3 : Int32))), .val (.int (((((((if G0 = (0 : Int32) then (0 : Int32) else ((1 : Int32) <<< ((0 : Int32) &&& 31))) ||| (if G1 = (0 : Int32) then (0 : Int32) else ((1 : Int32) <<< ((1 : Int32) &&& 31)))) ||| (0 : Int32)) ||| (0 : Int32)) ||| (0 : Int32)) ||| (0 : Int32)) ||| (0 : Int32)))] [(.int (0 : Int32)), (.int RR)])) (g' := (mkF m 164 #[.val (.int p0_0), .val (.int p0_1), .val (.int (2 : Int32)), .val (.int (3 : Int32)), .val (.int MM), .val (.ref b170), .val (.int RR), .val (.int ((MM + (1 : Int32)) &&& (3 : Int32))), .val (.int (((((((if G0 = (0 : Int32) then (0 : Int32) else ((1 : Int32) <<< ((0 : Int32) &&& 31))) ||| (if G1 = (0 : Int32) then (0 : Int32) else ((1 : Int32) <<< ((1 : Int32) &&& 31)))) ||| (0 : Int32)) ||| (0 : Int32)) ||| (0 : Int32)) ||| (0 : Int32)) ||| (0 : Int32)))] [(.int (bI (¬ (MM = (3 : Int32))))), (.int RR)])) (by simp only [q245]) k
      · show Steps p.tables e below (T237.setTop (mkF m 156 #[.val (.int p0_0), .val (.int p0_1), .val (.int (2 : Int32)), .val (.int (3 : Int32)), .val (.int MM), .val (.ref b170), .val (.int RR), .val (.int ((MM + (1 : Int32)) &&& (3 : Int32))), .val (.int (((((((if G0 = (0 : Int32) then (0 : Int32) else ((1 : Int32) <<< ((0 : Int32) &&& 31))) ||| (if G1 = (0 : Int32) then (0 : Int32) else ((1 : Int32) <<< ((1 : Int32) &&& 31)))) ||| (0 : Int32)) ||| (0 : Int32)) ||| (0 : Int32)) ||| (0 : Int32)) ||| (0 : Int32)))] [(.int (3 : Int32)), (.int MM), (.int RR)])) _
        refine XS.icmpNo X237.here hx rfl (hb hby at_156) rfl (feq hc242).1 ?_
        show Steps p.tables e below (T237.setTop (mkF m 159 #[.val (.int p0_0), .val (.int p0_1), .val (.int (2 : Int32)), .val (.int (3 : Int32)), .val (.int MM), .val (.ref b170), .val (.int RR), .val (.int ((MM + (1 : Int32)) &&& (3 : Int32))), .val (.int (((((((if G0 = (0 : Int32) then (0 : Int32) else ((1 : Int32) <<< ((0 : Int32) &&& 31))) ||| (if G1 = (0 : Int32) then (0 : Int32) else ((1 : Int32) <<< ((1 : Int32) &&& 31)))) ||| (0 : Int32)) ||| (0 : Int32)) ||| (0 : Int32)) ||| (0 : Int32)) ||| (0 : Int32)))] [(.int RR)])) _
        refine XS.iconst X237.here hx rfl (hb hby at_159) ?_
        show Steps p.tables e below (T237.setTop (mkF m 160 #[.val (.int p0_0), .val (.int p0_1), .val (.int (2 : Int32)), .val (.int (3 : Int32)), .val (.int MM), .val (.ref b170), .val (.int RR), .val (.int ((MM + (1 : Int32)) &&& (3 : Int32))), .val (.int (((((((if G0 = (0 : Int32) then (0 : Int32) else ((1 : Int32) <<< ((0 : Int32) &&& 31))) ||| (if G1 = (0 : Int32) then (0 : Int32) else ((1 : Int32) <<< ((1 : Int32) &&& 31)))) ||| (0 : Int32)) ||| (0 : Int32)) ||| (0 : Int32)) ||| (0 : Int32)) ||| (0 : Int32)))] [(.int (1 : Int32)), (.int RR)])) _
        refine XS.goto X237.here hx rfl (pc0 := 160) (pc' := 164) rfl (hb hby at_160) (by decide) (by decide) ?_
        have q246 : (bI (¬ (MM = (3 : Int32)))) = (1 : Int32) := (bI_t hc242)
        exact castTop (g := (mkF m 164 #[.val (.int p0_0), .val (.int p0_1), .val (.int (2 : Int32)), .val (.int (3 : Int32)), .val (.int MM), .val (.ref b170), .val (.int RR), .val (.int ((MM + (1 : Int32)) &&& (3 : Int32))), .val (.int (((((((if G0 = (0 : Int32) then (0 : Int32) else ((1 : Int32) <<< ((0 : Int32) &&& 31))) ||| (if G1 = (0 : Int32) then (0 : Int32) else ((1 : Int32) <<< ((1 : Int32) &&& 31)))) ||| (0 : Int32)) ||| (0 : Int32)) ||| (0 : Int32)) ||| (0 : Int32)) ||| (0 : Int32)))] [(.int (1 : Int32)), (.int RR)])) (g' := (mkF m 164 #[.val (.int p0_0), .val (.int p0_1), .val (.int (2 : Int32)), .val (.int (3 : Int32)), .val (.int MM), .val (.ref b170), .val (.int RR), .val (.int ((MM + (1 : Int32)) &&& (3 : Int32))), .val (.int (((((((if G0 = (0 : Int32) then (0 : Int32) else ((1 : Int32) <<< ((0 : Int32) &&& 31))) ||| (if G1 = (0 : Int32) then (0 : Int32) else ((1 : Int32) <<< ((1 : Int32) &&& 31)))) ||| (0 : Int32)) ||| (0 : Int32)) ||| (0 : Int32)) ||| (0 : Int32)) ||| (0 : Int32)))] [(.int (bI (¬ (MM = (3 : Int32))))), (.int RR)])) (by simp only [q246]) k)
    have hd247 : RR = (bI (¬ (MM = (3 : Int32)))) := by
      rw [hRR]
      exact own_fin (P := fun y : Int32 => (bI (((own_b y (0 : Int32)) = (0 : Int32)) ∨ ((own_b y (1 : Int32)) = (0 : Int32)))) = (bI (¬ (y = (3 : Int32))))) own_r_2 MM hM.1 hM.2
    have hd248 : (((((((if G0 = (0 : Int32) then (0 : Int32) else ((1 : Int32) <<< ((0 : Int32) &&& 31))) ||| (if G1 = (0 : Int32) then (0 : Int32) else ((1 : Int32) <<< ((1 : Int32) &&& 31)))) ||| (0 : Int32)) ||| (0 : Int32)) ||| (0 : Int32)) ||| (0 : Int32)) ||| (0 : Int32)) = ((MM + (1 : Int32)) &&& (3 : Int32)) := by
      rw [hG0, hG1]
      exact own_fin (P := fun y : Int32 => (((((((if (bI ((own_b y (0 : Int32)) = (0 : Int32))) = (0 : Int32) then (0 : Int32) else ((1 : Int32) <<< ((0 : Int32) &&& 31))) ||| (if (if (own_b y (0 : Int32)) = (0 : Int32) then (own_b y (1 : Int32)) else (bI ((own_b y (1 : Int32)) = (0 : Int32)))) = (0 : Int32) then (0 : Int32) else ((1 : Int32) <<< ((1 : Int32) &&& 31)))) ||| (0 : Int32)) ||| (0 : Int32)) ||| (0 : Int32)) ||| (0 : Int32)) ||| (0 : Int32)) = ((y + (1 : Int32)) &&& (3 : Int32))) own_g_2 MM hM.1 hM.2
    obtain ⟨fs, hr, hrun, hended, hW, hsame⟩ := X237.leave (v := some (.int (1 : Int32))) (fun h => by rw [Bd.returns] at h; cases h)
    refine ⟨_, _, pre244 _ ?_, hrun, hended, _, _, rfl, ?_, ⟨_, rfl⟩, hW, hsame.mono (by decide) (by decide)⟩
    · show Steps p.tables e below (T237.setTop (mkF m 164 #[.val (.int p0_0), .val (.int p0_1), .val (.int (2 : Int32)), .val (.int (3 : Int32)), .val (.int MM), .val (.ref b170), .val (.int RR), .val (.int ((MM + (1 : Int32)) &&& (3 : Int32))), .val (.int (((((((if G0 = (0 : Int32) then (0 : Int32) else ((1 : Int32) <<< ((0 : Int32) &&& 31))) ||| (if G1 = (0 : Int32) then (0 : Int32) else ((1 : Int32) <<< ((1 : Int32) &&& 31)))) ||| (0 : Int32)) ||| (0 : Int32)) ||| (0 : Int32)) ||| (0 : Int32)) ||| (0 : Int32)))] [(.int (bI (¬ (MM = (3 : Int32))))), (.int RR)])) _
      refine XS.icmpNo X237.here hx rfl (hb hby at_164) rfl (teq hd247).2 ?_
      show Steps p.tables e below (T237.setTop (mkF m 167 #[.val (.int p0_0), .val (.int p0_1), .val (.int (2 : Int32)), .val (.int (3 : Int32)), .val (.int MM), .val (.ref b170), .val (.int RR), .val (.int ((MM + (1 : Int32)) &&& (3 : Int32))), .val (.int (((((((if G0 = (0 : Int32) then (0 : Int32) else ((1 : Int32) <<< ((0 : Int32) &&& 31))) ||| (if G1 = (0 : Int32) then (0 : Int32) else ((1 : Int32) <<< ((1 : Int32) &&& 31)))) ||| (0 : Int32)) ||| (0 : Int32)) ||| (0 : Int32)) ||| (0 : Int32)) ||| (0 : Int32)))] [])) _
      refine XS.iload X237.here hx rfl (hb hby at_167) rfl ?_
      refine XS.iload X237.here hx rfl (hb hby at_169) rfl ?_
      show Steps p.tables e below (T237.setTop (mkF m 171 #[.val (.int p0_0), .val (.int p0_1), .val (.int (2 : Int32)), .val (.int (3 : Int32)), .val (.int MM), .val (.ref b170), .val (.int RR), .val (.int ((MM + (1 : Int32)) &&& (3 : Int32))), .val (.int (((((((if G0 = (0 : Int32) then (0 : Int32) else ((1 : Int32) <<< ((0 : Int32) &&& 31))) ||| (if G1 = (0 : Int32) then (0 : Int32) else ((1 : Int32) <<< ((1 : Int32) &&& 31)))) ||| (0 : Int32)) ||| (0 : Int32)) ||| (0 : Int32)) ||| (0 : Int32)) ||| (0 : Int32)))] [(.int ((MM + (1 : Int32)) &&& (3 : Int32))), (.int (((((((if G0 = (0 : Int32) then (0 : Int32) else ((1 : Int32) <<< ((0 : Int32) &&& 31))) ||| (if G1 = (0 : Int32) then (0 : Int32) else ((1 : Int32) <<< ((1 : Int32) &&& 31)))) ||| (0 : Int32)) ||| (0 : Int32)) ||| (0 : Int32)) ||| (0 : Int32)) ||| (0 : Int32)))])) _
      refine XS.icmpNo X237.here hx rfl (hb hby at_171) rfl (teq hd248).2 ?_
      show Steps p.tables e below (T237.setTop (mkF m 174 #[.val (.int p0_0), .val (.int p0_1), .val (.int (2 : Int32)), .val (.int (3 : Int32)), .val (.int MM), .val (.ref b170), .val (.int RR), .val (.int ((MM + (1 : Int32)) &&& (3 : Int32))), .val (.int (((((((if G0 = (0 : Int32) then (0 : Int32) else ((1 : Int32) <<< ((0 : Int32) &&& 31))) ||| (if G1 = (0 : Int32) then (0 : Int32) else ((1 : Int32) <<< ((1 : Int32) &&& 31)))) ||| (0 : Int32)) ||| (0 : Int32)) ||| (0 : Int32)) ||| (0 : Int32)) ||| (0 : Int32)))] [])) _
      refine XS.iconst X237.here hx rfl (hb hby at_174) ?_
      refine XS.goto X237.here hx rfl (pc0 := 175) (pc' := 179) rfl (hb hby at_175) (by decide) (by decide) ?_
      show Steps p.tables e below (T237.setTop (mkF m 179 #[.val (.int p0_0), .val (.int p0_1), .val (.int (2 : Int32)), .val (.int (3 : Int32)), .val (.int MM), .val (.ref b170), .val (.int RR), .val (.int ((MM + (1 : Int32)) &&& (3 : Int32))), .val (.int (((((((if G0 = (0 : Int32) then (0 : Int32) else ((1 : Int32) <<< ((0 : Int32) &&& 31))) ||| (if G1 = (0 : Int32) then (0 : Int32) else ((1 : Int32) <<< ((1 : Int32) &&& 31)))) ||| (0 : Int32)) ||| (0 : Int32)) ||| (0 : Int32)) ||| (0 : Int32)) ||| (0 : Int32)))] [(.int (1 : Int32))])) _
      exact retN X237 hx (t := .boolean) Bd.returns (by simp) (hb hby at_179) hr
    · show Q0 Z p0_0 p0_1 h0 n0 _ T237.heap _
      rw [e237]
      exact ⟨rfl, N239⟩
  · have pre249 : ∀ t, Steps p.tables e below (s₁.setTop (mkF m 5 #[.val (.int p0_0), .val (.int p0_1), .val (.int (3 : Int32)), .unset, .unset, .unset, .unset, .unset, .unset] [])) t → Steps p.tables e below (s₁.setTop (entryFrame m #[(.int p0_0), (.int p0_1)] maxLocals)) t := fun t k => pre1 t (castTop (by rw [hk]) k)
    have pre250 : ∀ t, Steps p.tables e below (s₁.setTop (mkF m 11 #[.val (.int p0_0), .val (.int p0_1), .val (.int (3 : Int32)), .val (.int (((1 : Int32) <<< ((3 : Int32) &&& 31)) - (1 : Int32))), .unset, .unset, .unset, .unset, .unset] [])) t → Steps p.tables e below (s₁.setTop (entryFrame m #[(.int p0_0), (.int p0_1)] maxLocals)) t := fun t k => pre249 t (by
      show Steps p.tables e below (s₁.setTop (mkF m 5 #[.val (.int p0_0), .val (.int p0_1), .val (.int (3 : Int32)), .unset, .unset, .unset, .unset, .unset, .unset] [])) _
      refine XS.iconst X0.here hx rfl (hb hby at_5) ?_
      refine XS.iloadN X0.here hx rfl (hb hby at_6) rfl ?_
      show Steps p.tables e below (s₁.setTop (mkF m 7 #[.val (.int p0_0), .val (.int p0_1), .val (.int (3 : Int32)), .unset, .unset, .unset, .unset, .unset, .unset] [(.int (3 : Int32)), (.int (1 : Int32))])) _
      refine XS.ishl X0.here hx rfl (hb hby at_7) rfl ?_
      show Steps p.tables e below (s₁.setTop (mkF m 8 #[.val (.int p0_0), .val (.int p0_1), .val (.int (3 : Int32)), .unset, .unset, .unset, .unset, .unset, .unset] [(.int ((1 : Int32) <<< ((3 : Int32) &&& 31)))])) _
      refine XS.iconst X0.here hx rfl (hb hby at_8) ?_
      refine XS.isub X0.here hx rfl (hb hby at_9) rfl ?_
      show Steps p.tables e below (s₁.setTop (mkF m 10 #[.val (.int p0_0), .val (.int p0_1), .val (.int (3 : Int32)), .unset, .unset, .unset, .unset, .unset, .unset] [(.int (((1 : Int32) <<< ((3 : Int32) &&& 31)) - (1 : Int32)))])) _
      refine XS.istoreN X0.here hx rfl (hb hby at_10) rfl (l' := #[.val (.int p0_0), .val (.int p0_1), .val (.int (3 : Int32)), .val (.int (((1 : Int32) <<< ((3 : Int32) &&& 31)) - (1 : Int32))), .unset, .unset, .unset, .unset, .unset]) rfl ?_
      exact k)
    have hl251 : (((1 : Int32) <<< ((3 : Int32) &&& 31)) - (1 : Int32)) = (7 : Int32) := by
      decide
    have pre252 : ∀ t, Steps p.tables e below (s₁.setTop (mkF m 11 #[.val (.int p0_0), .val (.int p0_1), .val (.int (3 : Int32)), .val (.int (7 : Int32)), .unset, .unset, .unset, .unset, .unset] [])) t → Steps p.tables e below (s₁.setTop (entryFrame m #[(.int p0_0), (.int p0_1)] maxLocals)) t := fun t k => pre250 t (castTop (by rw [hl251]) k)
    have pre253 : ∀ t, Steps p.tables e below (s₁.setTop (mkF m 16 #[.val (.int p0_0), .val (.int p0_1), .val (.int (3 : Int32)), .val (.int (7 : Int32)), .val (.int (p0_1 &&& (7 : Int32))), .unset, .unset, .unset, .unset] [])) t → Steps p.tables e below (s₁.setTop (entryFrame m #[(.int p0_0), (.int p0_1)] maxLocals)) t := fun t k => pre252 t (by
      show Steps p.tables e below (s₁.setTop (mkF m 11 #[.val (.int p0_0), .val (.int p0_1), .val (.int (3 : Int32)), .val (.int (7 : Int32)), .unset, .unset, .unset, .unset, .unset] [])) _
      refine XS.iloadN X0.here hx rfl (hb hby at_11) rfl ?_
      refine XS.iloadN X0.here hx rfl (hb hby at_12) rfl ?_
      refine XS.iand X0.here hx rfl (hb hby at_13) rfl ?_
      show Steps p.tables e below (s₁.setTop (mkF m 14 #[.val (.int p0_0), .val (.int p0_1), .val (.int (3 : Int32)), .val (.int (7 : Int32)), .unset, .unset, .unset, .unset, .unset] [(.int (p0_1 &&& (7 : Int32)))])) _
      refine XS.istore X0.here hx rfl (hb hby at_14) rfl (l' := #[.val (.int p0_0), .val (.int p0_1), .val (.int (3 : Int32)), .val (.int (7 : Int32)), .val (.int (p0_1 &&& (7 : Int32))), .unset, .unset, .unset, .unset]) rfl ?_
      exact k)
    obtain ⟨MM, hMM⟩ : ∃ z : Int32, z = (p0_1 &&& (7 : Int32)) := ⟨_, rfl⟩
    have pre254 : ∀ t, Steps p.tables e below (s₁.setTop (mkF m 16 #[.val (.int p0_0), .val (.int p0_1), .val (.int (3 : Int32)), .val (.int (7 : Int32)), .val (.int MM), .unset, .unset, .unset, .unset] [])) t → Steps p.tables e below (s₁.setTop (entryFrame m #[(.int p0_0), (.int p0_1)] maxLocals)) t := fun t k => pre253 t (castTop (by rw [hMM]) k)
    have hM : 0 ≤ MM.toInt ∧ MM.toInt < (8 : Nat) := by
      rw [hMM]
      have e := c_mask p0_1 (7 : Int32) 3 (by decide) (by decide)
      omega
    obtain ⟨T255, h255, k255, X255, e255, E255, A255, st255⟩ := newP X0 hx hZ (hVV 0 _ rfl) e0 (g := (mkF m 17 #[.val (.int p0_0), .val (.int p0_1), .val (.int (3 : Int32)), .val (.int (7 : Int32)), .val (.int MM), .unset, .unset, .unset, .unset] [(.int (3 : Int32))])) rfl (hb hby at_17) rfl (by decide) (cap := 3) (by decide) (by decide) (by decide) (by decide)
    obtain ⟨b255, g255⟩ : ∃ z, z = h0.size := ⟨_, rfl⟩
    rw [← g255] at A255 st255
    have gz255 : n0 ≤ b255 := Nat.le_trans Z0 (Nat.le_of_eq g255.symm)
    have pre256 : ∀ t, Steps p.tables e below (T255.setTop (mkF m 19 #[.val (.int p0_0), .val (.int p0_1), .val (.int (3 : Int32)), .val (.int (7 : Int32)), .val (.int MM), .unset, .unset, .unset, .unset] [(.ref b255)])) t → Steps p.tables e below (s₁.setTop (entryFrame m #[(.int p0_0), (.int p0_1)] maxLocals)) t := fun t k => pre254 t (by
      show Steps p.tables e below (s₁.setTop (mkF m 16 #[.val (.int p0_0), .val (.int p0_1), .val (.int (3 : Int32)), .val (.int (7 : Int32)), .val (.int MM), .unset, .unset, .unset, .unset] [])) _
      refine XS.iloadN X0.here hx rfl (hb hby at_16) rfl ?_
      show Steps p.tables e below (s₁.setTop (mkF m 17 #[.val (.int p0_0), .val (.int p0_1), .val (.int (3 : Int32)), .val (.int (7 : Int32)), .val (.int MM), .unset, .unset, .unset, .unset] [(.int (3 : Int32))])) _
      refine st255 _ ?_
      exact k)
    have z257 := Nat.le_trans Z0 E255.1
    have V258 : Arv Z h255 b255 k255 .boolean (3 : Int32) [(.int (0 : Int32)), (.int (0 : Int32)), (.int (0 : Int32))] (.int (0 : Int32)) := (Arv.new A255 (by decide)).pad (pad_rep [] (.int (0 : Int32)) 3)
    have hq260 : (0 : Int32) < (3 : Int32) := by
      decide
    obtain ⟨_, _, ⟨T259, L259, k259, n259⟩, -, X259, ⟨Lc259, hQ259, l259, y259, z259⟩, st259⟩ := Jvm.LawKit.callS X255 hx (y := mn0) hown (mvT hZ (hVV 1 _ rfl)) (mvT hZ (hVV 2 _ rfl)) (mvT hZ (hVV 3 _ rfl)) (mvT hZ (hVV 4 _ rfl)) (by decide) (backOf (W := 0) (rm1_i l Z a0 hw [] b255 (0 : Int32) MM k255 (3 : Int32) ([(.int (0 : Int32)), (.int (0 : Int32)), (.int (0 : Int32))]) h255 n0 z257 V258 (by decide) (Nat.le_of_ble_eq_true rfl) hq260 gz255) hZ (hVV 4 _ rfl) (hVV 3 _ rfl) (by decide) (by decide)) (g := (mkF m 26 #[.val (.int p0_0), .val (.int p0_1), .val (.int (3 : Int32)), .val (.int (7 : Int32)), .val (.int MM), .val (.ref b255), .unset, .unset, .unset] [(.int MM), (.int (0 : Int32)), (.ref b255)])) rfl (by rw [hml]; rfl) (argsL := [(.ref b255), (.int (0 : Int32)), (.int MM)]) (rest := []) (lenOf pd_0 rfl) rfl (by show 2 * 0 + _ ≤ _; exact Nat.le_of_eq rfl) (hb hby at_26) (fun _ _ => ⟨rfl, e255, (by decide : 1 + 0 ≤ _), (by decide : 3 + 0 ≤ _)⟩)
    dsimp only [Pt.U, Pt.locs, Pt.cells, Pt.slots] at X259 l259 y259 z259 st259 hQ259
    subst l259 y259 z259
    obtain ⟨rfl, N259q, K259, r259_0⟩ := hQ259
    have N261 := Fr.app N0 N259q
    have pre262 : ∀ t, Steps p.tables e below (T259.setTop (mkF m 29 #[.val (.int p0_0), .val (.int p0_1), .val (.int (3 : Int32)), .val (.int (7 : Int32)), .val (.int MM), .val (.ref b255), .unset, .unset, .unset] [])) t → Steps p.tables e below (s₁.setTop (entryFrame m #[(.int p0_0), (.int p0_1)] maxLocals)) t := fun t k => pre256 t (by
      show Steps p.tables e below (T255.setTop (mkF m 19 #[.val (.int p0_0), .val (.int p0_1), .val (.int (3 : Int32)), .val (.int (7 : Int32)), .val (.int MM), .unset, .unset, .unset, .unset] [(.ref b255)])) _
      refine XS.astore X255.here hx rfl (hb hby at_19) rfl rfl (l' := #[.val (.int p0_0), .val (.int p0_1), .val (.int (3 : Int32)), .val (.int (7 : Int32)), .val (.int MM), .val (.ref b255), .unset, .unset, .unset]) rfl ?_
      show Steps p.tables e below (T255.setTop (mkF m 21 #[.val (.int p0_0), .val (.int p0_1), .val (.int (3 : Int32)), .val (.int (7 : Int32)), .val (.int MM), .val (.ref b255), .unset, .unset, .unset] [])) _
      refine XS.aload X255.here hx rfl (hb hby at_21) rfl rfl ?_
      refine XS.iconst X255.here hx rfl (hb hby at_23) ?_
      refine XS.iload X255.here hx rfl (hb hby at_24) rfl ?_
      show Steps p.tables e below (T255.setTop (mkF m 26 #[.val (.int p0_0), .val (.int p0_1), .val (.int (3 : Int32)), .val (.int (7 : Int32)), .val (.int MM), .val (.ref b255), .unset, .unset, .unset] [(.int MM), (.int (0 : Int32)), (.ref b255)])) _
      refine st259 _ ?_
      exact k)
    have z263 := Nat.le_trans z257 K259.1
    have V264 : Arv Z T259.heap b255 k255 .boolean (3 : Int32) [(.int (own_b MM (0 : Int32))), (.int (0 : Int32)), (.int (0 : Int32))] (.int (0 : Int32)) := r259_0
    have hq266 : (1 : Int32) < (3 : Int32) := by
      decide
    obtain ⟨_, _, ⟨T265, L265, k265, n265⟩, -, X265, ⟨Lc265, hQ265, l265, y265, z265⟩, st265⟩ := Jvm.LawKit.callS X259 hx (y := mn0) hown (mvT hZ (hVV 1 _ rfl)) (mvT hZ (hVV 2 _ rfl)) (mvT hZ (hVV 3 _ rfl)) (mvT hZ (hVV 4 _ rfl)) (by decide) (backOf (W := 0) (rm1_i l Z a0 hw [] b255 (1 : Int32) MM k255 (3 : Int32) ([(.int (own_b MM (0 : Int32))), (.int (0 : Int32)), (.int (0 : Int32))]) T259.heap n0 z263 V264 (by decide) (Nat.le_of_ble_eq_true rfl) hq266 gz255) hZ (hVV 4 _ rfl) (hVV 3 _ rfl) (by decide) (by decide)) (g := (mkF m 34 #[.val (.int p0_0), .val (.int p0_1), .val (.int (3 : Int32)), .val (.int (7 : Int32)), .val (.int MM), .val (.ref b255), .unset, .unset, .unset] [(.int MM), (.int (1 : Int32)), (.ref b255)])) rfl (by rw [hml]; rfl) (argsL := [(.ref b255), (.int (1 : Int32)), (.int MM)]) (rest := []) (lenOf pd_0 rfl) rfl (by show 2 * 0 + _ ≤ _; exact Nat.le_of_eq rfl) (hb hby at_34) (fun _ _ => ⟨rfl, rfl, (by decide : 1 + 0 ≤ _), (by decide : 3 + 0 ≤ _)⟩)
    dsimp only [Pt.U, Pt.locs, Pt.cells, Pt.slots] at X265 l265 y265 z265 st265 hQ265
    subst l265 y265 z265
    obtain ⟨rfl, N265q, K265, r265_0⟩ := hQ265
    have N267 := Fr.app N261 N265q
    have pre268 : ∀ t, Steps p.tables e below (T265.setTop (mkF m 37 #[.val (.int p0_0), .val (.int p0_1), .val (.int (3 : Int32)), .val (.int (7 : Int32)), .val (.int MM), .val (.ref b255), .unset, .unset, .unset] [])) t → Steps p.tables e below (s₁.setTop (entryFrame m #[(.int p0_0), (.int p0_1)] maxLocals)) t := fun t k => pre262 t (by
      show Steps p.tables e below (T259.setTop (mkF m 29 #[.val (.int p0_0), .val (.int p0_1), .val (.int (3 : Int32)), .val (.int (7 : Int32)), .val (.int MM), .val (.ref b255), .unset, .unset, .unset] [])) _
      refine XS.aload X259.here hx rfl (hb hby at_29) rfl rfl ?_
      refine XS.iconst X259.here hx rfl (hb hby at_31) ?_
      refine XS.iload X259.here hx rfl (hb hby at_32) rfl ?_
      show Steps p.tables e below (T259.setTop (mkF m 34 #[.val (.int p0_0), .val (.int p0_1), .val (.int (3 : Int32)), .val (.int (7 : Int32)), .val (.int MM), .val (.ref b255), .unset, .unset, .unset] [(.int MM), (.int (1 : Int32)), (.ref b255)])) _
      refine st265 _ ?_
      exact k)
    have z269 := Nat.le_trans z263 K265.1
    have V270 : Arv Z T265.heap b255 k255 .boolean (3 : Int32) [(.int (own_b MM (0 : Int32))), (.int (own_b MM (1 : Int32))), (.int (0 : Int32))] (.int (0 : Int32)) := r265_0
    have hq272 : (2 : Int32) < (3 : Int32) := by
      decide
    obtain ⟨_, _, ⟨T271, L271, k271, n271⟩, -, X271, ⟨Lc271, hQ271, l271, y271, z271⟩, st271⟩ := Jvm.LawKit.callS X265 hx (y := mn0) hown (mvT hZ (hVV 1 _ rfl)) (mvT hZ (hVV 2 _ rfl)) (mvT hZ (hVV 3 _ rfl)) (mvT hZ (hVV 4 _ rfl)) (by decide) (backOf (W := 0) (rm1_i l Z a0 hw [] b255 (2 : Int32) MM k255 (3 : Int32) ([(.int (own_b MM (0 : Int32))), (.int (own_b MM (1 : Int32))), (.int (0 : Int32))]) T265.heap n0 z269 V270 (by decide) (Nat.le_of_ble_eq_true rfl) hq272 gz255) hZ (hVV 4 _ rfl) (hVV 3 _ rfl) (by decide) (by decide)) (g := (mkF m 42 #[.val (.int p0_0), .val (.int p0_1), .val (.int (3 : Int32)), .val (.int (7 : Int32)), .val (.int MM), .val (.ref b255), .unset, .unset, .unset] [(.int MM), (.int (2 : Int32)), (.ref b255)])) rfl (by rw [hml]; rfl) (argsL := [(.ref b255), (.int (2 : Int32)), (.int MM)]) (rest := []) (lenOf pd_0 rfl) rfl (by show 2 * 0 + _ ≤ _; exact Nat.le_of_eq rfl) (hb hby at_42) (fun _ _ => ⟨rfl, rfl, (by decide : 1 + 0 ≤ _), (by decide : 3 + 0 ≤ _)⟩)
    dsimp only [Pt.U, Pt.locs, Pt.cells, Pt.slots] at X271 l271 y271 z271 st271 hQ271
    subst l271 y271 z271
    obtain ⟨rfl, N271q, K271, r271_0⟩ := hQ271
    have N273 := Fr.app N267 N271q
    have pre274 : ∀ t, Steps p.tables e below (T271.setTop (mkF m 45 #[.val (.int p0_0), .val (.int p0_1), .val (.int (3 : Int32)), .val (.int (7 : Int32)), .val (.int MM), .val (.ref b255), .unset, .unset, .unset] [])) t → Steps p.tables e below (s₁.setTop (entryFrame m #[(.int p0_0), (.int p0_1)] maxLocals)) t := fun t k => pre268 t (by
      show Steps p.tables e below (T265.setTop (mkF m 37 #[.val (.int p0_0), .val (.int p0_1), .val (.int (3 : Int32)), .val (.int (7 : Int32)), .val (.int MM), .val (.ref b255), .unset, .unset, .unset] [])) _
      refine XS.aload X265.here hx rfl (hb hby at_37) rfl rfl ?_
      refine XS.iconst X265.here hx rfl (hb hby at_39) ?_
      refine XS.iload X265.here hx rfl (hb hby at_40) rfl ?_
      show Steps p.tables e below (T265.setTop (mkF m 42 #[.val (.int p0_0), .val (.int p0_1), .val (.int (3 : Int32)), .val (.int (7 : Int32)), .val (.int MM), .val (.ref b255), .unset, .unset, .unset] [(.int MM), (.int (2 : Int32)), (.ref b255)])) _
      refine st271 _ ?_
      exact k)
    have z275 := Nat.le_trans z269 K271.1
    have V276 : Arv Z T271.heap b255 k255 .boolean (3 : Int32) [(.int (own_b MM (0 : Int32))), (.int (own_b MM (1 : Int32))), (.int (own_b MM (2 : Int32)))] (.int (0 : Int32)) := r271_0
    have hq278 : ¬ ((3 : Int32) < (3 : Int32)) := by
      decide
    obtain ⟨_, _, ⟨T277, L277, k277, n277⟩, -, X277, ⟨Lc277, hQ277, l277, y277, z277⟩, st277⟩ := Jvm.LawKit.callS X271 hx (y := mn0) hown (mvT hZ (hVV 1 _ rfl)) (mvT hZ (hVV 2 _ rfl)) (mvT hZ (hVV 3 _ rfl)) (mvT hZ (hVV 4 _ rfl)) (by decide) (backOf (W := 0) (rm1_o l Z a0 hw [] b255 (3 : Int32) MM k255 (3 : Int32) ([(.int (own_b MM (0 : Int32))), (.int (own_b MM (1 : Int32))), (.int (own_b MM (2 : Int32)))]) T271.heap n0 z275 V276 hq278) hZ (hVV 4 _ rfl) (hVV 3 _ rfl) (by decide) (by decide)) (g := (mkF m 50 #[.val (.int p0_0), .val (.int p0_1), .val (.int (3 : Int32)), .val (.int (7 : Int32)), .val (.int MM), .val (.ref b255), .unset, .unset, .unset] [(.int MM), (.int (3 : Int32)), (.ref b255)])) rfl (by rw [hml]; rfl) (argsL := [(.ref b255), (.int (3 : Int32)), (.int MM)]) (rest := []) (lenOf pd_0 rfl) rfl (by show 2 * 0 + _ ≤ _; exact Nat.le_of_eq rfl) (hb hby at_50) (fun _ _ => ⟨rfl, rfl, (by decide : 1 + 0 ≤ _), (by decide : 3 + 0 ≤ _)⟩)
    dsimp only [Pt.U, Pt.locs, Pt.cells, Pt.slots] at X277 l277 y277 z277 st277 hQ277
    subst l277 y277 z277
    obtain ⟨rfl, N277q, e277⟩ := hQ277
    have N279 := Fr.app N273 N277q
    have pre280 : ∀ t, Steps p.tables e below (T277.setTop (mkF m 53 #[.val (.int p0_0), .val (.int p0_1), .val (.int (3 : Int32)), .val (.int (7 : Int32)), .val (.int MM), .val (.ref b255), .unset, .unset, .unset] [])) t → Steps p.tables e below (s₁.setTop (entryFrame m #[(.int p0_0), (.int p0_1)] maxLocals)) t := fun t k => pre274 t (by
      show Steps p.tables e below (T271.setTop (mkF m 45 #[.val (.int p0_0), .val (.int p0_1), .val (.int (3 : Int32)), .val (.int (7 : Int32)), .val (.int MM), .val (.ref b255), .unset, .unset, .unset] [])) _
      refine XS.aload X271.here hx rfl (hb hby at_45) rfl rfl ?_
      refine XS.iconst X271.here hx rfl (hb hby at_47) ?_
      refine XS.iload X271.here hx rfl (hb hby at_48) rfl ?_
      show Steps p.tables e below (T271.setTop (mkF m 50 #[.val (.int p0_0), .val (.int p0_1), .val (.int (3 : Int32)), .val (.int (7 : Int32)), .val (.int MM), .val (.ref b255), .unset, .unset, .unset] [(.int MM), (.int (3 : Int32)), (.ref b255)])) _
      refine st277 _ ?_
      exact k)
    have hq282 : ¬ ((4 : Int32) < (3 : Int32)) := by
      decide
    obtain ⟨_, _, ⟨T281, L281, k281, n281⟩, -, X281, ⟨Lc281, hQ281, l281, y281, z281⟩, st281⟩ := Jvm.LawKit.callS X277 hx (y := mn0) hown (mvT hZ (hVV 1 _ rfl)) (mvT hZ (hVV 2 _ rfl)) (mvT hZ (hVV 3 _ rfl)) (mvT hZ (hVV 4 _ rfl)) (by decide) (backOf (W := 0) (rm1_o l Z a0 hw [] b255 (4 : Int32) MM k255 (3 : Int32) ([(.int (own_b MM (0 : Int32))), (.int (own_b MM (1 : Int32))), (.int (own_b MM (2 : Int32)))]) T271.heap n0 z275 V276 hq282) hZ (hVV 4 _ rfl) (hVV 3 _ rfl) (by decide) (by decide)) (g := (mkF m 58 #[.val (.int p0_0), .val (.int p0_1), .val (.int (3 : Int32)), .val (.int (7 : Int32)), .val (.int MM), .val (.ref b255), .unset, .unset, .unset] [(.int MM), (.int (4 : Int32)), (.ref b255)])) rfl (by rw [hml]; rfl) (argsL := [(.ref b255), (.int (4 : Int32)), (.int MM)]) (rest := []) (lenOf pd_0 rfl) rfl (by show 2 * 0 + _ ≤ _; exact Nat.le_of_eq rfl) (hb hby at_58) (fun _ _ => ⟨rfl, e277, (by decide : 1 + 0 ≤ _), (by decide : 3 + 0 ≤ _)⟩)
    dsimp only [Pt.U, Pt.locs, Pt.cells, Pt.slots] at X281 l281 y281 z281 st281 hQ281
    subst l281 y281 z281
    obtain ⟨rfl, N281q, e281⟩ := hQ281
    have N283 := Fr.app N279 N281q
    have pre284 : ∀ t, Steps p.tables e below (T281.setTop (mkF m 61 #[.val (.int p0_0), .val (.int p0_1), .val (.int (3 : Int32)), .val (.int (7 : Int32)), .val (.int MM), .val (.ref b255), .unset, .unset, .unset] [])) t → Steps p.tables e below (s₁.setTop (entryFrame m #[(.int p0_0), (.int p0_1)] maxLocals)) t := fun t k => pre280 t (by
      show Steps p.tables e below (T277.setTop (mkF m 53 #[.val (.int p0_0), .val (.int p0_1), .val (.int (3 : Int32)), .val (.int (7 : Int32)), .val (.int MM), .val (.ref b255), .unset, .unset, .unset] [])) _
      refine XS.aload X277.here hx rfl (hb hby at_53) rfl rfl ?_
      refine XS.iconst X277.here hx rfl (hb hby at_55) ?_
      refine XS.iload X277.here hx rfl (hb hby at_56) rfl ?_
      show Steps p.tables e below (T277.setTop (mkF m 58 #[.val (.int p0_0), .val (.int p0_1), .val (.int (3 : Int32)), .val (.int (7 : Int32)), .val (.int MM), .val (.ref b255), .unset, .unset, .unset] [(.int MM), (.int (4 : Int32)), (.ref b255)])) _
      refine st281 _ ?_
      exact k)
    have hq286 : ¬ ((5 : Int32) < (3 : Int32)) := by
      decide
    obtain ⟨_, _, ⟨T285, L285, k285, n285⟩, -, X285, ⟨Lc285, hQ285, l285, y285, z285⟩, st285⟩ := Jvm.LawKit.callS X281 hx (y := mn0) hown (mvT hZ (hVV 1 _ rfl)) (mvT hZ (hVV 2 _ rfl)) (mvT hZ (hVV 3 _ rfl)) (mvT hZ (hVV 4 _ rfl)) (by decide) (backOf (W := 0) (rm1_o l Z a0 hw [] b255 (5 : Int32) MM k255 (3 : Int32) ([(.int (own_b MM (0 : Int32))), (.int (own_b MM (1 : Int32))), (.int (own_b MM (2 : Int32)))]) T271.heap n0 z275 V276 hq286) hZ (hVV 4 _ rfl) (hVV 3 _ rfl) (by decide) (by decide)) (g := (mkF m 66 #[.val (.int p0_0), .val (.int p0_1), .val (.int (3 : Int32)), .val (.int (7 : Int32)), .val (.int MM), .val (.ref b255), .unset, .unset, .unset] [(.int MM), (.int (5 : Int32)), (.ref b255)])) rfl (by rw [hml]; rfl) (argsL := [(.ref b255), (.int (5 : Int32)), (.int MM)]) (rest := []) (lenOf pd_0 rfl) rfl (by show 2 * 0 + _ ≤ _; exact Nat.le_of_eq rfl) (hb hby at_66) (fun _ _ => ⟨rfl, e281, (by decide : 1 + 0 ≤ _), (by decide : 3 + 0 ≤ _)⟩)
    dsimp only [Pt.U, Pt.locs, Pt.cells, Pt.slots] at X285 l285 y285 z285 st285 hQ285
    subst l285 y285 z285
    obtain ⟨rfl, N285q, e285⟩ := hQ285
    have N287 := Fr.app N283 N285q
    have pre288 : ∀ t, Steps p.tables e below (T285.setTop (mkF m 69 #[.val (.int p0_0), .val (.int p0_1), .val (.int (3 : Int32)), .val (.int (7 : Int32)), .val (.int MM), .val (.ref b255), .unset, .unset, .unset] [])) t → Steps p.tables e below (s₁.setTop (entryFrame m #[(.int p0_0), (.int p0_1)] maxLocals)) t := fun t k => pre284 t (by
      show Steps p.tables e below (T281.setTop (mkF m 61 #[.val (.int p0_0), .val (.int p0_1), .val (.int (3 : Int32)), .val (.int (7 : Int32)), .val (.int MM), .val (.ref b255), .unset, .unset, .unset] [])) _
      refine XS.aload X281.here hx rfl (hb hby at_61) rfl rfl ?_
      refine XS.iconst X281.here hx rfl (hb hby at_63) ?_
      refine XS.iload X281.here hx rfl (hb hby at_64) rfl ?_
      show Steps p.tables e below (T281.setTop (mkF m 66 #[.val (.int p0_0), .val (.int p0_1), .val (.int (3 : Int32)), .val (.int (7 : Int32)), .val (.int MM), .val (.ref b255), .unset, .unset, .unset] [(.int MM), (.int (5 : Int32)), (.ref b255)])) _
      refine st285 _ ?_
      exact k)
    have hq290 : ¬ ((6 : Int32) < (3 : Int32)) := by
      decide
    obtain ⟨_, _, ⟨T289, L289, k289, n289⟩, -, X289, ⟨Lc289, hQ289, l289, y289, z289⟩, st289⟩ := Jvm.LawKit.callS X285 hx (y := mn0) hown (mvT hZ (hVV 1 _ rfl)) (mvT hZ (hVV 2 _ rfl)) (mvT hZ (hVV 3 _ rfl)) (mvT hZ (hVV 4 _ rfl)) (by decide) (backOf (W := 0) (rm1_o l Z a0 hw [] b255 (6 : Int32) MM k255 (3 : Int32) ([(.int (own_b MM (0 : Int32))), (.int (own_b MM (1 : Int32))), (.int (own_b MM (2 : Int32)))]) T271.heap n0 z275 V276 hq290) hZ (hVV 4 _ rfl) (hVV 3 _ rfl) (by decide) (by decide)) (g := (mkF m 75 #[.val (.int p0_0), .val (.int p0_1), .val (.int (3 : Int32)), .val (.int (7 : Int32)), .val (.int MM), .val (.ref b255), .unset, .unset, .unset] [(.int MM), (.int (6 : Int32)), (.ref b255)])) rfl (by rw [hml]; rfl) (argsL := [(.ref b255), (.int (6 : Int32)), (.int MM)]) (rest := []) (lenOf pd_0 rfl) rfl (by show 2 * 0 + _ ≤ _; exact Nat.le_of_eq rfl) (hb hby at_75) (fun _ _ => ⟨rfl, e285, (by decide : 1 + 0 ≤ _), (by decide : 3 + 0 ≤ _)⟩)
    dsimp only [Pt.U, Pt.locs, Pt.cells, Pt.slots] at X289 l289 y289 z289 st289 hQ289
    subst l289 y289 z289
    obtain ⟨rfl, N289q, e289⟩ := hQ289
    have N291 := Fr.app N287 N289q
    have pre292 : ∀ t, Steps p.tables e below (T289.setTop (mkF m 78 #[.val (.int p0_0), .val (.int p0_1), .val (.int (3 : Int32)), .val (.int (7 : Int32)), .val (.int MM), .val (.ref b255), .unset, .unset, .unset] [])) t → Steps p.tables e below (s₁.setTop (entryFrame m #[(.int p0_0), (.int p0_1)] maxLocals)) t := fun t k => pre288 t (by
      show Steps p.tables e below (T285.setTop (mkF m 69 #[.val (.int p0_0), .val (.int p0_1), .val (.int (3 : Int32)), .val (.int (7 : Int32)), .val (.int MM), .val (.ref b255), .unset, .unset, .unset] [])) _
      refine XS.aload X285.here hx rfl (hb hby at_69) rfl rfl ?_
      refine XS.bipush X285.here hx rfl (hb hby at_71) ?_
      refine XS.iload X285.here hx rfl (hb hby at_73) rfl ?_
      show Steps p.tables e below (T285.setTop (mkF m 75 #[.val (.int p0_0), .val (.int p0_1), .val (.int (3 : Int32)), .val (.int (7 : Int32)), .val (.int MM), .val (.ref b255), .unset, .unset, .unset] [(.int MM), (.int (6 : Int32)), (.ref b255)])) _
      refine st289 _ ?_
      exact k)
    obtain ⟨_, _, ⟨T293, L293, k293, n293⟩, -, X293, ⟨Lc293, hQ293, l293, y293, z293⟩, st293⟩ := Jvm.LawKit.callS X289 hx (y := mn2) hown (mvT hZ (hVV 5 _ rfl)) (mvT hZ (hVV 6 _ rfl)) (mvT hZ (hVV 7 _ rfl)) (mvT hZ (hVV 8 _ rfl)) (by decide) (backOf (W := 0) (rm2_3 l Z a0 hw [] b255 k255 (own_b MM (0 : Int32)) (own_b MM (1 : Int32)) (own_b MM (2 : Int32)) T271.heap n0 z275 V276 gz255) hZ (hVV 8 _ rfl) (hVV 7 _ rfl) (by decide) (by decide)) (g := (mkF m 80 #[.val (.int p0_0), .val (.int p0_1), .val (.int (3 : Int32)), .val (.int (7 : Int32)), .val (.int MM), .val (.ref b255), .unset, .unset, .unset] [(.ref b255)])) rfl (by rw [hml]; rfl) (argsL := [(.ref b255)]) (rest := []) (lenOf pd_1 rfl) rfl (by show 2 * 0 + _ ≤ _; exact Nat.le_of_eq rfl) (hb hby at_80) (fun _ _ => ⟨rfl, e289, (by decide : 1 + 0 ≤ _), (by decide : 3 + 0 ≤ _)⟩)
    dsimp only [Pt.U, Pt.locs, Pt.cells, Pt.slots] at X293 l293 y293 z293 st293 hQ293
    subst l293 y293 z293
    obtain ⟨rfl, N293q, K293, r293_0⟩ := hQ293
    have N294 := Fr.app N291 N293q
    have pre295 : ∀ t, Steps p.tables e below (T293.setTop (mkF m 83 #[.val (.int p0_0), .val (.int p0_1), .val (.int (3 : Int32)), .val (.int (7 : Int32)), .val (.int MM), .val (.ref b255), .unset, .unset, .unset] [(.int (bI (((own_b MM (0 : Int32)) = (0 : Int32)) ∨ (((own_b MM (1 : Int32)) = (0 : Int32)) ∨ ((own_b MM (2 : Int32)) = (0 : Int32))))))])) t → Steps p.tables e below (s₁.setTop (entryFrame m #[(.int p0_0), (.int p0_1)] maxLocals)) t := fun t k => pre292 t (by
      show Steps p.tables e below (T289.setTop (mkF m 78 #[.val (.int p0_0), .val (.int p0_1), .val (.int (3 : Int32)), .val (.int (7 : Int32)), .val (.int MM), .val (.ref b255), .unset, .unset, .unset] [])) _
      refine XS.aload X289.here hx rfl (hb hby at_78) rfl rfl ?_
      show Steps p.tables e below (T289.setTop (mkF m 80 #[.val (.int p0_0), .val (.int p0_1), .val (.int (3 : Int32)), .val (.int (7 : Int32)), .val (.int MM), .val (.ref b255), .unset, .unset, .unset] [(.ref b255)])) _
      refine st293 _ ?_
      exact k)
    have z296 := Nat.le_trans z275 K293.1
    have pre297 : ∀ t, Steps p.tables e below (T293.setTop (mkF m 85 #[.val (.int p0_0), .val (.int p0_1), .val (.int (3 : Int32)), .val (.int (7 : Int32)), .val (.int MM), .val (.ref b255), .val (.int (bI (((own_b MM (0 : Int32)) = (0 : Int32)) ∨ (((own_b MM (1 : Int32)) = (0 : Int32)) ∨ ((own_b MM (2 : Int32)) = (0 : Int32)))))), .unset, .unset] [])) t → Steps p.tables e below (s₁.setTop (entryFrame m #[(.int p0_0), (.int p0_1)] maxLocals)) t := fun t k => pre295 t (by
      show Steps p.tables e below (T293.setTop (mkF m 83 #[.val (.int p0_0), .val (.int p0_1), .val (.int (3 : Int32)), .val (.int (7 : Int32)), .val (.int MM), .val (.ref b255), .unset, .unset, .unset] [(.int (bI (((own_b MM (0 : Int32)) = (0 : Int32)) ∨ (((own_b MM (1 : Int32)) = (0 : Int32)) ∨ ((own_b MM (2 : Int32)) = (0 : Int32))))))])) _
      refine XS.istore X293.here hx rfl (hb hby at_83) rfl (l' := #[.val (.int p0_0), .val (.int p0_1), .val (.int (3 : Int32)), .val (.int (7 : Int32)), .val (.int MM), .val (.ref b255), .val (.int (bI (((own_b MM (0 : Int32)) = (0 : Int32)) ∨ (((own_b MM (1 : Int32)) = (0 : Int32)) ∨ ((own_b MM (2 : Int32)) = (0 : Int32)))))), .unset, .unset]) rfl ?_
      exact k)
    obtain ⟨RR, hRR⟩ : ∃ z : Int32, z = (bI (((own_b MM (0 : Int32)) = (0 : Int32)) ∨ (((own_b MM (1 : Int32)) = (0 : Int32)) ∨ ((own_b MM (2 : Int32)) = (0 : Int32))))) := ⟨_, rfl⟩
    have pre298 : ∀ t, Steps p.tables e below (T293.setTop (mkF m 85 #[.val (.int p0_0), .val (.int p0_1), .val (.int (3 : Int32)), .val (.int (7 : Int32)), .val (.int MM), .val (.ref b255), .val (.int RR), .unset, .unset] [])) t → Steps p.tables e below (s₁.setTop (entryFrame m #[(.int p0_0), (.int p0_1)] maxLocals)) t := fun t k => pre297 t (castTop (by rw [hRR]) k)
    obtain ⟨G0, hG0⟩ : ∃ z : Int32, z = (bI ((own_b MM (0 : Int32)) = (0 : Int32))) := ⟨_, rfl⟩
    obtain ⟨G1, hG1⟩ : ∃ z : Int32, z = (if (own_b MM (0 : Int32)) = (0 : Int32) then (own_b MM (1 : Int32)) else (bI ((own_b MM (1 : Int32)) = (0 : Int32)))) := ⟨_, rfl⟩
    obtain ⟨G2, hG2⟩ : ∃ z : Int32, z = (if (own_b MM (0 : Int32)) = (0 : Int32) then (own_b MM (2 : Int32)) else (if (own_b MM (1 : Int32)) = (0 : Int32) then (own_b MM (2 : Int32)) else (bI ((own_b MM (2 : Int32)) = (0 : Int32))))) := ⟨_, rfl⟩
    have V299 : Arv Z T293.heap b255 k255 .boolean (3 : Int32) [(.int G0), (.int G1), (.int G2)] (.int (0 : Int32)) := by rw [hG0, hG1, hG2]; exact r293_0
    have hq301 : (0 : Int32) < (3 : Int32) := by
      decide
    obtain ⟨_, _, ⟨T300, L300, k300, n300⟩, -, X300, ⟨Lc300, hQ300, l300, y300, z300⟩, st300⟩ := Jvm.LawKit.callS X293 hx (y := mn1) hown (mvT hZ (hVV 9 _ rfl)) (mvT hZ (hVV 10 _ rfl)) (mvT hZ (hVV 3 _ rfl)) (mvT hZ (hVV 11 _ rfl)) (by decide) (backOf (W := 0) (rm3_i l Z a0 hw [] b255 (0 : Int32) k255 (3 : Int32) ([(.int G0), (.int G1), (.int G2)]) G0 T293.heap n0 z296 V299 (by decide) (by rfl) hq301) hZ (hVV 11 _ rfl) (hVV 3 _ rfl) (by decide) (by decide)) (g := (mkF m 96 #[.val (.int p0_0), .val (.int p0_1), .val (.int (3 : Int32)), .val (.int (7 : Int32)), .val (.int MM), .val (.ref b255), .val (.int RR), .val (.int ((MM + (1 : Int32)) &&& (7 : Int32))), .unset] [(.int (0 : Int32)), (.ref b255)])) rfl (by rw [hml]; rfl) (argsL := [(.ref b255), (.int (0 : Int32))]) (rest := []) (lenOf pd_2 rfl) rfl (by show 2 * 0 + _ ≤ _; exact Nat.le_of_eq rfl) (hb hby at_96) (fun _ _ => ⟨rfl, rfl, (by decide : 1 + 0 ≤ _), (by decide : 3 + 0 ≤ _)⟩)
    dsimp only [Pt.U, Pt.locs, Pt.cells, Pt.slots] at X300 l300 y300 z300 st300 hQ300
    subst l300 y300 z300
    obtain ⟨rfl, N300q, e300⟩ := hQ300
    have N302 := Fr.app N294 N300q
    have pre303 : ∀ t, Steps p.tables e below (T300.setTop (mkF m 99 #[.val (.int p0_0), .val (.int p0_1), .val (.int (3 : Int32)), .val (.int (7 : Int32)), .val (.int MM), .val (.ref b255), .val (.int RR), .val (.int ((MM + (1 : Int32)) &&& (7 : Int32))), .unset] [(.int (if G0 = (0 : Int32) then (0 : Int32) else ((1 : Int32) <<< ((0 : Int32) &&& 31))))])) t → Steps p.tables e below (s₁.setTop (entryFrame m #[(.int p0_0), (.int p0_1)] maxLocals)) t := fun t k => pre298 t (by
      show Steps p.tables e below (T293.setTop (mkF m 85 #[.val (.int p0_0), .val (.int p0_1), .val (.int (3 : Int32)), .val (.int (7 : Int32)), .val (.int MM), .val (.ref b255), .val (.int RR), .unset, .unset] [])) _
      refine XS.iload X293.here hx rfl (hb hby at_85) rfl ?_
      refine XS.iconst X293.here hx rfl (hb hby at_87) ?_
      refine XS.iadd X293.here hx rfl (hb hby at_88) rfl ?_
      refine XS.iloadN X293.here hx rfl (hb hby at_89) rfl ?_
      refine XS.iand X293.here hx rfl (hb hby at_90) rfl ?_
      show Steps p.tables e below (T293.setTop (mkF m 91 #[.val (.int p0_0), .val (.int p0_1), .val (.int (3 : Int32)), .val (.int (7 : Int32)), .val (.int MM), .val (.ref b255), .val (.int RR), .unset, .unset] [(.int ((MM + (1 : Int32)) &&& (7 : Int32)))])) _
      refine XS.istore X293.here hx rfl (hb hby at_91) rfl (l' := #[.val (.int p0_0), .val (.int p0_1), .val (.int (3 : Int32)), .val (.int (7 : Int32)), .val (.int MM), .val (.ref b255), .val (.int RR), .val (.int ((MM + (1 : Int32)) &&& (7 : Int32))), .unset]) rfl ?_
      show Steps p.tables e below (T293.setTop (mkF m 93 #[.val (.int p0_0), .val (.int p0_1), .val (.int (3 : Int32)), .val (.int (7 : Int32)), .val (.int MM), .val (.ref b255), .val (.int RR), .val (.int ((MM + (1 : Int32)) &&& (7 : Int32))), .unset] [])) _
      refine XS.aload X293.here hx rfl (hb hby at_93) rfl rfl ?_
      refine XS.iconst X293.here hx rfl (hb hby at_95) ?_
      show Steps p.tables e below (T293.setTop (mkF m 96 #[.val (.int p0_0), .val (.int p0_1), .val (.int (3 : Int32)), .val (.int (7 : Int32)), .val (.int MM), .val (.ref b255), .val (.int RR), .val (.int ((MM + (1 : Int32)) &&& (7 : Int32))), .unset] [(.int (0 : Int32)), (.ref b255)])) _
      refine st300 _ ?_
      exact k)
    have hq305 : (1 : Int32) < (3 : Int32) := by
      decide
    obtain ⟨_, _, ⟨T304, L304, k304, n304⟩, -, X304, ⟨Lc304, hQ304, l304, y304, z304⟩, st304⟩ := Jvm.LawKit.callS X300 hx (y := mn1) hown (mvT hZ (hVV 9 _ rfl)) (mvT hZ (hVV 10 _ rfl)) (mvT hZ (hVV 3 _ rfl)) (mvT hZ (hVV 11 _ rfl)) (by decide) (backOf (W := 1) (rm3_i l Z a0 hw [] b255 (1 : Int32) k255 (3 : Int32) ([(.int G0), (.int G1), (.int G2)]) G1 T293.heap n0 z296 V299 (by decide) (by rfl) hq305) hZ (hVV 11 _ rfl) (hVV 3 _ rfl) (by decide) (by decide)) (g := (mkF m 102 #[.val (.int p0_0), .val (.int p0_1), .val (.int (3 : Int32)), .val (.int (7 : Int32)), .val (.int MM), .val (.ref b255), .val (.int RR), .val (.int ((MM + (1 : Int32)) &&& (7 : Int32))), .unset] [(.int (1 : Int32)), (.ref b255), (.int (if G0 = (0 : Int32) then (0 : Int32) else ((1 : Int32) <<< ((0 : Int32) &&& 31))))])) rfl (by rw [hml]; rfl) (argsL := [(.ref b255), (.int (1 : Int32))]) (rest := [(.int (if G0 = (0 : Int32) then (0 : Int32) else ((1 : Int32) <<< ((0 : Int32) &&& 31))))]) (lenOf pd_2 rfl) rfl (by show 2 * 0 + _ ≤ _; exact Nat.le_of_eq rfl) (hb hby at_102) (fun _ _ => ⟨rfl, e300, (by decide : 1 + 0 ≤ _), (by decide : 3 + 0 ≤ _)⟩)
    dsimp only [Pt.U, Pt.locs, Pt.cells, Pt.slots] at X304 l304 y304 z304 st304 hQ304
    subst l304 y304 z304
    obtain ⟨rfl, N304q, e304⟩ := hQ304
    have N306 := Fr.app N302 N304q
    have pre307 : ∀ t, Steps p.tables e below (T304.setTop (mkF m 105 #[.val (.int p0_0), .val (.int p0_1), .val (.int (3 : Int32)), .val (.int (7 : Int32)), .val (.int MM), .val (.ref b255), .val (.int RR), .val (.int ((MM + (1 : Int32)) &&& (7 : Int32))), .unset] [(.int (if G1 = (0 : Int32) then (0 : Int32) else ((1 : Int32) <<< ((1 : Int32) &&& 31)))), (.int (if G0 = (0 : Int32) then (0 : Int32) else ((1 : Int32) <<< ((0 : Int32) &&& 31))))])) t → Steps p.tables e below (s₁.setTop (entryFrame m #[(.int p0_0), (.int p0_1)] maxLocals)) t := fun t k => pre303 t (by
      show Steps p.tables e below (T300.setTop (mkF m 99 #[.val (.int p0_0), .val (.int p0_1), .val (.int (3 : Int32)), .val (.int (7 : Int32)), .val (.int MM), .val (.ref b255), .val (.int RR), .val (.int ((MM + (1 : Int32)) &&& (7 : Int32))), .unset] [(.int (if G0 = (0 : Int32) then (0 : Int32) else ((1 : Int32) <<< ((0 : Int32) &&& 31))))])) _
      refine XS.aload X300.here hx rfl (hb hby at_99) rfl rfl ?_
      refine XS.iconst X300.here hx rfl (hb hby at_101) ?_
      show Steps p.tables e below (T300.setTop (mkF m 102 #[.val (.int p0_0), .val (.int p0_1), .val (.int (3 : Int32)), .val (.int (7 : Int32)), .val (.int MM), .val (.ref b255), .val (.int RR), .val (.int ((MM + (1 : Int32)) &&& (7 : Int32))), .unset] [(.int (1 : Int32)), (.ref b255), (.int (if G0 = (0 : Int32) then (0 : Int32) else ((1 : Int32) <<< ((0 : Int32) &&& 31))))])) _
      refine st304 _ ?_
      exact k)
    have hq309 : (2 : Int32) < (3 : Int32) := by
      decide
    obtain ⟨_, _, ⟨T308, L308, k308, n308⟩, -, X308, ⟨Lc308, hQ308, l308, y308, z308⟩, st308⟩ := Jvm.LawKit.callS X304 hx (y := mn1) hown (mvT hZ (hVV 9 _ rfl)) (mvT hZ (hVV 10 _ rfl)) (mvT hZ (hVV 3 _ rfl)) (mvT hZ (hVV 11 _ rfl)) (by decide) (backOf (W := 1) (rm3_i l Z a0 hw [] b255 (2 : Int32) k255 (3 : Int32) ([(.int G0), (.int G1), (.int G2)]) G2 T293.heap n0 z296 V299 (by decide) (by rfl) hq309) hZ (hVV 11 _ rfl) (hVV 3 _ rfl) (by decide) (by decide)) (g := (mkF m 109 #[.val (.int p0_0), .val (.int p0_1), .val (.int (3 : Int32)), .val (.int (7 : Int32)), .val (.int MM), .val (.ref b255), .val (.int RR), .val (.int ((MM + (1 : Int32)) &&& (7 : Int32))), .unset] [(.int (2 : Int32)), (.ref b255), (.int ((if G0 = (0 : Int32) then (0 : Int32) else ((1 : Int32) <<< ((0 : Int32) &&& 31))) ||| (if G1 = (0 : Int32) then (0 : Int32) else ((1 : Int32) <<< ((1 : Int32) &&& 31)))))])) rfl (by rw [hml]; rfl) (argsL := [(.ref b255), (.int (2 : Int32))]) (rest := [(.int ((if G0 = (0 : Int32) then (0 : Int32) else ((1 : Int32) <<< ((0 : Int32) &&& 31))) ||| (if G1 = (0 : Int32) then (0 : Int32) else ((1 : Int32) <<< ((1 : Int32) &&& 31)))))]) (lenOf pd_2 rfl) rfl (by show 2 * 0 + _ ≤ _; exact Nat.le_of_eq rfl) (hb hby at_109) (fun _ _ => ⟨rfl, e304, (by decide : 1 + 0 ≤ _), (by decide : 3 + 0 ≤ _)⟩)
    dsimp only [Pt.U, Pt.locs, Pt.cells, Pt.slots] at X308 l308 y308 z308 st308 hQ308
    subst l308 y308 z308
    obtain ⟨rfl, N308q, e308⟩ := hQ308
    have N310 := Fr.app N306 N308q
    have pre311 : ∀ t, Steps p.tables e below (T308.setTop (mkF m 112 #[.val (.int p0_0), .val (.int p0_1), .val (.int (3 : Int32)), .val (.int (7 : Int32)), .val (.int MM), .val (.ref b255), .val (.int RR), .val (.int ((MM + (1 : Int32)) &&& (7 : Int32))), .unset] [(.int (if G2 = (0 : Int32) then (0 : Int32) else ((1 : Int32) <<< ((2 : Int32) &&& 31)))), (.int ((if G0 = (0 : Int32) then (0 : Int32) else ((1 : Int32) <<< ((0 : Int32) &&& 31))) ||| (if G1 = (0 : Int32) then (0 : Int32) else ((1 : Int32) <<< ((1 : Int32) &&& 31)))))])) t → Steps p.tables e below (s₁.setTop (entryFrame m #[(.int p0_0), (.int p0_1)] maxLocals)) t := fun t k => pre307 t (by
      show Steps p.tables e below (T304.setTop (mkF m 105 #[.val (.int p0_0), .val (.int p0_1), .val (.int (3 : Int32)), .val (.int (7 : Int32)), .val (.int MM), .val (.ref b255), .val (.int RR), .val (.int ((MM + (1 : Int32)) &&& (7 : Int32))), .unset] [(.int (if G1 = (0 : Int32) then (0 : Int32) else ((1 : Int32) <<< ((1 : Int32) &&& 31)))), (.int (if G0 = (0 : Int32) then (0 : Int32) else ((1 : Int32) <<< ((0 : Int32) &&& 31))))])) _
      refine XS.ior X304.here hx rfl (hb hby at_105) rfl ?_
      refine XS.aload X304.here hx rfl (hb hby at_106) rfl rfl ?_
      refine XS.iconst X304.here hx rfl (hb hby at_108) ?_
      show Steps p.tables e below (T304.setTop (mkF m 109 #[.val (.int p0_0), .val (.int p0_1), .val (.int (3 : Int32)), .val (.int (7 : Int32)), .val (.int MM), .val (.ref b255), .val (.int RR), .val (.int ((MM + (1 : Int32)) &&& (7 : Int32))), .unset] [(.int (2 : Int32)), (.ref b255), (.int ((if G0 = (0 : Int32) then (0 : Int32) else ((1 : Int32) <<< ((0 : Int32) &&& 31))) ||| (if G1 = (0 : Int32) then (0 : Int32) else ((1 : Int32) <<< ((1 : Int32) &&& 31)))))])) _
      refine st308 _ ?_
      exact k)
    have hq313 : ¬ ((3 : Int32) < (3 : Int32)) := by
      decide
    obtain ⟨_, _, ⟨T312, L312, k312, n312⟩, -, X312, ⟨Lc312, hQ312, l312, y312, z312⟩, st312⟩ := Jvm.LawKit.callS X308 hx (y := mn1) hown (mvT hZ (hVV 9 _ rfl)) (mvT hZ (hVV 10 _ rfl)) (mvT hZ (hVV 3 _ rfl)) (mvT hZ (hVV 11 _ rfl)) (by decide) (backOf (W := 1) (rm3_o l Z a0 hw [] b255 (3 : Int32) k255 (3 : Int32) ([(.int G0), (.int G1), (.int G2)]) T293.heap n0 z296 V299 hq313) hZ (hVV 11 _ rfl) (hVV 3 _ rfl) (by decide) (by decide)) (g := (mkF m 116 #[.val (.int p0_0), .val (.int p0_1), .val (.int (3 : Int32)), .val (.int (7 : Int32)), .val (.int MM), .val (.ref b255), .val (.int RR), .val (.int ((MM + (1 : Int32)) &&& (7 : Int32))), .unset] [(.int (3 : Int32)), (.ref b255), (.int (((if G0 = (0 : Int32) then (0 : Int32) else ((1 : Int32) <<< ((0 : Int32) &&& 31))) ||| (if G1 = (0 : Int32) then (0 : Int32) else ((1 : Int32) <<< ((1 : Int32) &&& 31)))) ||| (if G2 = (0 : Int32) then (0 : Int32) else ((1 : Int32) <<< ((2 : Int32) &&& 31)))))])) rfl (by rw [hml]; rfl) (argsL := [(.ref b255), (.int (3 : Int32))]) (rest := [(.int (((if G0 = (0 : Int32) then (0 : Int32) else ((1 : Int32) <<< ((0 : Int32) &&& 31))) ||| (if G1 = (0 : Int32) then (0 : Int32) else ((1 : Int32) <<< ((1 : Int32) &&& 31)))) ||| (if G2 = (0 : Int32) then (0 : Int32) else ((1 : Int32) <<< ((2 : Int32) &&& 31)))))]) (lenOf pd_2 rfl) rfl (by show 2 * 0 + _ ≤ _; exact Nat.le_of_eq rfl) (hb hby at_116) (fun _ _ => ⟨rfl, e308, (by decide : 1 + 0 ≤ _), (by decide : 3 + 0 ≤ _)⟩)
    dsimp only [Pt.U, Pt.locs, Pt.cells, Pt.slots] at X312 l312 y312 z312 st312 hQ312
    subst l312 y312 z312
    obtain ⟨rfl, N312q, e312⟩ := hQ312
    have N314 := Fr.app N310 N312q
    have pre315 : ∀ t, Steps p.tables e below (T312.setTop (mkF m 119 #[.val (.int p0_0), .val (.int p0_1), .val (.int (3 : Int32)), .val (.int (7 : Int32)), .val (.int MM), .val (.ref b255), .val (.int RR), .val (.int ((MM + (1 : Int32)) &&& (7 : Int32))), .unset] [(.int (0 : Int32)), (.int (((if G0 = (0 : Int32) then (0 : Int32) else ((1 : Int32) <<< ((0 : Int32) &&& 31))) ||| (if G1 = (0 : Int32) then (0 : Int32) else ((1 : Int32) <<< ((1 : Int32) &&& 31)))) ||| (if G2 = (0 : Int32) then (0 : Int32) else ((1 : Int32) <<< ((2 : Int32) &&& 31)))))])) t → Steps p.tables e below (s₁.setTop (entryFrame m #[(.int p0_0), (.int p0_1)] maxLocals)) t := fun t k => pre311 t (by
      show Steps p.tables e below (T308.setTop (mkF m 112 #[.val (.int p0_0), .val (.int p0_1), .val (.int (3 : Int32)), .val (.int (7 : Int32)), .val (.int MM), .val (.ref b255), .val (.int RR), .val (.int ((MM + (1 : Int32)) &&& (7 : Int32))), .unset] [(.int (if G2 = (0 : Int32) then (0 : Int32) else ((1 : Int32) <<< ((2 : Int32) &&& 31)))), (.int ((if G0 = (0 : Int32) then (0 : Int32) else ((1 : Int32) <<< ((0 : Int32) &&& 31))) ||| (if G1 = (0 : Int32) then (0 : Int32) else ((1 : Int32) <<< ((1 : Int32) &&& 31)))))])) _
      refine XS.ior X308.here hx rfl (hb hby at_112) rfl ?_
      refine XS.aload X308.here hx rfl (hb hby at_113) rfl rfl ?_
      refine XS.iconst X308.here hx rfl (hb hby at_115) ?_
      show Steps p.tables e below (T308.setTop (mkF m 116 #[.val (.int p0_0), .val (.int p0_1), .val (.int (3 : Int32)), .val (.int (7 : Int32)), .val (.int MM), .val (.ref b255), .val (.int RR), .val (.int ((MM + (1 : Int32)) &&& (7 : Int32))), .unset] [(.int (3 : Int32)), (.ref b255), (.int (((if G0 = (0 : Int32) then (0 : Int32) else ((1 : Int32) <<< ((0 : Int32) &&& 31))) ||| (if G1 = (0 : Int32) then (0 : Int32) else ((1 : Int32) <<< ((1 : Int32) &&& 31)))) ||| (if G2 = (0 : Int32) then (0 : Int32) else ((1 : Int32) <<< ((2 : Int32) &&& 31)))))])) _
      refine st312 _ ?_
      exact k)
    have hq317 : ¬ ((4 : Int32) < (3 : Int32)) := by
      decide
    obtain ⟨_, _, ⟨T316, L316, k316, n316⟩, -, X316, ⟨Lc316, hQ316, l316, y316, z316⟩, st316⟩ := Jvm.LawKit.callS X312 hx (y := mn1) hown (mvT hZ (hVV 9 _ rfl)) (mvT hZ (hVV 10 _ rfl)) (mvT hZ (hVV 3 _ rfl)) (mvT hZ (hVV 11 _ rfl)) (by decide) (backOf (W := 1) (rm3_o l Z a0 hw [] b255 (4 : Int32) k255 (3 : Int32) ([(.int G0), (.int G1), (.int G2)]) T293.heap n0 z296 V299 hq317) hZ (hVV 11 _ rfl) (hVV 3 _ rfl) (by decide) (by decide)) (g := (mkF m 123 #[.val (.int p0_0), .val (.int p0_1), .val (.int (3 : Int32)), .val (.int (7 : Int32)), .val (.int MM), .val (.ref b255), .val (.int RR), .val (.int ((MM + (1 : Int32)) &&& (7 : Int32))), .unset] [(.int (4 : Int32)), (.ref b255), (.int ((((if G0 = (0 : Int32) then (0 : Int32) else ((1 : Int32) <<< ((0 : Int32) &&& 31))) ||| (if G1 = (0 : Int32) then (0 : Int32) else ((1 : Int32) <<< ((1 : Int32) &&& 31)))) ||| (if G2 = (0 : Int32) then (0 : Int32) else ((1 : Int32) <<< ((2 : Int32) &&& 31)))) ||| (0 : Int32)))])) rfl (by rw [hml]; rfl) (argsL := [(.ref b255), (.int (4 : Int32))]) (rest := [(.int ((((if G0 = (0 : Int32) then (0 : Int32) else ((1 : Int32) <<< ((0 : Int32) &&& 31))) ||| (if G1 = (0 : Int32) then (0 : Int32) else ((1 : Int32) <<< ((1 : Int32) &&& 31)))) ||| (if G2 = (0 : Int32) then (0 : Int32) else ((1 : Int32) <<< ((2 : Int32) &&& 31)))) ||| (0 : Int32)))]) (lenOf pd_2 rfl) rfl (by show 2 * 0 + _ ≤ _; exact Nat.le_of_eq rfl) (hb hby at_123) (fun _ _ => ⟨rfl, e312, (by decide : 1 + 0 ≤ _), (by decide : 3 + 0 ≤ _)⟩)
    dsimp only [Pt.U, Pt.locs, Pt.cells, Pt.slots] at X316 l316 y316 z316 st316 hQ316
    subst l316 y316 z316
    obtain ⟨rfl, N316q, e316⟩ := hQ316
    have N318 := Fr.app N314 N316q
    have pre319 : ∀ t, Steps p.tables e below (T316.setTop (mkF m 126 #[.val (.int p0_0), .val (.int p0_1), .val (.int (3 : Int32)), .val (.int (7 : Int32)), .val (.int MM), .val (.ref b255), .val (.int RR), .val (.int ((MM + (1 : Int32)) &&& (7 : Int32))), .unset] [(.int (0 : Int32)), (.int ((((if G0 = (0 : Int32) then (0 : Int32) else ((1 : Int32) <<< ((0 : Int32) &&& 31))) ||| (if G1 = (0 : Int32) then (0 : Int32) else ((1 : Int32) <<< ((1 : Int32) &&& 31)))) ||| (if G2 = (0 : Int32) then (0 : Int32) else ((1 : Int32) <<< ((2 : Int32) &&& 31)))) ||| (0 : Int32)))])) t → Steps p.tables e below (s₁.setTop (entryFrame m #[(.int p0_0), (.int p0_1)] maxLocals)) t := fun t k => pre315 t (by
      show Steps p.tables e below (T312.setTop (mkF m 119 #[.val (.int p0_0), .val (.int p0_1), .val (.int (3 : Int32)), .val (.int (7 : Int32)), .val (.int MM), .val (.ref b255), .val (.int RR), .val (.int ((MM + (1 : Int32)) &&& (7 : Int32))), .unset] [(.int (0 : Int32)), (.int (((if G0 = (0 : Int32) then (0 : Int32) else ((1 : Int32) <<< ((0 : Int32) &&& 31))) ||| (if G1 = (0 : Int32) then (0 : Int32) else ((1 : Int32) <<< ((1 : Int32) &&& 31)))) ||| (if G2 = (0 : Int32) then (0 : Int32) else ((1 : Int32) <<< ((2 : Int32) &&& 31)))))])) _
      refine XS.ior X312.here hx rfl (hb hby at_119) rfl ?_
      refine XS.aload X312.here hx rfl (hb hby at_120) rfl rfl ?_
      refine XS.iconst X312.here hx rfl (hb hby at_122) ?_
      show Steps p.tables e below (T312.setTop (mkF m 123 #[.val (.int p0_0), .val (.int p0_1), .val (.int (3 : Int32)), .val (.int (7 : Int32)), .val (.int MM), .val (.ref b255), .val (.int RR), .val (.int ((MM + (1 : Int32)) &&& (7 : Int32))), .unset] [(.int (4 : Int32)), (.ref b255), (.int ((((if G0 = (0 : Int32) then (0 : Int32) else ((1 : Int32) <<< ((0 : Int32) &&& 31))) ||| (if G1 = (0 : Int32) then (0 : Int32) else ((1 : Int32) <<< ((1 : Int32) &&& 31)))) ||| (if G2 = (0 : Int32) then (0 : Int32) else ((1 : Int32) <<< ((2 : Int32) &&& 31)))) ||| (0 : Int32)))])) _
      refine st316 _ ?_
      exact k)
    have hq321 : ¬ ((5 : Int32) < (3 : Int32)) := by
      decide
    obtain ⟨_, _, ⟨T320, L320, k320, n320⟩, -, X320, ⟨Lc320, hQ320, l320, y320, z320⟩, st320⟩ := Jvm.LawKit.callS X316 hx (y := mn1) hown (mvT hZ (hVV 9 _ rfl)) (mvT hZ (hVV 10 _ rfl)) (mvT hZ (hVV 3 _ rfl)) (mvT hZ (hVV 11 _ rfl)) (by decide) (backOf (W := 1) (rm3_o l Z a0 hw [] b255 (5 : Int32) k255 (3 : Int32) ([(.int G0), (.int G1), (.int G2)]) T293.heap n0 z296 V299 hq321) hZ (hVV 11 _ rfl) (hVV 3 _ rfl) (by decide) (by decide)) (g := (mkF m 130 #[.val (.int p0_0), .val (.int p0_1), .val (.int (3 : Int32)), .val (.int (7 : Int32)), .val (.int MM), .val (.ref b255), .val (.int RR), .val (.int ((MM + (1 : Int32)) &&& (7 : Int32))), .unset] [(.int (5 : Int32)), (.ref b255), (.int (((((if G0 = (0 : Int32) then (0 : Int32) else ((1 : Int32) <<< ((0 : Int32) &&& 31))) ||| (if G1 = (0 : Int32) then (0 : Int32) else ((1 : Int32) <<< ((1 : Int32) &&& 31)))) ||| (if G2 = (0 : Int32) then (0 : Int32) else ((1 : Int32) <<< ((2 : Int32) &&& 31)))) ||| (0 : Int32)) ||| (0 : Int32)))])) rfl (by rw [hml]; rfl) (argsL := [(.ref b255), (.int (5 : Int32))]) (rest := [(.int (((((if G0 = (0 : Int32) then (0 : Int32) else ((1 : Int32) <<< ((0 : Int32) &&& 31))) ||| (if G1 = (0 : Int32) then (0 : Int32) else ((1 : Int32) <<< ((1 : Int32) &&& 31)))) ||| (if G2 = (0 : Int32) then (0 : Int32) else ((1 : Int32) <<< ((2 : Int32) &&& 31)))) ||| (0 : Int32)) ||| (0 : Int32)))]) (lenOf pd_2 rfl) rfl (by show 2 * 0 + _ ≤ _; exact Nat.le_of_eq rfl) (hb hby at_130) (fun _ _ => ⟨rfl, e316, (by decide : 1 + 0 ≤ _), (by decide : 3 + 0 ≤ _)⟩)
    dsimp only [Pt.U, Pt.locs, Pt.cells, Pt.slots] at X320 l320 y320 z320 st320 hQ320
    subst l320 y320 z320
    obtain ⟨rfl, N320q, e320⟩ := hQ320
    have N322 := Fr.app N318 N320q
    have pre323 : ∀ t, Steps p.tables e below (T320.setTop (mkF m 133 #[.val (.int p0_0), .val (.int p0_1), .val (.int (3 : Int32)), .val (.int (7 : Int32)), .val (.int MM), .val (.ref b255), .val (.int RR), .val (.int ((MM + (1 : Int32)) &&& (7 : Int32))), .unset] [(.int (0 : Int32)), (.int (((((if G0 = (0 : Int32) then (0 : Int32) else ((1 : Int32) <<< ((0 : Int32) &&& 31))) ||| (if G1 = (0 : Int32) then (0 : Int32) else ((1 : Int32) <<< ((1 : Int32) &&& 31)))) ||| (if G2 = (0 : Int32) then (0 : Int32) else ((1 : Int32) <<< ((2 : Int32) &&& 31)))) ||| (0 : Int32)) ||| (0 : Int32)))])) t → Steps p.tables e below (s₁.setTop (entryFrame m #[(.int p0_0), (.int p0_1)] maxLocals)) t := fun t k => pre319 t (by
      show Steps p.tables e below (T316.setTop (mkF m 126 #[.val (.int p0_0), .val (.int p0_1), .val (.int (3 : Int32)), .val (.int (7 : Int32)), .val (.int MM), .val (.ref b255), .val (.int RR), .val (.int ((MM + (1 : Int32)) &&& (7 : Int32))), .unset] [(.int (0 : Int32)), (.int ((((if G0 = (0 : Int32) then (0 : Int32) else ((1 : Int32) <<< ((0 : Int32) &&& 31))) ||| (if G1 = (0 : Int32) then (0 : Int32) else ((1 : Int32) <<< ((1 : Int32) &&& 31)))) ||| (if G2 = (0 : Int32) then (0 : Int32) else ((1 : Int32) <<< ((2 : Int32) &&& 31)))) ||| (0 : Int32)))])) _
      refine XS.ior X316.here hx rfl (hb hby at_126) rfl ?_
      refine XS.aload X316.here hx rfl (hb hby at_127) rfl rfl ?_
      refine XS.iconst X316.here hx rfl (hb hby at_129) ?_
      show Steps p.tables e below (T316.setTop (mkF m 130 #[.val (.int p0_0), .val (.int p0_1), .val (.int (3 : Int32)), .val (.int (7 : Int32)), .val (.int MM), .val (.ref b255), .val (.int RR), .val (.int ((MM + (1 : Int32)) &&& (7 : Int32))), .unset] [(.int (5 : Int32)), (.ref b255), (.int (((((if G0 = (0 : Int32) then (0 : Int32) else ((1 : Int32) <<< ((0 : Int32) &&& 31))) ||| (if G1 = (0 : Int32) then (0 : Int32) else ((1 : Int32) <<< ((1 : Int32) &&& 31)))) ||| (if G2 = (0 : Int32) then (0 : Int32) else ((1 : Int32) <<< ((2 : Int32) &&& 31)))) ||| (0 : Int32)) ||| (0 : Int32)))])) _
      refine st320 _ ?_
      exact k)
    have hq325 : ¬ ((6 : Int32) < (3 : Int32)) := by
      decide
    obtain ⟨_, _, ⟨T324, L324, k324, n324⟩, -, X324, ⟨Lc324, hQ324, l324, y324, z324⟩, st324⟩ := Jvm.LawKit.callS X320 hx (y := mn1) hown (mvT hZ (hVV 9 _ rfl)) (mvT hZ (hVV 10 _ rfl)) (mvT hZ (hVV 3 _ rfl)) (mvT hZ (hVV 11 _ rfl)) (by decide) (backOf (W := 1) (rm3_o l Z a0 hw [] b255 (6 : Int32) k255 (3 : Int32) ([(.int G0), (.int G1), (.int G2)]) T293.heap n0 z296 V299 hq325) hZ (hVV 11 _ rfl) (hVV 3 _ rfl) (by decide) (by decide)) (g := (mkF m 138 #[.val (.int p0_0), .val (.int p0_1), .val (.int (3 : Int32)), .val (.int (7 : Int32)), .val (.int MM), .val (.ref b255), .val (.int RR), .val (.int ((MM + (1 : Int32)) &&& (7 : Int32))), .unset] [(.int (6 : Int32)), (.ref b255), (.int ((((((if G0 = (0 : Int32) then (0 : Int32) else ((1 : Int32) <<< ((0 : Int32) &&& 31))) ||| (if G1 = (0 : Int32) then (0 : Int32) else ((1 : Int32) <<< ((1 : Int32) &&& 31)))) ||| (if G2 = (0 : Int32) then (0 : Int32) else ((1 : Int32) <<< ((2 : Int32) &&& 31)))) ||| (0 : Int32)) ||| (0 : Int32)) ||| (0 : Int32)))])) rfl (by rw [hml]; rfl) (argsL := [(.ref b255), (.int (6 : Int32))]) (rest := [(.int ((((((if G0 = (0 : Int32) then (0 : Int32) else ((1 : Int32) <<< ((0 : Int32) &&& 31))) ||| (if G1 = (0 : Int32) then (0 : Int32) else ((1 : Int32) <<< ((1 : Int32) &&& 31)))) ||| (if G2 = (0 : Int32) then (0 : Int32) else ((1 : Int32) <<< ((2 : Int32) &&& 31)))) ||| (0 : Int32)) ||| (0 : Int32)) ||| (0 : Int32)))]) (lenOf pd_2 rfl) rfl (by show 2 * 0 + _ ≤ _; exact Nat.le_of_eq rfl) (hb hby at_138) (fun _ _ => ⟨rfl, e320, (by decide : 1 + 0 ≤ _), (by decide : 3 + 0 ≤ _)⟩)
    dsimp only [Pt.U, Pt.locs, Pt.cells, Pt.slots] at X324 l324 y324 z324 st324 hQ324
    subst l324 y324 z324
    obtain ⟨rfl, N324q, e324⟩ := hQ324
    have N326 := Fr.app N322 N324q
    have pre327 : ∀ t, Steps p.tables e below (T324.setTop (mkF m 141 #[.val (.int p0_0), .val (.int p0_1), .val (.int (3 : Int32)), .val (.int (7 : Int32)), .val (.int MM), .val (.ref b255), .val (.int RR), .val (.int ((MM + (1 : Int32)) &&& (7 : Int32))), .unset] [(.int (0 : Int32)), (.int ((((((if G0 = (0 : Int32) then (0 : Int32) else ((1 : Int32) <<< ((0 : Int32) &&& 31))) ||| (if G1 = (0 : Int32) then (0 : Int32) else ((1 : Int32) <<< ((1 : Int32) &&& 31)))) ||| (if G2 = (0 : Int32) then (0 : Int32) else ((1 : Int32) <<< ((2 : Int32) &&& 31)))) ||| (0 : Int32)) ||| (0 : Int32)) ||| (0 : Int32)))])) t → Steps p.tables e below (s₁.setTop (entryFrame m #[(.int p0_0), (.int p0_1)] maxLocals)) t := fun t k => pre323 t (by
      show Steps p.tables e below (T320.setTop (mkF m 133 #[.val (.int p0_0), .val (.int p0_1), .val (.int (3 : Int32)), .val (.int (7 : Int32)), .val (.int MM), .val (.ref b255), .val (.int RR), .val (.int ((MM + (1 : Int32)) &&& (7 : Int32))), .unset] [(.int (0 : Int32)), (.int (((((if G0 = (0 : Int32) then (0 : Int32) else ((1 : Int32) <<< ((0 : Int32) &&& 31))) ||| (if G1 = (0 : Int32) then (0 : Int32) else ((1 : Int32) <<< ((1 : Int32) &&& 31)))) ||| (if G2 = (0 : Int32) then (0 : Int32) else ((1 : Int32) <<< ((2 : Int32) &&& 31)))) ||| (0 : Int32)) ||| (0 : Int32)))])) _
      refine XS.ior X320.here hx rfl (hb hby at_133) rfl ?_
      refine XS.aload X320.here hx rfl (hb hby at_134) rfl rfl ?_
      refine XS.bipush X320.here hx rfl (hb hby at_136) ?_
      show Steps p.tables e below (T320.setTop (mkF m 138 #[.val (.int p0_0), .val (.int p0_1), .val (.int (3 : Int32)), .val (.int (7 : Int32)), .val (.int MM), .val (.ref b255), .val (.int RR), .val (.int ((MM + (1 : Int32)) &&& (7 : Int32))), .unset] [(.int (6 : Int32)), (.ref b255), (.int ((((((if G0 = (0 : Int32) then (0 : Int32) else ((1 : Int32) <<< ((0 : Int32) &&& 31))) ||| (if G1 = (0 : Int32) then (0 : Int32) else ((1 : Int32) <<< ((1 : Int32) &&& 31)))) ||| (if G2 = (0 : Int32) then (0 : Int32) else ((1 : Int32) <<< ((2 : Int32) &&& 31)))) ||| (0 : Int32)) ||| (0 : Int32)) ||| (0 : Int32)))])) _
      refine st324 _ ?_
      exact k)
    obtain ⟨cl328, Ar328, q328, S328, N328, H328, G328⟩ := id V299
    have pre330 : ∀ t, Steps p.tables e below (T324.setTop (mkF m 156 #[.val (.int p0_0), .val (.int p0_1), .val (.int (3 : Int32)), .val (.int (7 : Int32)), .val (.int MM), .val (.ref b255), .val (.int RR), .val (.int ((MM + (1 : Int32)) &&& (7 : Int32))), .val (.int (((((((if G0 = (0 : Int32) then (0 : Int32) else ((1 : Int32) <<< ((0 : Int32) &&& 31))) ||| (if G1 = (0 : Int32) then (0 : Int32) else ((1 : Int32) <<< ((1 : Int32) &&& 31)))) ||| (if G2 = (0 : Int32) then (0 : Int32) else ((1 : Int32) <<< ((2 : Int32) &&& 31)))) ||| (0 : Int32)) ||| (0 : Int32)) ||| (0 : Int32)) ||| (0 : Int32)))] [(.int (7 : Int32)), (.int MM), (.int RR)])) t → Steps p.tables e below (s₁.setTop (entryFrame m #[(.int p0_0), (.int p0_1)] maxLocals)) t := fun t k => pre327 t (by
      show Steps p.tables e below (T324.setTop (mkF m 141 #[.val (.int p0_0), .val (.int p0_1), .val (.int (3 : Int32)), .val (.int (7 : Int32)), .val (.int MM), .val (.ref b255), .val (.int RR), .val (.int ((MM + (1 : Int32)) &&& (7 : Int32))), .unset] [(.int (0 : Int32)), (.int ((((((if G0 = (0 : Int32) then (0 : Int32) else ((1 : Int32) <<< ((0 : Int32) &&& 31))) ||| (if G1 = (0 : Int32) then (0 : Int32) else ((1 : Int32) <<< ((1 : Int32) &&& 31)))) ||| (if G2 = (0 : Int32) then (0 : Int32) else ((1 : Int32) <<< ((2 : Int32) &&& 31)))) ||| (0 : Int32)) ||| (0 : Int32)) ||| (0 : Int32)))])) _
      refine XS.ior X324.here hx rfl (hb hby at_141) rfl ?_
      show Steps p.tables e below (T324.setTop (mkF m 142 #[.val (.int p0_0), .val (.int p0_1), .val (.int (3 : Int32)), .val (.int (7 : Int32)), .val (.int MM), .val (.ref b255), .val (.int RR), .val (.int ((MM + (1 : Int32)) &&& (7 : Int32))), .unset] [(.int (((((((if G0 = (0 : Int32) then (0 : Int32) else ((1 : Int32) <<< ((0 : Int32) &&& 31))) ||| (if G1 = (0 : Int32) then (0 : Int32) else ((1 : Int32) <<< ((1 : Int32) &&& 31)))) ||| (if G2 = (0 : Int32) then (0 : Int32) else ((1 : Int32) <<< ((2 : Int32) &&& 31)))) ||| (0 : Int32)) ||| (0 : Int32)) ||| (0 : Int32)) ||| (0 : Int32)))])) _
      refine XS.istore X324.here hx rfl (hb hby at_142) rfl (l' := #[.val (.int p0_0), .val (.int p0_1), .val (.int (3 : Int32)), .val (.int (7 : Int32)), .val (.int MM), .val (.ref b255), .val (.int RR), .val (.int ((MM + (1 : Int32)) &&& (7 : Int32))), .val (.int (((((((if G0 = (0 : Int32) then (0 : Int32) else ((1 : Int32) <<< ((0 : Int32) &&& 31))) ||| (if G1 = (0 : Int32) then (0 : Int32) else ((1 : Int32) <<< ((1 : Int32) &&& 31)))) ||| (if G2 = (0 : Int32) then (0 : Int32) else ((1 : Int32) <<< ((2 : Int32) &&& 31)))) ||| (0 : Int32)) ||| (0 : Int32)) ||| (0 : Int32)) ||| (0 : Int32)))]) rfl ?_
      show Steps p.tables e below (T324.setTop (mkF m 144 #[.val (.int p0_0), .val (.int p0_1), .val (.int (3 : Int32)), .val (.int (7 : Int32)), .val (.int MM), .val (.ref b255), .val (.int RR), .val (.int ((MM + (1 : Int32)) &&& (7 : Int32))), .val (.int (((((((if G0 = (0 : Int32) then (0 : Int32) else ((1 : Int32) <<< ((0 : Int32) &&& 31))) ||| (if G1 = (0 : Int32) then (0 : Int32) else ((1 : Int32) <<< ((1 : Int32) &&& 31)))) ||| (if G2 = (0 : Int32) then (0 : Int32) else ((1 : Int32) <<< ((2 : Int32) &&& 31)))) ||| (0 : Int32)) ||| (0 : Int32)) ||| (0 : Int32)) ||| (0 : Int32)))] [])) _
      refine XS.aload X324.here hx rfl (hb hby at_144) rfl rfl ?_
      show Steps p.tables e below (T324.setTop (mkF m 146 #[.val (.int p0_0), .val (.int p0_1), .val (.int (3 : Int32)), .val (.int (7 : Int32)), .val (.int MM), .val (.ref b255), .val (.int RR), .val (.int ((MM + (1 : Int32)) &&& (7 : Int32))), .val (.int (((((((if G0 = (0 : Int32) then (0 : Int32) else ((1 : Int32) <<< ((0 : Int32) &&& 31))) ||| (if G1 = (0 : Int32) then (0 : Int32) else ((1 : Int32) <<< ((1 : Int32) &&& 31)))) ||| (if G2 = (0 : Int32) then (0 : Int32) else ((1 : Int32) <<< ((2 : Int32) &&& 31)))) ||| (0 : Int32)) ||| (0 : Int32)) ||| (0 : Int32)) ||| (0 : Int32)))] [(.ref b255)])) _
      refine X324.arraylength hx (by rw [e324]; exact Ar328.1) (State.isArrayOf_alike hZ.alike Ar328.2.1) (g := (mkF m 146 #[.val (.int p0_0), .val (.int p0_1), .val (.int (3 : Int32)), .val (.int (7 : Int32)), .val (.int MM), .val (.ref b255), .val (.int RR), .val (.int ((MM + (1 : Int32)) &&& (7 : Int32))), .val (.int (((((((if G0 = (0 : Int32) then (0 : Int32) else ((1 : Int32) <<< ((0 : Int32) &&& 31))) ||| (if G1 = (0 : Int32) then (0 : Int32) else ((1 : Int32) <<< ((1 : Int32) &&& 31)))) ||| (if G2 = (0 : Int32) then (0 : Int32) else ((1 : Int32) <<< ((2 : Int32) &&& 31)))) ||| (0 : Int32)) ||| (0 : Int32)) ||| (0 : Int32)) ||| (0 : Int32)))] [(.ref b255)])) rfl rfl (hb hby at_146) _ ?_
      rw [len_of S328 N328]
      show Steps p.tables e below (T324.setTop (mkF m 147 #[.val (.int p0_0), .val (.int p0_1), .val (.int (3 : Int32)), .val (.int (7 : Int32)), .val (.int MM), .val (.ref b255), .val (.int RR), .val (.int ((MM + (1 : Int32)) &&& (7 : Int32))), .val (.int (((((((if G0 = (0 : Int32) then (0 : Int32) else ((1 : Int32) <<< ((0 : Int32) &&& 31))) ||| (if G1 = (0 : Int32) then (0 : Int32) else ((1 : Int32) <<< ((1 : Int32) &&& 31)))) ||| (if G2 = (0 : Int32) then (0 : Int32) else ((1 : Int32) <<< ((2 : Int32) &&& 31)))) ||| (0 : Int32)) ||| (0 : Int32)) ||| (0 : Int32)) ||| (0 : Int32)))] [(.int (3 : Int32))])) _
      refine XS.iloadN X324.here hx rfl (hb hby at_147) rfl ?_
      show Steps p.tables e below (T324.setTop (mkF m 148 #[.val (.int p0_0), .val (.int p0_1), .val (.int (3 : Int32)), .val (.int (7 : Int32)), .val (.int MM), .val (.ref b255), .val (.int RR), .val (.int ((MM + (1 : Int32)) &&& (7 : Int32))), .val (.int (((((((if G0 = (0 : Int32) then (0 : Int32) else ((1 : Int32) <<< ((0 : Int32) &&& 31))) ||| (if G1 = (0 : Int32) then (0 : Int32) else ((1 : Int32) <<< ((1 : Int32) &&& 31)))) ||| (if G2 = (0 : Int32) then (0 : Int32) else ((1 : Int32) <<< ((2 : Int32) &&& 31)))) ||| (0 : Int32)) ||| (0 : Int32)) ||| (0 : Int32)) ||| (0 : Int32)))] [(.int (3 : Int32)), (.int (3 : Int32))])) _
      refine XS.icmpNo X324.here hx rfl (hb hby at_148) rfl (teq (by decide : (3 : Int32) = (3 : Int32))).2 ?_
      show Steps p.tables e below (T324.setTop (mkF m 151 #[.val (.int p0_0), .val (.int p0_1), .val (.int (3 : Int32)), .val (.int (7 : Int32)), .val (.int MM), .val (.ref b255), .val (.int RR), .val (.int ((MM + (1 : Int32)) &&& (7 : Int32))), .val (.int (((((((if G0 = (0 : Int32) then (0 : Int32) else ((1 : Int32) <<< ((0 : Int32) &&& 31))) ||| (if G1 = (0 : Int32) then (0 : Int32) else ((1 : Int32) <<< ((1 : Int32) &&& 31)))) ||| (if G2 = (0 : Int32) then (0 : Int32) else ((1 : Int32) <<< ((2 : Int32) &&& 31)))) ||| (0 : Int32)) ||| (0 : Int32)) ||| (0 : Int32)) ||| (0 : Int32)))] [])) _
      refine XS.iload X324.here hx rfl (hb hby at_151) rfl ?_
      refine XS.iload X324.here hx rfl (hb hby at_153) rfl ?_
      refine XS.iloadN X324.here hx rfl (hb hby at_155) rfl ?_
      exact k)
    have pre331 : ∀ t, Steps p.tables e below (T324.setTop (mkF m 164 #[.val (.int p0_0), .val (.int p0_1), .val (.int (3 : Int32)), .val (.int (7 : Int32)), .val (.int MM), .val (.ref b255), .val (.int RR), .val (.int ((MM + (1 : Int32)) &&& (7 : Int32))), .val (.int (((((((if G0 = (0 : Int32) then (0 : Int32) else ((1 : Int32) <<< ((0 : Int32) &&& 31))) ||| (if G1 = (0 : Int32) then (0 : Int32) else ((1 : Int32) <<< ((1 : Int32) &&& 31)))) ||| (if G2 = (0 : Int32) then (0 : Int32) else ((1 : Int32) <<< ((2 : Int32) &&& 31)))) ||| (0 : Int32)) ||| (0 : Int32)) ||| (0 : Int32)) ||| (0 : Int32)))] [(.int (bI (¬ (MM = (7 : Int32))))), (.int RR)])) t → Steps p.tables e below (s₁.setTop (entryFrame m #[(.int p0_0), (.int p0_1)] maxLocals)) t := fun t k => pre330 t (by
      by_cases hc329 : MM = (7 : Int32)
      · show Steps p.tables e below (T324.setTop (mkF m 156 #[.val (.int p0_0), .val (.int p0_1), .val (.int (3 : Int32)), .val (.int (7 : Int32)), .val (.int MM), .val (.ref b255), .val (.int RR), .val (.int ((MM + (1 : Int32)) &&& (7 : Int32))), .val (.int (((((((if G0 = (0 : Int32) then (0 : Int32) else ((1 : Int32) <<< ((0 : Int32) &&& 31))) ||| (if G1 = (0 : Int32) then (0 : Int32) else ((1 : Int32) <<< ((1 : Int32) &&& 31)))) ||| (if G2 = (0 : Int32) then (0 : Int32) else ((1 : Int32) <<< ((2 : Int32) &&& 31)))) ||| (0 : Int32)) ||| (0 : Int32)) ||| (0 : Int32)) ||| (0 : Int32)))] [(.int (7 : Int32)), (.int MM), (.int RR)])) _
        refine XS.icmpYes X324.here hx rfl (pc0 := 156) (pc' := 163) rfl (hb hby at_156) rfl (teq hc329).1 (by decide) (by decide) ?_
        show Steps p.tables e below (T324.setTop (mkF m 163 #[.val (.int p0_0), .val (.int p0_1), .val (.int (3 : Int32)), .val (.int (7 : Int32)), .val (.int MM), .val (.ref b255), .val (.int RR), .val (.int ((MM + (1 : Int32)) &&& (7 : Int32))), .val (.int (((((((if G0 = (0 : Int32) then (0 : Int32) else ((1 : Int32) <<< ((0 : Int32) &&& 31))) ||| (if G1 = (0 : Int32) then (0 : Int32) else ((1 : Int32) <<< ((1 : Int32) &&& 31)))) ||| (if G2 = (0 : Int32) then (0 : Int32) else ((1 : Int32) <<< ((2 : Int32) &&& 31)))) ||| (0 : Int32)) ||| (0 : Int32)) ||| (0 : Int32)) ||| (0 : Int32)))] [(.int RR)])) _
        refine XS.iconst X324.here hx rfl (hb hby at_163) ?_
        have q332 : (bI (¬ (MM = (7 : Int32)))) = (0 : Int32) := (bI_f (fun q => q hc329))
        exact castTop (g := (mkF m 164 #[.val (.int p0_0), .val (.int p0_1), .val (.int (3 : Int32)), .val (.int (7 : Int32)), .val (.int MM), .val (.ref b255), .val (.int RR), .val (.int ((MM + (1 : Int32)) &&& (7 : Int32))), .val (.int (((((((if G0 = (0 : Int32) then (0 : Int32) else ((1 : Int32) <<< ((0 : Int32) &&& 31))) ||| (if G1 = (0 : Int32) then (0 : Int32) else ((1 : Int32) <<< ((1 : Int32) &&& 31)))) ||| (if G2 = (0 : Int32) then (0 : Int32) else ((1 : Int32) <<< ((2 : Int32) &&& 31)))) ||| (0 : Int32)) ||| (0 : Int32)) ||| (0 : Int32)) ||| (0 : Int32)))] [(.int (0 : Int32)), (.int RR)])) (g' := (mkF m 164 #[.val (.int p0_0), .val (.int p0_1), .val (.int (3 : Int32)), .val (.int (7 : Int32)), .val (.int MM), .val (.ref b255), .val (.int RR), .val (.int ((MM + (1 : Int32)) &&& (7 : Int32))), .val (.int (((((((if G0 = (0 : Int32) then (0 : Int32) else ((1 : Int32) <<< ((0 : Int32) &&& 31))) ||| (if G1 = (0 : Int32) then (0 : Int32) else ((1 : Int32) <<< ((1 : Int32) &&& 31)))) ||| (if G2 = (0 : Int32) then (0 : Int32) else ((1 : Int32) <<< ((2 : Int32) &&& 31)))) ||| (0 : Int32)) ||| (0 : Int32)) ||| (0 : Int32)) ||| (0 : Int32)))] [(.int (bI (¬ (MM = (7 : Int32))))), (.int RR)])) (by simp only [q332]) k
      · show Steps p.tables e below (T324.setTop (mkF m 156 #[.val (.int p0_0), .val (.int p0_1), .val (.int (3 : Int32)), .val (.int (7 : Int32)), .val (.int MM), .val (.ref b255), .val (.int RR), .val (.int ((MM + (1 : Int32)) &&& (7 : Int32))), .val (.int (((((((if G0 = (0 : Int32) then (0 : Int32) else ((1 : Int32) <<< ((0 : Int32) &&& 31))) ||| (if G1 = (0 : Int32) then (0 : Int32) else ((1 : Int32) <<< ((1 : Int32) &&& 31)))) ||| (if G2 = (0 : Int32) then (0 : Int32) else ((1 : Int32) <<< ((2 : Int32) &&& 31)))) ||| (0 : Int32)) ||| (0 : Int32)) ||| (0 : Int32)) ||| (0 : Int32)))] [(.int (7 : Int32)), (.int MM), (.int RR)])) _
        refine XS.icmpNo X324.here hx rfl (hb hby at_156) rfl (feq hc329).1 ?_
        show Steps p.tables e below (T324.setTop (mkF m 159 #[.val (.int p0_0), .val (.int p0_1), .val (.int (3 : Int32)), .val (.int (7 : Int32)), .val (.int MM), .val (.ref b255), .val (.int RR), .val (.int ((MM + (1 : Int32)) &&& (7 : Int32))), .val (.int (((((((if G0 = (0 : Int32) then (0 : Int32) else ((1 : Int32) <<< ((0 : Int32) &&& 31))) ||| (if G1 = (0 : Int32) then (0 : Int32) else ((1 : Int32) <<< ((1 : Int32) &&& 31)))) ||| (if G2 = (0 : Int32) then (0 : Int32) else ((1 : Int32) <<< ((2 : Int32) &&& 31)))) ||| (0 : Int32)) ||| (0 : Int32)) ||| (0 : Int32)) ||| (0 : Int32)))] [(.int RR)])) _
        refine XS.iconst X324.here hx rfl (hb hby at_159) ?_
        show Steps p.tables e below (T324.setTop (mkF m 160 #[.val (.int p0_0), .val (.int p0_1), .val (.int (3 : Int32)), .val (.int (7 : Int32)), .val (.int MM), .val (.ref b255), .val (.int RR), .val (.int ((MM + (1 : Int32)) &&& (7 : Int32))), .val (.int (((((((if G0 = (0 : Int32) then (0 : Int32) else ((1 : Int32) <<< ((0 : Int32) &&& 31))) ||| (if G1 = (0 : Int32) then (0 : Int32) else ((1 : Int32) <<< ((1 : Int32) &&& 31)))) ||| (if G2 = (0 : Int32) then (0 : Int32) else ((1 : Int32) <<< ((2 : Int32) &&& 31)))) ||| (0 : Int32)) ||| (0 : Int32)) ||| (0 : Int32)) ||| (0 : Int32)))] [(.int (1 : Int32)), (.int RR)])) _
        refine XS.goto X324.here hx rfl (pc0 := 160) (pc' := 164) rfl (hb hby at_160) (by decide) (by decide) ?_
        have q333 : (bI (¬ (MM = (7 : Int32)))) = (1 : Int32) := (bI_t hc329)
        exact castTop (g := (mkF m 164 #[.val (.int p0_0), .val (.int p0_1), .val (.int (3 : Int32)), .val (.int (7 : Int32)), .val (.int MM), .val (.ref b255), .val (.int RR), .val (.int ((MM + (1 : Int32)) &&& (7 : Int32))), .val (.int (((((((if G0 = (0 : Int32) then (0 : Int32) else ((1 : Int32) <<< ((0 : Int32) &&& 31))) ||| (if G1 = (0 : Int32) then (0 : Int32) else ((1 : Int32) <<< ((1 : Int32) &&& 31)))) ||| (if G2 = (0 : Int32) then (0 : Int32) else ((1 : Int32) <<< ((2 : Int32) &&& 31)))) ||| (0 : Int32)) ||| (0 : Int32)) ||| (0 : Int32)) ||| (0 : Int32)))] [(.int (1 : Int32)), (.int RR)])) (g' := (mkF m 164 #[.val (.int p0_0), .val (.int p0_1), .val (.int (3 : Int32)), .val (.int (7 : Int32)), .val (.int MM), .val (.ref b255), .val (.int RR), .val (.int ((MM + (1 : Int32)) &&& (7 : Int32))), .val (.int (((((((if G0 = (0 : Int32) then (0 : Int32) else ((1 : Int32) <<< ((0 : Int32) &&& 31))) ||| (if G1 = (0 : Int32) then (0 : Int32) else ((1 : Int32) <<< ((1 : Int32) &&& 31)))) ||| (if G2 = (0 : Int32) then (0 : Int32) else ((1 : Int32) <<< ((2 : Int32) &&& 31)))) ||| (0 : Int32)) ||| (0 : Int32)) ||| (0 : Int32)) ||| (0 : Int32)))] [(.int (bI (¬ (MM = (7 : Int32))))), (.int RR)])) (by simp only [q333]) k)
    have hd334 : RR = (bI (¬ (MM = (7 : Int32)))) := by
      rw [hRR]
      exact own_fin (P := fun y : Int32 => (bI (((own_b y (0 : Int32)) = (0 : Int32)) ∨ (((own_b y (1 : Int32)) = (0 : Int32)) ∨ ((own_b y (2 : Int32)) = (0 : Int32))))) = (bI (¬ (y = (7 : Int32))))) own_r_3 MM hM.1 hM.2
    have hd335 : (((((((if G0 = (0 : Int32) then (0 : Int32) else ((1 : Int32) <<< ((0 : Int32) &&& 31))) ||| (if G1 = (0 : Int32) then (0 : Int32) else ((1 : Int32) <<< ((1 : Int32) &&& 31)))) ||| (if G2 = (0 : Int32) then (0 : Int32) else ((1 : Int32) <<< ((2 : Int32) &&& 31)))) ||| (0 : Int32)) ||| (0 : Int32)) ||| (0 : Int32)) ||| (0 : Int32)) = ((MM + (1 : Int32)) &&& (7 : Int32)) := by
      rw [hG0, hG1, hG2]
      exact own_fin (P := fun y : Int32 => (((((((if (bI ((own_b y (0 : Int32)) = (0 : Int32))) = (0 : Int32) then (0 : Int32) else ((1 : Int32) <<< ((0 : Int32) &&& 31))) ||| (if (if (own_b y (0 : Int32)) = (0 : Int32) then (own_b y (1 : Int32)) else (bI ((own_b y (1 : Int32)) = (0 : Int32)))) = (0 : Int32) then (0 : Int32) else ((1 : Int32) <<< ((1 : Int32) &&& 31)))) ||| (if (if (own_b y (0 : Int32)) = (0 : Int32) then (own_b y (2 : Int32)) else (if (own_b y (1 : Int32)) = (0 : Int32) then (own_b y (2 : Int32)) else (bI ((own_b y (2 : Int32)) = (0 : Int32))))) = (0 : Int32) then (0 : Int32) else ((1 : Int32) <<< ((2 : Int32) &&& 31)))) ||| (0 : Int32)) ||| (0 : Int32)) ||| (0 : Int32)) ||| (0 : Int32)) = ((y + (1 : Int32)) &&& (7 : Int32))) own_g_3 MM hM.1 hM.2
    obtain ⟨fs, hr, hrun, hended, hW, hsame⟩ := X324.leave (v := some (.int (1 : Int32))) (fun h => by rw [Bd.returns] at h; cases h)
    refine ⟨_, _, pre331 _ ?_, hrun, hended, _, _, rfl, ?_, ⟨_, rfl⟩, hW, hsame.mono (by decide) (by decide)⟩
    · show Steps p.tables e below (T324.setTop (mkF m 164 #[.val (.int p0_0), .val (.int p0_1), .val (.int (3 : Int32)), .val (.int (7 : Int32)), .val (.int MM), .val (.ref b255), .val (.int RR), .val (.int ((MM + (1 : Int32)) &&& (7 : Int32))), .val (.int (((((((if G0 = (0 : Int32) then (0 : Int32) else ((1 : Int32) <<< ((0 : Int32) &&& 31))) ||| (if G1 = (0 : Int32) then (0 : Int32) else ((1 : Int32) <<< ((1 : Int32) &&& 31)))) ||| (if G2 = (0 : Int32) then (0 : Int32) else ((1 : Int32) <<< ((2 : Int32) &&& 31)))) ||| (0 : Int32)) ||| (0 : Int32)) ||| (0 : Int32)) ||| (0 : Int32)))] [(.int (bI (¬ (MM = (7 : Int32))))), (.int RR)])) _
      refine XS.icmpNo X324.here hx rfl (hb hby at_164) rfl (teq hd334).2 ?_
      show Steps p.tables e below (T324.setTop (mkF m 167 #[.val (.int p0_0), .val (.int p0_1), .val (.int (3 : Int32)), .val (.int (7 : Int32)), .val (.int MM), .val (.ref b255), .val (.int RR), .val (.int ((MM + (1 : Int32)) &&& (7 : Int32))), .val (.int (((((((if G0 = (0 : Int32) then (0 : Int32) else ((1 : Int32) <<< ((0 : Int32) &&& 31))) ||| (if G1 = (0 : Int32) then (0 : Int32) else ((1 : Int32) <<< ((1 : Int32) &&& 31)))) ||| (if G2 = (0 : Int32) then (0 : Int32) else ((1 : Int32) <<< ((2 : Int32) &&& 31)))) ||| (0 : Int32)) ||| (0 : Int32)) ||| (0 : Int32)) ||| (0 : Int32)))] [])) _
      refine XS.iload X324.here hx rfl (hb hby at_167) rfl ?_
      refine XS.iload X324.here hx rfl (hb hby at_169) rfl ?_
      show Steps p.tables e below (T324.setTop (mkF m 171 #[.val (.int p0_0), .val (.int p0_1), .val (.int (3 : Int32)), .val (.int (7 : Int32)), .val (.int MM), .val (.ref b255), .val (.int RR), .val (.int ((MM + (1 : Int32)) &&& (7 : Int32))), .val (.int (((((((if G0 = (0 : Int32) then (0 : Int32) else ((1 : Int32) <<< ((0 : Int32) &&& 31))) ||| (if G1 = (0 : Int32) then (0 : Int32) else ((1 : Int32) <<< ((1 : Int32) &&& 31)))) ||| (if G2 = (0 : Int32) then (0 : Int32) else ((1 : Int32) <<< ((2 : Int32) &&& 31)))) ||| (0 : Int32)) ||| (0 : Int32)) ||| (0 : Int32)) ||| (0 : Int32)))] [(.int ((MM + (1 : Int32)) &&& (7 : Int32))), (.int (((((((if G0 = (0 : Int32) then (0 : Int32) else ((1 : Int32) <<< ((0 : Int32) &&& 31))) ||| (if G1 = (0 : Int32) then (0 : Int32) else ((1 : Int32) <<< ((1 : Int32) &&& 31)))) ||| (if G2 = (0 : Int32) then (0 : Int32) else ((1 : Int32) <<< ((2 : Int32) &&& 31)))) ||| (0 : Int32)) ||| (0 : Int32)) ||| (0 : Int32)) ||| (0 : Int32)))])) _
      refine XS.icmpNo X324.here hx rfl (hb hby at_171) rfl (teq hd335).2 ?_
      show Steps p.tables e below (T324.setTop (mkF m 174 #[.val (.int p0_0), .val (.int p0_1), .val (.int (3 : Int32)), .val (.int (7 : Int32)), .val (.int MM), .val (.ref b255), .val (.int RR), .val (.int ((MM + (1 : Int32)) &&& (7 : Int32))), .val (.int (((((((if G0 = (0 : Int32) then (0 : Int32) else ((1 : Int32) <<< ((0 : Int32) &&& 31))) ||| (if G1 = (0 : Int32) then (0 : Int32) else ((1 : Int32) <<< ((1 : Int32) &&& 31)))) ||| (if G2 = (0 : Int32) then (0 : Int32) else ((1 : Int32) <<< ((2 : Int32) &&& 31)))) ||| (0 : Int32)) ||| (0 : Int32)) ||| (0 : Int32)) ||| (0 : Int32)))] [])) _
      refine XS.iconst X324.here hx rfl (hb hby at_174) ?_
      refine XS.goto X324.here hx rfl (pc0 := 175) (pc' := 179) rfl (hb hby at_175) (by decide) (by decide) ?_
      show Steps p.tables e below (T324.setTop (mkF m 179 #[.val (.int p0_0), .val (.int p0_1), .val (.int (3 : Int32)), .val (.int (7 : Int32)), .val (.int MM), .val (.ref b255), .val (.int RR), .val (.int ((MM + (1 : Int32)) &&& (7 : Int32))), .val (.int (((((((if G0 = (0 : Int32) then (0 : Int32) else ((1 : Int32) <<< ((0 : Int32) &&& 31))) ||| (if G1 = (0 : Int32) then (0 : Int32) else ((1 : Int32) <<< ((1 : Int32) &&& 31)))) ||| (if G2 = (0 : Int32) then (0 : Int32) else ((1 : Int32) <<< ((2 : Int32) &&& 31)))) ||| (0 : Int32)) ||| (0 : Int32)) ||| (0 : Int32)) ||| (0 : Int32)))] [(.int (1 : Int32))])) _
      exact retN X324 hx (t := .boolean) Bd.returns (by simp) (hb hby at_179) hr
    · show Q0 Z p0_0 p0_1 h0 n0 _ T324.heap _
      rw [e324]
      exact ⟨rfl, N326⟩
  · have pre336 : ∀ t, Steps p.tables e below (s₁.setTop (mkF m 5 #[.val (.int p0_0), .val (.int p0_1), .val (.int (4 : Int32)), .unset, .unset, .unset, .unset, .unset, .unset] [])) t → Steps p.tables e below (s₁.setTop (entryFrame m #[(.int p0_0), (.int p0_1)] maxLocals)) t := fun t k => pre1 t (castTop (by rw [hk]) k)
    have pre337 : ∀ t, Steps p.tables e below (s₁.setTop (mkF m 11 #[.val (.int p0_0), .val (.int p0_1), .val (.int (4 : Int32)), .val (.int (((1 : Int32) <<< ((4 : Int32) &&& 31)) - (1 : Int32))), .unset, .unset, .unset, .unset, .unset] [])) t → Steps p.tables e below (s₁.setTop (entryFrame m #[(.int p0_0), (.int p0_1)] maxLocals)) t := fun t k => pre336 t (by
      show Steps p.tables e below (s₁.setTop (mkF m 5 #[.val (.int p0_0), .val (.int p0_1), .val (.int (4 : Int32)), .unset, .unset, .unset, .unset, .unset, .unset] [])) _
      refine XS.iconst X0.here hx rfl (hb hby at_5) ?_
      refine XS.iloadN X0.here hx rfl (hb hby at_6) rfl ?_
      show Steps p.tables e below (s₁.setTop (mkF m 7 #[.val (.int p0_0), .val (.int p0_1), .val (.int (4 : Int32)), .unset, .unset, .unset, .unset, .unset, .unset] [(.int (4 : Int32)), (.int (1 : Int32))])) _
      refine XS.ishl X0.here hx rfl (hb hby at_7) rfl ?_
      show Steps p.tables e below (s₁.setTop (mkF m 8 #[.val (.int p0_0), .val (.int p0_1), .val (.int (4 : Int32)), .unset, .unset, .unset, .unset, .unset, .unset] [(.int ((1 : Int32) <<< ((4 : Int32) &&& 31)))])) _
      refine XS.iconst X0.here hx rfl (hb hby at_8) ?_
      refine XS.isub X0.here hx rfl (hb hby at_9) rfl ?_
      show Steps p.tables e below (s₁.setTop (mkF m 10 #[.val (.int p0_0), .val (.int p0_1), .val (.int (4 : Int32)), .unset, .unset, .unset, .unset, .unset, .unset] [(.int (((1 : Int32) <<< ((4 : Int32) &&& 31)) - (1 : Int32)))])) _
      refine XS.istoreN X0.here hx rfl (hb hby at_10) rfl (l' := #[.val (.int p0_0), .val (.int p0_1), .val (.int (4 : Int32)), .val (.int (((1 : Int32) <<< ((4 : Int32) &&& 31)) - (1 : Int32))), .unset, .unset, .unset, .unset, .unset]) rfl ?_
      exact k)
    have hl338 : (((1 : Int32) <<< ((4 : Int32) &&& 31)) - (1 : Int32)) = (15 : Int32) := by
      decide
    have pre339 : ∀ t, Steps p.tables e below (s₁.setTop (mkF m 11 #[.val (.int p0_0), .val (.int p0_1), .val (.int (4 : Int32)), .val (.int (15 : Int32)), .unset, .unset, .unset, .unset, .unset] [])) t → Steps p.tables e below (s₁.setTop (entryFrame m #[(.int p0_0), (.int p0_1)] maxLocals)) t := fun t k => pre337 t (castTop (by rw [hl338]) k)
    have pre340 : ∀ t, Steps p.tables e below (s₁.setTop (mkF m 16 #[.val (.int p0_0), .val (.int p0_1), .val (.int (4 : Int32)), .val (.int (15 : Int32)), .val (.int (p0_1 &&& (15 : Int32))), .unset, .unset, .unset, .unset] [])) t → Steps p.tables e below (s₁.setTop (entryFrame m #[(.int p0_0), (.int p0_1)] maxLocals)) t := fun t k => pre339 t (by
      show Steps p.tables e below (s₁.setTop (mkF m 11 #[.val (.int p0_0), .val (.int p0_1), .val (.int (4 : Int32)), .val (.int (15 : Int32)), .unset, .unset, .unset, .unset, .unset] [])) _
      refine XS.iloadN X0.here hx rfl (hb hby at_11) rfl ?_
      refine XS.iloadN X0.here hx rfl (hb hby at_12) rfl ?_
      refine XS.iand X0.here hx rfl (hb hby at_13) rfl ?_
      show Steps p.tables e below (s₁.setTop (mkF m 14 #[.val (.int p0_0), .val (.int p0_1), .val (.int (4 : Int32)), .val (.int (15 : Int32)), .unset, .unset, .unset, .unset, .unset] [(.int (p0_1 &&& (15 : Int32)))])) _
      refine XS.istore X0.here hx rfl (hb hby at_14) rfl (l' := #[.val (.int p0_0), .val (.int p0_1), .val (.int (4 : Int32)), .val (.int (15 : Int32)), .val (.int (p0_1 &&& (15 : Int32))), .unset, .unset, .unset, .unset]) rfl ?_
      exact k)
    obtain ⟨MM, hMM⟩ : ∃ z : Int32, z = (p0_1 &&& (15 : Int32)) := ⟨_, rfl⟩
    have pre341 : ∀ t, Steps p.tables e below (s₁.setTop (mkF m 16 #[.val (.int p0_0), .val (.int p0_1), .val (.int (4 : Int32)), .val (.int (15 : Int32)), .val (.int MM), .unset, .unset, .unset, .unset] [])) t → Steps p.tables e below (s₁.setTop (entryFrame m #[(.int p0_0), (.int p0_1)] maxLocals)) t := fun t k => pre340 t (castTop (by rw [hMM]) k)
    have hM : 0 ≤ MM.toInt ∧ MM.toInt < (16 : Nat) := by
      rw [hMM]
      have e := c_mask p0_1 (15 : Int32) 4 (by decide) (by decide)
      omega
    obtain ⟨T342, h342, k342, X342, e342, E342, A342, st342⟩ := newP X0 hx hZ (hVV 0 _ rfl) e0 (g := (mkF m 17 #[.val (.int p0_0), .val (.int p0_1), .val (.int (4 : Int32)), .val (.int (15 : Int32)), .val (.int MM), .unset, .unset, .unset, .unset] [(.int (4 : Int32))])) rfl (hb hby at_17) rfl (by decide) (cap := 4) (by decide) (by decide) (by decide) (by decide)
    obtain ⟨b342, g342⟩ : ∃ z, z = h0.size := ⟨_, rfl⟩
    rw [← g342] at A342 st342
    have gz342 : n0 ≤ b342 := Nat.le_trans Z0 (Nat.le_of_eq g342.symm)
    have pre343 : ∀ t, Steps p.tables e below (T342.setTop (mkF m 19 #[.val (.int p0_0), .val (.int p0_1), .val (.int (4 : Int32)), .val (.int (15 : Int32)), .val (.int MM), .unset, .unset, .unset, .unset] [(.ref b342)])) t → Steps p.tables e below (s₁.setTop (entryFrame m #[(.int p0_0), (.int p0_1)] maxLocals)) t := fun t k => pre341 t (by
      show Steps p.tables e below (s₁.setTop (mkF m 16 #[.val (.int p0_0), .val (.int p0_1), .val (.int (4 : Int32)), .val (.int (15 : Int32)), .val (.int MM), .unset, .unset, .unset, .unset] [])) _
      refine XS.iloadN X0.here hx rfl (hb hby at_16) rfl ?_
      show Steps p.tables e below (s₁.setTop (mkF m 17 #[.val (.int p0_0), .val (.int p0_1), .val (.int (4 : Int32)), .val (.int (15 : Int32)), .val (.int MM), .unset, .unset, .unset, .unset] [(.int (4 : Int32))])) _
      refine st342 _ ?_
      exact k)
    have z344 := Nat.le_trans Z0 E342.1
    have V345 : Arv Z h342 b342 k342 .boolean (4 : Int32) [(.int (0 : Int32)), (.int (0 : Int32)), (.int (0 : Int32)), (.int (0 : Int32))] (.int (0 : Int32)) := (Arv.new A342 (by decide)).pad (pad_rep [] (.int (0 : Int32)) 4)
    have hq347 : (0 : Int32) < (4 : Int32) := by
      decide
    obtain ⟨_, _, ⟨T346, L346, k346, n346⟩, -, X346, ⟨Lc346, hQ346, l346, y346, z346⟩, st346⟩ := Jvm.LawKit.callS X342 hx (y := mn0) hown (mvT hZ (hVV 1 _ rfl)) (mvT hZ (hVV 2 _ rfl)) (mvT hZ (hVV 3 _ rfl)) (mvT hZ (hVV 4 _ rfl)) (by decide) (backOf (W := 0) (rm1_i l Z a0 hw [] b342 (0 : Int32) MM k342 (4 : Int32) ([(.int (0 : Int32)), (.int (0 : Int32)), (.int (0 : Int32)), (.int (0 : Int32))]) h342 n0 z344 V345 (by decide) (Nat.le_of_ble_eq_true rfl) hq347 gz342) hZ (hVV 4 _ rfl) (hVV 3 _ rfl) (by decide) (by decide)) (g := (mkF m 26 #[.val (.int p0_0), .val (.int p0_1), .val (.int (4 : Int32)), .val (.int (15 : Int32)), .val (.int MM), .val (.ref b342), .unset, .unset, .unset] [(.int MM), (.int (0 : Int32)), (.ref b342)])) rfl (by rw [hml]; rfl) (argsL := [(.ref b342), (.int (0 : Int32)), (.int MM)]) (rest := []) (lenOf pd_0 rfl) rfl (by show 2 * 0 + _ ≤ _; exact Nat.le_of_eq rfl) (hb hby at_26) (fun _ _ => ⟨rfl, e342, (by decide : 1 + 0 ≤ _), (by decide : 4 + 0 ≤ _)⟩)
    dsimp only [Pt.U, Pt.locs, Pt.cells, Pt.slots] at X346 l346 y346 z346 st346 hQ346
    subst l346 y346 z346
    obtain ⟨rfl, N346q, K346, r346_0⟩ := hQ346
    have N348 := Fr.app N0 N346q
    have pre349 : ∀ t, Steps p.tables e below (T346.setTop (mkF m 29 #[.val (.int p0_0), .val (.int p0_1), .val (.int (4 : Int32)), .val (.int (15 : Int32)), .val (.int MM), .val (.ref b342), .unset, .unset, .unset] [])) t → Steps p.tables e below (s₁.setTop (entryFrame m #[(.int p0_0), (.int p0_1)] maxLocals)) t := fun t k => pre343 t (by
      show Steps p.tables e below (T342.setTop (mkF m 19 #[.val (.int p0_0), .val (.int p0_1), .val (.int (4 : Int32)), .val (.int (15 : Int32)), .val (.int MM), .unset, .unset, .unset, .unset] [(.ref b342)])) _
      refine XS.astore X342.here hx rfl (hb hby at_19) rfl rfl (l' := #[.val (.int p0_0), .val (.int p0_1), .val (.int (4 : Int32)), .val (.int (15 : Int32)), .val (.int MM), .val (.ref b342), .unset, .unset, .unset]) rfl ?_
      show Steps p.tables e below (T342.setTop (mkF m 21 #[.val (.int p0_0), .val (.int p0_1), .val (.int (4 : Int32)), .val (.int (15 : Int32)), .val (.int MM), .val (.ref b342), .unset, .unset, .unset] [])) _
      refine XS.aload X342.here hx rfl (hb hby at_21) rfl rfl ?_
      refine XS.iconst X342.here hx rfl (hb hby at_23) ?_
      refine XS.iload X342.here hx rfl (hb hby at_24) rfl ?_
      show Steps p.tables e below (T342.setTop (mkF m 26 #[.val (.int p0_0), .val (.int p0_1), .val (.int (4 : Int32)), .val (.int (15 : Int32)), .val (.int MM), .val (.ref b342), .unset, .unset, .unset] [(.int MM), (.int (0 : Int32)), (.ref b342)])) _
      refine st346 _ ?_
      exact k)
    have z350 := Nat.le_trans z344 K346.1
    have V351 : Arv Z T346.heap b342 k342 .boolean (4 : Int32) [(.int (own_b MM (0 : Int32))), (.int (0 : Int32)), (.int (0 : Int32)), (.int (0 : Int32))] (.int (0 : Int32)) := r346_0
    have hq353 : (1 : Int32) < (4 : Int32) := by
      decide
    obtain ⟨_, _, ⟨T352, L352, k352, n352⟩, -, X352, ⟨Lc352, hQ352, l352, y352, z352⟩, st352⟩ := Jvm.LawKit.callS X346 hx (y := mn0) hown (mvT hZ (hVV 1 _ rfl)) (mvT hZ (hVV 2 _ rfl)) (mvT hZ (hVV 3 _ rfl)) (mvT hZ (hVV 4 _ rfl)) (by decide) (backOf (W := 0) (rm1_i l Z a0 hw [] b342 (1 : Int32) MM k342 (4 : Int32) ([(.int (own_b MM (0 : Int32))), (.int (0 : Int32)), (.int (0 : Int32)), (.int (0 : Int32))]) T346.heap n0 z350 V351 (by decide) (Nat.le_of_ble_eq_true rfl) hq353 gz342) hZ (hVV 4 _ rfl) (hVV 3 _ rfl) (by decide) (by decide)) (g := (mkF m 34 #[.val (.int p0_0), .val (.int p0_1), .val (.int (4 : Int32)), .val (.int (15 : Int32)), .val (.int MM), .val (.ref b342), .unset, .unset, .unset] [(.int MM), (.int (1 : Int32)), (.ref b342)])) rfl (by rw [hml]; rfl) (argsL := [(.ref b342), (.int (1 : Int32)), (.int MM)]) (rest := []) (lenOf pd_0 rfl) rfl (by show 2 * 0 + _ ≤ _; exact Nat.le_of_eq rfl) (hb hby at_34) (fun _ _ => ⟨rfl, rfl, (by decide : 1 + 0 ≤ _), (by decide : 4 + 0 ≤ _)⟩)
    dsimp only [Pt.U, Pt.locs, Pt.cells, Pt.slots] at X352 l352 y352 z352 st352 hQ352
    subst l352 y352 z352
    obtain ⟨rfl, N352q, K352, r352_0⟩ := hQ352
    have N354 := Fr.app N348 N352q
    have pre355 : ∀ t, Steps p.tables e below (T352.setTop (mkF m 37 #[.val (.int p0_0), .val (.int p0_1), .val (.int (4 : Int32)), .val (.int (15 : Int32)), .val (.int MM), .val (.ref b342), .unset, .unset, .unset] [])) t → Steps p.tables e below (s₁.setTop (entryFrame m #[(.int p0_0), (.int p0_1)] maxLocals)) t := fun t k => pre349 t (by
      show Steps p.tables e below (T346.setTop (mkF m 29 #[.val (.int p0_0), .val (.int p0_1), .val (.int (4 : Int32)), .val (.int (15 : Int32)), .val (.int MM), .val (.ref b342), .unset, .unset, .unset] [])) _
      refine XS.aload X346.here hx rfl (hb hby at_29) rfl rfl ?_
      refine XS.iconst X346.here hx rfl (hb hby at_31) ?_
      refine XS.iload X346.here hx rfl (hb hby at_32) rfl ?_
      show Steps p.tables e below (T346.setTop (mkF m 34 #[.val (.int p0_0), .val (.int p0_1), .val (.int (4 : Int32)), .val (.int (15 : Int32)), .val (.int MM), .val (.ref b342), .unset, .unset, .unset] [(.int MM), (.int (1 : Int32)), (.ref b342)])) _
      refine st352 _ ?_
      exact k)
    have z356 := Nat.le_trans z350 K352.1
    have V357 : Arv Z T352.heap b342 k342 .boolean (4 : Int32) [(.int (own_b MM (0 : Int32))), (.int (own_b MM (1 : Int32))), (.int (0 : Int32)), (.int (0 : Int32))] (.int (0 : Int32)) := r352_0
    have hq359 : (2 : Int32) < (4 : Int32) := by
      decide
    obtain ⟨_, _, ⟨T358, L358, k358, n358⟩, -, X358, ⟨Lc358, hQ358, l358, y358, z358⟩, st358⟩ := Jvm.LawKit.callS X352 hx (y := mn0) hown (mvT hZ (hVV 1 _ rfl)) (mvT hZ (hVV 2 _ rfl)) (mvT hZ (hVV 3 _ rfl)) (mvT hZ (hVV 4 _ rfl)) (by decide) (backOf (W := 0) (rm1_i l Z a0 hw [] b342 (2 : Int32) MM k342 (4 : Int32) ([(.int (own_b MM (0 : Int32))), (.int (own_b MM (1 : Int32))), (.int (0 : Int32)), (.int (0 : Int32))]) T352.heap n0 z356 V357 (by decide) (Nat.le_of_ble_eq_true rfl) hq359 gz342) hZ (hVV 4 _ rfl) (hVV 3 _ rfl) (by decide) (by decide)) (g := (mkF m 42 #[.val (.int p0_0), .val (.int p0_1), .val (.int (4 : Int32)), .val (.int (15 : Int32)), .val (.int MM), .val (.ref b342), .unset, .unset, .unset] [(.int MM), (.int (2 : Int32)), (.ref b342)])) rfl (by rw [hml]; rfl) (argsL := [(.ref b342), (.int (2 : Int32)), (.int MM)]) (rest := []) (lenOf pd_0 rfl) rfl (by show 2 * 0 + _ ≤ _; exact Nat.le_of_eq rfl) (hb hby at_42) (fun _ _ => ⟨rfl, rfl, (by decide : 1 + 0 ≤ _), (by decide : 4 + 0 ≤ _)⟩)
    dsimp only [Pt.U, Pt.locs, Pt.cells, Pt.slots] at X358 l358 y358 z358 st358 hQ358
    subst l358 y358 z358
    obtain ⟨rfl, N358q, K358, r358_0⟩ := hQ358
    have N360 := Fr.app N354 N358q
    have pre361 : ∀ t, Steps p.tables e below (T358.setTop (mkF m 45 #[.val (.int p0_0), .val (.int p0_1), .val (.int (4 : Int32)), .val (.int (15 : Int32)), .val (.int MM), .val (.ref b342), .unset, .unset, .unset] [])) t → Steps p.tables e below (s₁.setTop (entryFrame m #[(.int p0_0), (.int p0_1)] maxLocals)) t := fun t k => pre355 t (by
      show Steps p.tables e below (T352.setTop (mkF m 37 #[.val (.int p0_0), .val (.int p0_1), .val (.int (4 : Int32)), .val (.int (15 : Int32)), .val (.int MM), .val (.ref b342), .unset, .unset, .unset] [])) _
      refine XS.aload X352.here hx rfl (hb hby at_37) rfl rfl ?_
      refine XS.iconst X352.here hx rfl (hb hby at_39) ?_
      refine XS.iload X352.here hx rfl (hb hby at_40) rfl ?_
      show Steps p.tables e below (T352.setTop (mkF m 42 #[.val (.int p0_0), .val (.int p0_1), .val (.int (4 : Int32)), .val (.int (15 : Int32)), .val (.int MM), .val (.ref b342), .unset, .unset, .unset] [(.int MM), (.int (2 : Int32)), (.ref b342)])) _
      refine st358 _ ?_
      exact k)
    have z362 := Nat.le_trans z356 K358.1
    have V363 : Arv Z T358.heap b342 k342 .boolean (4 : Int32) [(.int (own_b MM (0 : Int32))), (.int (own_b MM (1 : Int32))), (.int (own_b MM (2 : Int32))), (.int (0 : Int32))] (.int (0 : Int32)) := r358_0
    have hq365 : (3 : Int32) < (4 : Int32) := by
      decide
    obtain ⟨_, _, ⟨T364, L364, k364, n364⟩, -, X364, ⟨Lc364, hQ364, l364, y364, z364⟩, st364⟩ := Jvm.LawKit.callS X358 hx (y := mn0) hown (mvT hZ (hVV 1 _ rfl)) (mvT hZ (hVV 2 _ rfl)) (mvT hZ (hVV 3 _ rfl)) (mvT hZ (hVV 4 _ rfl)) (by decide) (backOf (W := 0) (rm1_i l Z a0 hw [] b342 (3 : Int32) MM k342 (4 : Int32) ([(.int (own_b MM (0 : Int32))), (.int (own_b MM (1 : Int32))), (.int (own_b MM (2 : Int32))), (.int (0 : Int32))]) T358.heap n0 z362 V363 (by decide) (Nat.le_of_ble_eq_true rfl) hq365 gz342) hZ (hVV 4 _ rfl) (hVV 3 _ rfl) (by decide) (by decide)) (g := (mkF m 50 #[.val (.int p0_0), .val (.int p0_1), .val (.int (4 : Int32)), .val (.int (15 : Int32)), .val (.int MM), .val (.ref b342), .unset, .unset, .unset] [(.int MM), (.int (3 : Int32)), (.ref b342)])) rfl (by rw [hml]; rfl) (argsL := [(.ref b342), (.int (3 : Int32)), (.int MM)]) (rest := []) (lenOf pd_0 rfl) rfl (by show 2 * 0 + _ ≤ _; exact Nat.le_of_eq rfl) (hb hby at_50) (fun _ _ => ⟨rfl, rfl, (by decide : 1 + 0 ≤ _), (by decide : 4 + 0 ≤ _)⟩)
    dsimp only [Pt.U, Pt.locs, Pt.cells, Pt.slots] at X364 l364 y364 z364 st364 hQ364
    subst l364 y364 z364
    obtain ⟨rfl, N364q, K364, r364_0⟩ := hQ364
    have N366 := Fr.app N360 N364q
    have pre367 : ∀ t, Steps p.tables e below (T364.setTop (mkF m 53 #[.val (.int p0_0), .val (.int p0_1), .val (.int (4 : Int32)), .val (.int (15 : Int32)), .val (.int MM), .val (.ref b342), .unset, .unset, .unset] [])) t → Steps p.tables e below (s₁.setTop (entryFrame m #[(.int p0_0), (.int p0_1)] maxLocals)) t := fun t k => pre361 t (by
      show Steps p.tables e below (T358.setTop (mkF m 45 #[.val (.int p0_0), .val (.int p0_1), .val (.int (4 : Int32)), .val (.int (15 : Int32)), .val (.int MM), .val (.ref b342), .unset, .unset, .unset] [])) _
      refine XS.aload X358.here hx rfl (hb hby at_45) rfl rfl ?_
      refine XS.iconst X358.here hx rfl (hb hby at_47) ?_
      refine XS.iload X358.here hx rfl (hb hby at_48) rfl ?_
      show Steps p.tables e below (T358.setTop (mkF m 50 #[.val (.int p0_0), .val (.int p0_1), .val (.int (4 : Int32)), .val (.int (15 : Int32)), .val (.int MM), .val (.ref b342), .unset, .unset, .unset] [(.int MM), (.int (3 : Int32)), (.ref b342)])) _
      refine st364 _ ?_
      exact k)
    have z368 := Nat.le_trans z362 K364.1
    have V369 : Arv Z T364.heap b342 k342 .boolean (4 : Int32) [(.int (own_b MM (0 : Int32))), (.int (own_b MM (1 : Int32))), (.int (own_b MM (2 : Int32))), (.int (own_b MM (3 : Int32)))] (.int (0 : Int32)) := r364_0
    have hq371 : ¬ ((4 : Int32) < (4 : Int32)) := by
      decide
    obtain ⟨_, _, ⟨T370, L370, k370, n370⟩, -, X370, ⟨Lc370, hQ370, l370, y370, z370⟩, st370⟩ := Jvm.LawKit.callS X364 hx (y := mn0) hown (mvT hZ (hVV 1 _ rfl)) (mvT hZ (hVV 2 _ rfl)) (mvT hZ (hVV 3 _ rfl)) (mvT hZ (hVV 4 _ rfl)) (by decide) (backOf (W := 0) (rm1_o l Z a0 hw [] b342 (4 : Int32) MM k342 (4 : Int32) ([(.int (own_b MM (0 : Int32))), (.int (own_b MM (1 : Int32))), (.int (own_b MM (2 : Int32))), (.int (own_b MM (3 : Int32)))]) T364.heap n0 z368 V369 hq371) hZ (hVV 4 _ rfl) (hVV 3 _ rfl) (by decide) (by decide)) (g := (mkF m 58 #[.val (.int p0_0), .val (.int p0_1), .val (.int (4 : Int32)), .val (.int (15 : Int32)), .val (.int MM), .val (.ref b342), .unset, .unset, .unset] [(.int MM), (.int (4 : Int32)), (.ref b342)])) rfl (by rw [hml]; rfl) (argsL := [(.ref b342), (.int (4 : Int32)), (.int MM)]) (rest := []) (lenOf pd_0 rfl) rfl (by show 2 * 0 + _ ≤ _; exact Nat.le_of_eq rfl) (hb hby at_58) (fun _ _ => ⟨rfl, rfl, (by decide : 1 + 0 ≤ _), (by decide : 4 + 0 ≤ _)⟩)
    dsimp only [Pt.U, Pt.locs, Pt.cells, Pt.slots] at X370 l370 y370 z370 st370 hQ370
    subst l370 y370 z370
    obtain ⟨rfl, N370q, e370⟩ := hQ370
    have N372 := Fr.app N366 N370q
    have pre373 : ∀ t, Steps p.tables e below (T370.setTop (mkF m 61 #[.val (.int p0_0), .val (.int p0_1), .val (.int (4 : Int32)), .val (.int (15 : Int32)), .val (.int MM), .val (.ref b342), .unset, .unset, .unset] [])) t → Steps p.tables e below (s₁.setTop (entryFrame m #[(.int p0_0), (.int p0_1)] maxLocals)) t := fun t k => pre367 t (by
      show Steps p.tables e below (T364.setTop (mkF m 53 #[.val (.int p0_0), .val (.int p0_1), .val (.int (4 : Int32)), .val (.int (15 : Int32)), .val (.int MM), .val (.ref b342), .unset, .unset, .unset] [])) _
      refine XS.aload X364.here hx rfl (hb hby at_53) rfl rfl ?_
      refine XS.iconst X364.here hx rfl (hb hby at_55) ?_
      refine XS.iload X364.here hx rfl (hb hby at_56) rfl ?_
      show Steps p.tables e below (T364.setTop (mkF m 58 #[.val (.int p0_0), .val (.int p0_1), .val (.int (4 : Int32)), .val (.int (15 : Int32)), .val (.int MM), .val (.ref b342), .unset, .unset, .unset] [(.int MM), (.int (4 : Int32)), (.ref b342)])) _
      refine st370 _ ?_
      exact k)
    have hq375 : ¬ ((5 : Int32) < (4 : Int32)) := by
      decide
    obtain ⟨_, _, ⟨T374, L374, k374, n374⟩, -, X374, ⟨Lc374, hQ374, l374, y374, z374⟩, st374⟩ := Jvm.LawKit.callS X370 hx (y := mn0) hown (mvT hZ (hVV 1 _ rfl)) (mvT hZ (hVV 2 _ rfl)) (mvT hZ (hVV 3 _ rfl)) (mvT hZ (hVV 4 _ rfl)) (by decide) (backOf (W := 0) (rm1_o l Z a0 hw [] b342 (5 : Int32) MM k342 (4 : Int32) ([(.int (own_b MM (0 : Int32))), (.int (own_b MM (1 : Int32))), (.int (own_b MM (2 : Int32))), (.int (own_b MM (3 : Int32)))]) T364.heap n0 z368 V369 hq375) hZ (hVV 4 _ rfl) (hVV 3 _ rfl) (by decide) (by decide)) (g := (mkF m 66 #[.val (.int p0_0), .val (.int p0_1), .val (.int (4 : Int32)), .val (.int (15 : Int32)), .val (.int MM), .val (.ref b342), .unset, .unset, .unset] [(.int MM), (.int (5 : Int32)), (.ref b342)])) rfl (by rw [hml]; rfl) (argsL := [(.ref b342), (.int (5 : Int32)), (.int MM)]) (rest := []) (lenOf pd_0 rfl) rfl (by show 2 * 0 + _ ≤ _; exact Nat.le_of_eq rfl) (hb hby at_66) (fun _ _ => ⟨rfl, e370, (by decide : 1 + 0 ≤ _), (by decide : 4 + 0 ≤ _)⟩)
    dsimp only [Pt.U, Pt.locs, Pt.cells, Pt.slots] at X374 l374 y374 z374 st374 hQ374
    subst l374 y374 z374
    obtain ⟨rfl, N374q, e374⟩ := hQ374
    have N376 := Fr.app N372 N374q
    have pre377 : ∀ t, Steps p.tables e below (T374.setTop (mkF m 69 #[.val (.int p0_0), .val (.int p0_1), .val (.int (4 : Int32)), .val (.int (15 : Int32)), .val (.int MM), .val (.ref b342), .unset, .unset, .unset] [])) t → Steps p.tables e below (s₁.setTop (entryFrame m #[(.int p0_0), (.int p0_1)] maxLocals)) t := fun t k => pre373 t (by
      show Steps p.tables e below (T370.setTop (mkF m 61 #[.val (.int p0_0), .val (.int p0_1), .val (.int (4 : Int32)), .val (.int (15 : Int32)), .val (.int MM), .val (.ref b342), .unset, .unset, .unset] [])) _
      refine XS.aload X370.here hx rfl (hb hby at_61) rfl rfl ?_
      refine XS.iconst X370.here hx rfl (hb hby at_63) ?_
      refine XS.iload X370.here hx rfl (hb hby at_64) rfl ?_
      show Steps p.tables e below (T370.setTop (mkF m 66 #[.val (.int p0_0), .val (.int p0_1), .val (.int (4 : Int32)), .val (.int (15 : Int32)), .val (.int MM), .val (.ref b342), .unset, .unset, .unset] [(.int MM), (.int (5 : Int32)), (.ref b342)])) _
      refine st374 _ ?_
      exact k)
    have hq379 : ¬ ((6 : Int32) < (4 : Int32)) := by
      decide
    obtain ⟨_, _, ⟨T378, L378, k378, n378⟩, -, X378, ⟨Lc378, hQ378, l378, y378, z378⟩, st378⟩ := Jvm.LawKit.callS X374 hx (y := mn0) hown (mvT hZ (hVV 1 _ rfl)) (mvT hZ (hVV 2 _ rfl)) (mvT hZ (hVV 3 _ rfl)) (mvT hZ (hVV 4 _ rfl)) (by decide) (backOf (W := 0) (rm1_o l Z a0 hw [] b342 (6 : Int32) MM k342 (4 : Int32) ([(.int (own_b MM (0 : Int32))), (.int (own_b MM (1 : Int32))), (.int (own_b MM (2 : Int32))), (.int (own_b MM (3 : Int32)))]) T364.heap n0 z368 V369 hq379) hZ (hVV 4 _ rfl) (hVV 3 _ rfl) (by decide) (by decide)) (g := (mkF m 75 #[.val (.int p0_0), .val (.int p0_1), .val (.int (4 : Int32)), .val (.int (15 : Int32)), .val (.int MM), .val (.ref b342), .unset, .unset, .unset] [(.int MM), (.int (6 : Int32)), (.ref b342)])) rfl (by rw [hml]; rfl) (argsL := [(.ref b342), (.int (6 : Int32)), (.int MM)]) (rest := []) (lenOf pd_0 rfl) rfl (by show 2 * 0 + _ ≤ _; exact Nat.le_of_eq rfl) (hb hby at_75) (fun _ _ => ⟨rfl, e374, (by decide : 1 + 0 ≤ _), (by decide : 4 + 0 ≤ _)⟩)
    dsimp only [Pt.U, Pt.locs, Pt.cells, Pt.slots] at X378 l378 y378 z378 st378 hQ378
    subst l378 y378 z378
    obtain ⟨rfl, N378q, e378⟩ := hQ378
    have N380 := Fr.app N376 N378q
    have pre381 : ∀ t, Steps p.tables e below (T378.setTop (mkF m 78 #[.val (.int p0_0), .val (.int p0_1), .val (.int (4 : Int32)), .val (.int (15 : Int32)), .val (.int MM), .val (.ref b342), .unset, .unset, .unset] [])) t → Steps p.tables e below (s₁.setTop (entryFrame m #[(.int p0_0), (.int p0_1)] maxLocals)) t := fun t k => pre377 t (by
      show Steps p.tables e below (T374.setTop (mkF m 69 #[.val (.int p0_0), .val (.int p0_1), .val (.int (4 : Int32)), .val (.int (15 : Int32)), .val (.int MM), .val (.ref b342), .unset, .unset, .unset] [])) _
      refine XS.aload X374.here hx rfl (hb hby at_69) rfl rfl ?_
      refine XS.bipush X374.here hx rfl (hb hby at_71) ?_
      refine XS.iload X374.here hx rfl (hb hby at_73) rfl ?_
      show Steps p.tables e below (T374.setTop (mkF m 75 #[.val (.int p0_0), .val (.int p0_1), .val (.int (4 : Int32)), .val (.int (15 : Int32)), .val (.int MM), .val (.ref b342), .unset, .unset, .unset] [(.int MM), (.int (6 : Int32)), (.ref b342)])) _
      refine st378 _ ?_
      exact k)
    obtain ⟨_, _, ⟨T382, L382, k382, n382⟩, -, X382, ⟨Lc382, hQ382, l382, y382, z382⟩, st382⟩ := Jvm.LawKit.callS X378 hx (y := mn2) hown (mvT hZ (hVV 5 _ rfl)) (mvT hZ (hVV 6 _ rfl)) (mvT hZ (hVV 7 _ rfl)) (mvT hZ (hVV 8 _ rfl)) (by decide) (backOf (W := 0) (rm2_4 l Z a0 hw [] b342 k342 (own_b MM (0 : Int32)) (own_b MM (1 : Int32)) (own_b MM (2 : Int32)) (own_b MM (3 : Int32)) T364.heap n0 z368 V369 gz342) hZ (hVV 8 _ rfl) (hVV 7 _ rfl) (by decide) (by decide)) (g := (mkF m 80 #[.val (.int p0_0), .val (.int p0_1), .val (.int (4 : Int32)), .val (.int (15 : Int32)), .val (.int MM), .val (.ref b342), .unset, .unset, .unset] [(.ref b342)])) rfl (by rw [hml]; rfl) (argsL := [(.ref b342)]) (rest := []) (lenOf pd_1 rfl) rfl (by show 2 * 0 + _ ≤ _; exact Nat.le_of_eq rfl) (hb hby at_80) (fun _ _ => ⟨rfl, e378, (by decide : 1 + 0 ≤ _), (by decide : 4 + 0 ≤ _)⟩)
    dsimp only [Pt.U, Pt.locs, Pt.cells, Pt.slots] at X382 l382 y382 z382 st382 hQ382
    subst l382 y382 z382
    obtain ⟨rfl, N382q, K382, r382_0⟩ := hQ382
    have N383 := Fr.app N380 N382q
    have pre384 : ∀ t, Steps p.tables e below (T382.setTop (mkF m 83 #[.val (.int p0_0), .val (.int p0_1), .val (.int (4 : Int32)), .val (.int (15 : Int32)), .val (.int MM), .val (.ref b342), .unset, .unset, .unset] [(.int (bI (((own_b MM (0 : Int32)) = (0 : Int32)) ∨ (((own_b MM (1 : Int32)) = (0 : Int32)) ∨ (((own_b MM (2 : Int32)) = (0 : Int32)) ∨ ((own_b MM (3 : Int32)) = (0 : Int32)))))))])) t → Steps p.tables e below (s₁.setTop (entryFrame m #[(.int p0_0), (.int p0_1)] maxLocals)) t := fun t k => pre381 t (by
      show Steps p.tables e below (T378.setTop (mkF m 78 #[.val (.int p0_0), .val (.int p0_1), .val (.int (4 : Int32)), .val (.int (15 : Int32)), .val (.int MM), .val (.ref b342), .unset, .unset, .unset] [])) _
      refine XS.aload X378.here hx rfl (hb hby at_78) rfl rfl ?_
      show Steps p.tables e below (T378.setTop (mkF m 80 #[.val (.int p0_0), .val (.int p0_1), .val (.int (4 : Int32)), .val (.int (15 : Int32)), .val (.int MM), .val (.ref b342), .unset, .unset, .unset] [(.ref b342)])) _
      refine st382 _ ?_
      exact k)
    have z385 := Nat.le_trans z368 K382.1
    have pre386 : ∀ t, Steps p.tables e below (T382.setTop (mkF m 85 #[.val (.int p0_0), .val (.int p0_1), .val (.int (4 : Int32)), .val (.int (15 : Int32)), .val (.int MM), .val (.ref b342), .val (.int (bI (((own_b MM (0 : Int32)) = (0 : Int32)) ∨ (((own_b MM (1 : Int32)) = (0 : Int32)) ∨ (((own_b MM (2 : Int32)) = (0 : Int32)) ∨ ((own_b MM (3 : Int32)) = (0 : Int32))))))), .unset, .unset] [])) t → Steps p.tables e below (s₁.setTop (entryFrame m #[(.int p0_0), (.int p0_1)] maxLocals)) t := fun t k => pre384 t (by
      show Steps p.tables e below (T382.setTop (mkF m 83 #[.val (.int p0_0), .val (.int p0_1), .val (.int (4 : Int32)), .val (.int (15 : Int32)), .val (.int MM), .val (.ref b342), .unset, .unset, .unset] [(.int (bI (((own_b MM (0 : Int32)) = (0 : Int32)) ∨ (((own_b MM (1 : Int32)) = (0 : Int32)) ∨ (((own_b MM (2 : Int32)) = (0 : Int32)) ∨ ((own_b MM (3 : Int32)) = (0 : Int32)))))))])) _
      refine XS.istore X382.here hx rfl (hb hby at_83) rfl (l' := #[.val (.int p0_0), .val (.int p0_1), .val (.int (4 : Int32)), .val (.int (15 : Int32)), .val (.int MM), .val (.ref b342), .val (.int (bI (((own_b MM (0 : Int32)) = (0 : Int32)) ∨ (((own_b MM (1 : Int32)) = (0 : Int32)) ∨ (((own_b MM (2 : Int32)) = (0 : Int32)) ∨ ((own_b MM (3 : Int32)) = (0 : Int32))))))), .unset, .unset]) rfl ?_
      exact k)
    obtain ⟨RR, hRR⟩ : ∃ z : Int32, z = (bI (((own_b MM (0 : Int32)) = (0 : Int32)) ∨ (((own_b MM (1 : Int32)) = (0 : Int32)) ∨ (((own_b MM (2 : Int32)) = (0 : Int32)) ∨ ((own_b MM (3 : Int32)) = (0 : Int32)))))) := ⟨_, rfl⟩
    have pre387 : ∀ t, Steps p.tables e below (T382.setTop (mkF m 85 #[.val (.int p0_0), .val (.int p0_1), .val (.int (4 : Int32)), .val (.int (15 : Int32)), .val (.int MM), .val (.ref b342), .val (.int RR), .unset, .unset] [])) t → Steps p.tables e below (s₁.setTop (entryFrame m #[(.int p0_0), (.int p0_1)] maxLocals)) t := fun t k => pre386 t (castTop (by rw [hRR]) k)
    obtain ⟨G0, hG0⟩ : ∃ z : Int32, z = (bI ((own_b MM (0 : Int32)) = (0 : Int32))) := ⟨_, rfl⟩
    obtain ⟨G1, hG1⟩ : ∃ z : Int32, z = (if (own_b MM (0 : Int32)) = (0 : Int32) then (own_b MM (1 : Int32)) else (bI ((own_b MM (1 : Int32)) = (0 : Int32)))) := ⟨_, rfl⟩
    obtain ⟨G2, hG2⟩ : ∃ z : Int32, z = (if (own_b MM (0 : Int32)) = (0 : Int32) then (own_b MM (2 : Int32)) else (if (own_b MM (1 : Int32)) = (0 : Int32) then (own_b MM (2 : Int32)) else (bI ((own_b MM (2 : Int32)) = (0 : Int32))))) := ⟨_, rfl⟩
    obtain ⟨G3, hG3⟩ : ∃ z : Int32, z = (if (own_b MM (0 : Int32)) = (0 : Int32) then (own_b MM (3 : Int32)) else (if (own_b MM (1 : Int32)) = (0 : Int32) then (own_b MM (3 : Int32)) else (if (own_b MM (2 : Int32)) = (0 : Int32) then (own_b MM (3 : Int32)) else (bI ((own_b MM (3 : Int32)) = (0 : Int32)))))) := ⟨_, rfl⟩
    have V388 : Arv Z T382.heap b342 k342 .boolean (4 : Int32) [(.int G0), (.int G1), (.int G2), (.int G3)] (.int (0 : Int32)) := by rw [hG0, hG1, hG2, hG3]; exact r382_0
    have hq390 : (0 : Int32) < (4 : Int32) := by
      decide
    obtain ⟨_, _, ⟨T389, L389, k389, n389⟩, -, X389, ⟨Lc389, hQ389, l389, y389, z389⟩, st389⟩ := Jvm.LawKit.callS X382 hx (y := mn1) hown (mvT hZ (hVV 9 _ rfl)) (mvT hZ (hVV 10 _ rfl)) (mvT hZ (hVV 3 _ rfl)) (mvT hZ (hVV 11 _ rfl)) (by decide) (backOf (W := 0) (rm3_i l Z a0 hw [] b342 (0 : Int32) k342 (4 : Int32) ([(.int G0), (.int G1), (.int G2), (.int G3)]) G0 T382.heap n0 z385 V388 (by decide) (by rfl) hq390) hZ (hVV 11 _ rfl) (hVV 3 _ rfl) (by decide) (by decide)) (g := (mkF m 96 #[.val (.int p0_0), .val (.int p0_1), .val (.int (4 : Int32)), .val (.int (15 : Int32)), .val (.int MM), .val (.ref b342), .val (.int RR), .val (.int ((MM + (1 : Int32)) &&& (15 : Int32))), .unset] [(.int (0 : Int32)), (.ref b342)])) rfl (by rw [hml]; rfl) (argsL := [(.ref b342), (.int (0 : Int32))]) (rest := []) (lenOf pd_2 rfl) rfl (by show 2 * 0 + _ ≤ _; exact Nat.le_of_eq rfl) (hb hby at_96) (fun _ _ => ⟨rfl, rfl, (by decide : 1 + 0 ≤ _), (by decide : 4 + 0 ≤ _)⟩)
    dsimp only [Pt.U, Pt.locs, Pt.cells, Pt.slots] at X389 l389 y389 z389 st389 hQ389
    subst l389 y389 z389
    obtain ⟨rfl, N389q, e389⟩ := hQ389
    have N391 := Fr.app N383 N389q
    have pre392 : ∀ t, Steps p.tables e below (T389.setTop (mkF m 99 #[.val (.int p0_0), .val (.int p0_1), .val (.int (4 : Int32)), .val (.int (15 : Int32)), .val (.int MM), .val (.ref b342), .val (.int RR), .val (.int ((MM + (1 : Int32)) &&& (15 : Int32))), .unset] [(.int (if G0 = (0 : Int32) then (0 : Int32) else ((1 : Int32) <<< ((0 : Int32) &&& 31))))])) t → Steps p.tables e below (s₁.setTop (entryFrame m #[(.int p0_0), (.int p0_1)] maxLocals)) t := fun t k => pre387 t (by
      show Steps p.tables e below (T382.setTop (mkF m 85 #[.val (.int p0_0), .val (.int p0_1), .val (.int (4 : Int32)), .val (.int (15 : Int32)), .val (.int MM), .val (.ref b342), .val (.int RR), .unset, .unset] [])) _
      refine XS.iload X382.here hx rfl (hb hby at_85) rfl ?_
      refine XS.iconst X382.here hx rfl (hb hby at_87) ?_
      refine XS.iadd X382.here hx rfl (hb hby at_88) rfl ?_
      refine XS.iloadN X382.here hx rfl (hb hby at_89) rfl ?_
      refine XS.iand X382.here hx rfl (hb hby at_90) rfl ?_
      show Steps p.tables e below (T382.setTop (mkF m 91 #[.val (.int p0_0), .val (.int p0_1), .val (.int (4 : Int32)), .val (.int (15 : Int32)), .val (.int MM), .val (.ref b342), .val (.int RR), .unset, .unset] [(.int ((MM + (1 : Int32)) &&& (15 : Int32)))])) _
      refine XS.istore X382.here hx rfl (hb hby at_91) rfl (l' := #[.val (.int p0_0), .val (.int p0_1), .val (.int (4 : Int32)), .val (.int (15 : Int32)), .val (.int MM), .val (.ref b342), .val (.int RR), .val (.int ((MM + (1 : Int32)) &&& (15 : Int32))), .unset]) rfl ?_
      show Steps p.tables e below (T382.setTop (mkF m 93 #[.val (.int p0_0), .val (.int p0_1), .val (.int (4 : Int32)), .val (.int (15 : Int32)), .val (.int MM), .val (.ref b342), .val (.int RR), .val (.int ((MM + (1 : Int32)) &&& (15 : Int32))), .unset] [])) _
      refine XS.aload X382.here hx rfl (hb hby at_93) rfl rfl ?_
      refine XS.iconst X382.here hx rfl (hb hby at_95) ?_
      show Steps p.tables e below (T382.setTop (mkF m 96 #[.val (.int p0_0), .val (.int p0_1), .val (.int (4 : Int32)), .val (.int (15 : Int32)), .val (.int MM), .val (.ref b342), .val (.int RR), .val (.int ((MM + (1 : Int32)) &&& (15 : Int32))), .unset] [(.int (0 : Int32)), (.ref b342)])) _
      refine st389 _ ?_
      exact k)
    have hq394 : (1 : Int32) < (4 : Int32) := by
      decide
    obtain ⟨_, _, ⟨T393, L393, k393, n393⟩, -, X393, ⟨Lc393, hQ393, l393, y393, z393⟩, st393⟩ := Jvm.LawKit.callS X389 hx (y := mn1) hown (mvT hZ (hVV 9 _ rfl)) (mvT hZ (hVV 10 _ rfl)) (mvT hZ (hVV 3 _ rfl)) (mvT hZ (hVV 11 _ rfl)) (by decide) (backOf (W := 1) (rm3_i l Z a0 hw [] b342 (1 : Int32) k342 (4 : Int32) ([(.int G0), (.int G1), (.int G2), (.int G3)]) G1 T382.heap n0 z385 V388 (by decide) (by rfl) hq394) hZ (hVV 11 _ rfl) (hVV 3 _ rfl) (by decide) (by decide)) (g := (mkF m 102 #[.val (.int p0_0), .val (.int p0_1), .val (.int (4 : Int32)), .val (.int (15 : Int32)), .val (.int MM), .val (.ref b342), .val (.int RR), .val (.int ((MM + (1 : Int32)) &&& (15 : Int32))), .unset] [(.int (1 : Int32)), (.ref b342), (.int (if G0 = (0 : Int32) then (0 : Int32) else ((1 : Int32) <<< ((0 : Int32) &&& 31))))])) rfl (by rw [hml]; rfl) (argsL := [(.ref b342), (.int (1 : Int32))]) (rest := [(.int (if G0 = (0 : Int32) then (0 : Int32) else ((1 : Int32) <<< ((0 : Int32) &&& 31))))]) (lenOf pd_2 rfl) rfl (by show 2 * 0 + _ ≤ _; exact Nat.le_of_eq rfl) (hb hby at_102) (fun _ _ => ⟨rfl, e389, (by decide : 1 + 0 ≤ _), (by decide : 4 + 0 ≤ _)⟩)
    dsimp only [Pt.U, Pt.locs, Pt.cells, Pt.slots] at X393 l393 y393 z393 st393 hQ393
    subst l393 y393 z393
    obtain ⟨rfl, N393q, e393⟩ := hQ393
    have N395 := Fr.app N391 N393q
    have pre396 : ∀ t, Steps p.tables e below (T393.setTop (mkF m 105 #[.val (.int p0_0), .val (.int p0_1), .val (.int (4 : Int32)), .val (.int (15 : Int32)), .val (.int MM), .val (.ref b342), .val (.int RR), .val (.int ((MM + (1 : Int32)) &&& (15 : Int32))), .unset] [(.int (if G1 = (0 : Int32) then (0 : Int32) else ((1 : Int32) <<< ((1 : Int32) &&& 31)))), (.int (if G0 = (0 : Int32) then (0 : Int32) else ((1 : Int32) <<< ((0 : Int32) &&& 31))))])) t → Steps p.tables e below (s₁.setTop (entryFrame m #[(.int p0_0), (.int p0_1)] maxLocals)) t := fun t k => pre392 t (by
      show Steps p.tables e below (T389.setTop (mkF m 99 #[.val (.int p0_0), .val (.int p0_1), .val (.int (4 : Int32)), .val (.int (15 : Int32)), .val (.int MM), .val (.ref b342), .val (.int RR), .val (.int ((MM + (1 : Int32)) &&& (15 : Int32))), .unset] [(.int (if G0 = (0 : Int32) then (0 : Int32) else ((1 : Int32) <<< ((0 : Int32) &&& 31))))])) _
      refine XS.aload X389.here hx rfl (hb hby at_99) rfl rfl ?_
      refine XS.iconst X389.here hx rfl (hb hby at_101) ?_
      show Steps p.tables e below (T389.setTop (mkF m 102 #[.val (.int p0_0), .val (.int p0_1), .val (.int (4 : Int32)), .val (.int (15 : Int32)), .val (.int MM), .val (.ref b342), .val (.int RR), .val (.int ((MM + (1 : Int32)) &&& (15 : Int32))), .unset] [(.int (1 : Int32)), (.ref b342), (.int (if G0 = (0 : Int32) then (0 : Int32) else ((1 : Int32) <<< ((0 : Int32) &&& 31))))])) _
      refine st393 _ ?_
      exact k)
    have hq398 : (2 : Int32) < (4 : Int32) := by
      decide
    obtain ⟨_, _, ⟨T397, L397, k397, n397⟩, -, X397, ⟨Lc397, hQ397, l397, y397, z397⟩, st397⟩ := Jvm.LawKit.callS X393 hx (y := mn1) hown (mvT hZ (hVV 9 _ rfl)) (mvT hZ (hVV 10 _ rfl)) (mvT hZ (hVV 3 _ rfl)) (mvT hZ (hVV 11 _ rfl)) (by decide) (backOf (W := 1) (rm3_i l Z a0 hw [] b342 (2 : Int32) k342 (4 : Int32) ([(.int G0), (.int G1), (.int G2), (.int G3)]) G2 T382.heap n0 z385 V388 (by decide) (by rfl) hq398) hZ (hVV 11 _ rfl) (hVV 3 _ rfl) (by decide) (by decide)) (g := (mkF m 109 #[.val (.int p0_0), .val (.int p0_1), .val (.int (4 : Int32)), .val (.int (15 : Int32)), .val (.int MM), .val (.ref b342), .val (.int RR), .val (.int ((MM + (1 : Int32)) &&& (15 : Int32))), .unset] [(.int (2 : Int32)), (.ref b342), (.int ((if G0 = (0 : Int32) then (0 : Int32) else ((1 : Int32) <<< ((0 : Int32) &&& 31))) ||| (if G1 = (0 : Int32) then (0 : Int32) else ((1 : Int32) <<< ((1 : Int32) &&& 31)))))])) rfl (by rw [hml]; rfl) (argsL := [(.ref b342), (.int (2 : Int32))]) (rest := [(.int ((if G0 = (0 : Int32) then (0 : Int32) else ((1 : Int32) <<< ((0 : Int32) &&& 31))) ||| (if G1 = (0 : Int32) then (0 : Int32) else ((1 : Int32) <<< ((1 : Int32) &&& 31)))))]) (lenOf pd_2 rfl) rfl (by show 2 * 0 + _ ≤ _; exact Nat.le_of_eq rfl) (hb hby at_109) (fun _ _ => ⟨rfl, e393, (by decide : 1 + 0 ≤ _), (by decide : 4 + 0 ≤ _)⟩)
    dsimp only [Pt.U, Pt.locs, Pt.cells, Pt.slots] at X397 l397 y397 z397 st397 hQ397
    subst l397 y397 z397
    obtain ⟨rfl, N397q, e397⟩ := hQ397
    have N399 := Fr.app N395 N397q
    have pre400 : ∀ t, Steps p.tables e below (T397.setTop (mkF m 112 #[.val (.int p0_0), .val (.int p0_1), .val (.int (4 : Int32)), .val (.int (15 : Int32)), .val (.int MM), .val (.ref b342), .val (.int RR), .val (.int ((MM + (1 : Int32)) &&& (15 : Int32))), .unset] [(.int (if G2 = (0 : Int32) then (0 : Int32) else ((1 : Int32) <<< ((2 : Int32) &&& 31)))), (.int ((if G0 = (0 : Int32) then (0 : Int32) else ((1 : Int32) <<< ((0 : Int32) &&& 31))) ||| (if G1 = (0 : Int32) then (0 : Int32) else ((1 : Int32) <<< ((1 : Int32) &&& 31)))))])) t → Steps p.tables e below (s₁.setTop (entryFrame m #[(.int p0_0), (.int p0_1)] maxLocals)) t := fun t k => pre396 t (by
      show Steps p.tables e below (T393.setTop (mkF m 105 #[.val (.int p0_0), .val (.int p0_1), .val (.int (4 : Int32)), .val (.int (15 : Int32)), .val (.int MM), .val (.ref b342), .val (.int RR), .val (.int ((MM + (1 : Int32)) &&& (15 : Int32))), .unset] [(.int (if G1 = (0 : Int32) then (0 : Int32) else ((1 : Int32) <<< ((1 : Int32) &&& 31)))), (.int (if G0 = (0 : Int32) then (0 : Int32) else ((1 : Int32) <<< ((0 : Int32) &&& 31))))])) _
      refine XS.ior X393.here hx rfl (hb hby at_105) rfl ?_
      refine XS.aload X393.here hx rfl (hb hby at_106) rfl rfl ?_
      refine XS.iconst X393.here hx rfl (hb hby at_108) ?_
      show Steps p.tables e below (T393.setTop (mkF m 109 #[.val (.int p0_0), .val (.int p0_1), .val (.int (4 : Int32)), .val (.int (15 : Int32)), .val (.int MM), .val (.ref b342), .val (.int RR), .val (.int ((MM + (1 : Int32)) &&& (15 : Int32))), .unset] [(.int (2 : Int32)), (.ref b342), (.int ((if G0 = (0 : Int32) then (0 : Int32) else ((1 : Int32) <<< ((0 : Int32) &&& 31))) ||| (if G1 = (0 : Int32) then (0 : Int32) else ((1 : Int32) <<< ((1 : Int32) &&& 31)))))])) _
      refine st397 _ ?_
      exact k)
    have hq402 : (3 : Int32) < (4 : Int32) := by
      decide
    obtain ⟨_, _, ⟨T401, L401, k401, n401⟩, -, X401, ⟨Lc401, hQ401, l401, y401, z401⟩, st401⟩ := Jvm.LawKit.callS X397 hx (y := mn1) hown (mvT hZ (hVV 9 _ rfl)) (mvT hZ (hVV 10 _ rfl)) (mvT hZ (hVV 3 _ rfl)) (mvT hZ (hVV 11 _ rfl)) (by decide) (backOf (W := 1) (rm3_i l Z a0 hw [] b342 (3 : Int32) k342 (4 : Int32) ([(.int G0), (.int G1), (.int G2), (.int G3)]) G3 T382.heap n0 z385 V388 (by decide) (by rfl) hq402) hZ (hVV 11 _ rfl) (hVV 3 _ rfl) (by decide) (by decide)) (g := (mkF m 116 #[.val (.int p0_0), .val (.int p0_1), .val (.int (4 : Int32)), .val (.int (15 : Int32)), .val (.int MM), .val (.ref b342), .val (.int RR), .val (.int ((MM + (1 : Int32)) &&& (15 : Int32))), .unset] [(.int (3 : Int32)), (.ref b342), (.int (((if G0 = (0 : Int32) then (0 : Int32) else ((1 : Int32) <<< ((0 : Int32) &&& 31))) ||| (if G1 = (0 : Int32) then (0 : Int32) else ((1 : Int32) <<< ((1 : Int32) &&& 31)))) ||| (if G2 = (0 : Int32) then (0 : Int32) else ((1 : Int32) <<< ((2 : Int32) &&& 31)))))])) rfl (by rw [hml]; rfl) (argsL := [(.ref b342), (.int (3 : Int32))]) (rest := [(.int (((if G0 = (0 : Int32) then (0 : Int32) else ((1 : Int32) <<< ((0 : Int32) &&& 31))) ||| (if G1 = (0 : Int32) then (0 : Int32) else ((1 : Int32) <<< ((1 : Int32) &&& 31)))) ||| (if G2 = (0 : Int32) then (0 : Int32) else ((1 : Int32) <<< ((2 : Int32) &&& 31)))))]) (lenOf pd_2 rfl) rfl (by show 2 * 0 + _ ≤ _; exact Nat.le_of_eq rfl) (hb hby at_116) (fun _ _ => ⟨rfl, e397, (by decide : 1 + 0 ≤ _), (by decide : 4 + 0 ≤ _)⟩)
    dsimp only [Pt.U, Pt.locs, Pt.cells, Pt.slots] at X401 l401 y401 z401 st401 hQ401
    subst l401 y401 z401
    obtain ⟨rfl, N401q, e401⟩ := hQ401
    have N403 := Fr.app N399 N401q
    have pre404 : ∀ t, Steps p.tables e below (T401.setTop (mkF m 119 #[.val (.int p0_0), .val (.int p0_1), .val (.int (4 : Int32)), .val (.int (15 : Int32)), .val (.int MM), .val (.ref b342), .val (.int RR), .val (.int ((MM + (1 : Int32)) &&& (15 : Int32))), .unset] [(.int (if G3 = (0 : Int32) then (0 : Int32) else ((1 : Int32) <<< ((3 : Int32) &&& 31)))), (.int (((if G0 = (0 : Int32) then (0 : Int32) else ((1 : Int32) <<< ((0 : Int32) &&& 31))) ||| (if G1 = (0 : Int32) then (0 : Int32) else ((1 : Int32) <<< ((1 : Int32) &&& 31)))) ||| (if G2 = (0 : Int32) then (0 : Int32) else ((1 : Int32) <<< ((2 : Int32) &&& 31)))))])) t → Steps p.tables e below (s₁.setTop (entryFrame m #[(.int p0_0), (.int p0_1)] maxLocals)) t := fun t k => pre400 t (by
      show Steps p.tables e below (T397.setTop (mkF m 112 #[.val (.int p0_0), .val (.int p0_1), .val (.int (4 : Int32)), .val (.int (15 : Int32)), .val (.int MM), .val (.ref b342), .val (.int RR), .val (.int ((MM + (1 : Int32)) &&& (15 : Int32))), .unset] [(.int (if G2 = (0 : Int32) then (0 : Int32) else ((1 : Int32) <<< ((2 : Int32) &&& 31)))), (.int ((if G0 = (0 : Int32) then (0 : Int32) else ((1 : Int32) <<< ((0 : Int32) &&& 31))) ||| (if G1 = (0 : Int32) then (0 : Int32) else ((1 : Int32) <<< ((1 : Int32) &&& 31)))))])) _
      refine XS.ior X397.here hx rfl (hb hby at_112) rfl ?_
      refine XS.aload X397.here hx rfl (hb hby at_113) rfl rfl ?_
      refine XS.iconst X397.here hx rfl (hb hby at_115) ?_
      show Steps p.tables e below (T397.setTop (mkF m 116 #[.val (.int p0_0), .val (.int p0_1), .val (.int (4 : Int32)), .val (.int (15 : Int32)), .val (.int MM), .val (.ref b342), .val (.int RR), .val (.int ((MM + (1 : Int32)) &&& (15 : Int32))), .unset] [(.int (3 : Int32)), (.ref b342), (.int (((if G0 = (0 : Int32) then (0 : Int32) else ((1 : Int32) <<< ((0 : Int32) &&& 31))) ||| (if G1 = (0 : Int32) then (0 : Int32) else ((1 : Int32) <<< ((1 : Int32) &&& 31)))) ||| (if G2 = (0 : Int32) then (0 : Int32) else ((1 : Int32) <<< ((2 : Int32) &&& 31)))))])) _
      refine st401 _ ?_
      exact k)
    have hq406 : ¬ ((4 : Int32) < (4 : Int32)) := by
      decide
    obtain ⟨_, _, ⟨T405, L405, k405, n405⟩, -, X405, ⟨Lc405, hQ405, l405, y405, z405⟩, st405⟩ := Jvm.LawKit.callS X401 hx (y := mn1) hown (mvT hZ (hVV 9 _ rfl)) (mvT hZ (hVV 10 _ rfl)) (mvT hZ (hVV 3 _ rfl)) (mvT hZ (hVV 11 _ rfl)) (by decide) (backOf (W := 1) (rm3_o l Z a0 hw [] b342 (4 : Int32) k342 (4 : Int32) ([(.int G0), (.int G1), (.int G2), (.int G3)]) T382.heap n0 z385 V388 hq406) hZ (hVV 11 _ rfl) (hVV 3 _ rfl) (by decide) (by decide)) (g := (mkF m 123 #[.val (.int p0_0), .val (.int p0_1), .val (.int (4 : Int32)), .val (.int (15 : Int32)), .val (.int MM), .val (.ref b342), .val (.int RR), .val (.int ((MM + (1 : Int32)) &&& (15 : Int32))), .unset] [(.int (4 : Int32)), (.ref b342), (.int ((((if G0 = (0 : Int32) then (0 : Int32) else ((1 : Int32) <<< ((0 : Int32) &&& 31))) ||| (if G1 = (0 : Int32) then (0 : Int32) else ((1 : Int32) <<< ((1 : Int32) &&& 31)))) ||| (if G2 = (0 : Int32) then (0 : Int32) else ((1 : Int32) <<< ((2 : Int32) &&& 31)))) ||| (if G3 = (0 : Int32) then (0 : Int32) else ((1 : Int32) <<< ((3 : Int32) &&& 31)))))])) rfl (by rw [hml]; rfl) (argsL := [(.ref b342), (.int (4 : Int32))]) (rest := [(.int ((((if G0 = (0 : Int32) then (0 : Int32) else ((1 : Int32) <<< ((0 : Int32) &&& 31))) ||| (if G1 = (0 : Int32) then (0 : Int32) else ((1 : Int32) <<< ((1 : Int32) &&& 31)))) ||| (if G2 = (0 : Int32) then (0 : Int32) else ((1 : Int32) <<< ((2 : Int32) &&& 31)))) ||| (if G3 = (0 : Int32) then (0 : Int32) else ((1 : Int32) <<< ((3 : Int32) &&& 31)))))]) (lenOf pd_2 rfl) rfl (by show 2 * 0 + _ ≤ _; exact Nat.le_of_eq rfl) (hb hby at_123) (fun _ _ => ⟨rfl, e401, (by decide : 1 + 0 ≤ _), (by decide : 4 + 0 ≤ _)⟩)
    dsimp only [Pt.U, Pt.locs, Pt.cells, Pt.slots] at X405 l405 y405 z405 st405 hQ405
    subst l405 y405 z405
    obtain ⟨rfl, N405q, e405⟩ := hQ405
    have N407 := Fr.app N403 N405q
    have pre408 : ∀ t, Steps p.tables e below (T405.setTop (mkF m 126 #[.val (.int p0_0), .val (.int p0_1), .val (.int (4 : Int32)), .val (.int (15 : Int32)), .val (.int MM), .val (.ref b342), .val (.int RR), .val (.int ((MM + (1 : Int32)) &&& (15 : Int32))), .unset] [(.int (0 : Int32)), (.int ((((if G0 = (0 : Int32) then (0 : Int32) else ((1 : Int32) <<< ((0 : Int32) &&& 31))) ||| (if G1 = (0 : Int32) then (0 : Int32) else ((1 : Int32) <<< ((1 : Int32) &&& 31)))) ||| (if G2 = (0 : Int32) then (0 : Int32) else ((1 : Int32) <<< ((2 : Int32) &&& 31)))) ||| (if G3 = (0 : Int32) then (0 : Int32) else ((1 : Int32) <<< ((3 : Int32) &&& 31)))))])) t → Steps p.tables e below (s₁.setTop (entryFrame m #[(.int p0_0), (.int p0_1)] maxLocals)) t := fun t k => pre404 t (by
      show Steps p.tables e below (T401.setTop (mkF m 119 #[.val (.int p0_0), .val (.int p0_1), .val (.int (4 : Int32)), .val (.int (15 : Int32)), .val (.int MM), .val (.ref b342), .val (.int RR), .val (.int ((MM + (1 : Int32)) &&& (15 : Int32))), .unset] [(.int (if G3 = (0 : Int32) then (0 : Int32) else ((1 : Int32) <<< ((3 : Int32) &&& 31)))), (.int (((if G0 = (0 : Int32) then (0 : Int32) else ((1 : Int32) <<< ((0 : Int32) &&& 31))) ||| (if G1 = (0 : Int32) then (0 : Int32) else ((1 : Int32) <<< ((1 : Int32) &&& 31)))) ||| (if G2 = (0 : Int32) then (0 : Int32) else ((1 : Int32) <<< ((2 : Int32) &&& 31)))))])) _
      refine XS.ior X401.here hx rfl (hb hby at_119) rfl ?_
      refine XS.aload X401.here hx rfl (hb hby at_120) rfl rfl ?_
      refine XS.iconst X401.here hx rfl (hb hby at_122) ?_
      show Steps p.tables e below (T401.setTop (mkF m 123 #[.val (.int p0_0), .val (.int p0_1), .val (.int (4 : Int32)), .val (.int (15 : Int32)), .val (.int MM), .val (.ref b342), .val (.int RR), .val (.int ((MM + (1 : Int32)) &&& (15 : Int32))), .unset] [(.int (4 : Int32)), (.ref b342), (.int ((((if G0 = (0 : Int32) then (0 : Int32) else ((1 : Int32) <<< ((0 : Int32) &&& 31))) ||| (if G1 = (0 : Int32) then (0 : Int32) else ((1 : Int32) <<< ((1 : Int32) &&& 31)))) ||| (if G2 = (0 : Int32) then (0 : Int32) else ((1 : Int32) <<< ((2 : Int32) &&& 31)))) ||| (if G3 = (0 : Int32) then (0 : Int32) else ((1 : Int32) <<< ((3 : Int32) &&& 31)))))])) _
      refine st405 _ ?_
      exact k)
    have hq410 : ¬ ((5 : Int32) < (4 : Int32)) := by
      decide
    obtain ⟨_, _, ⟨T409, L409, k409, n409⟩, -, X409, ⟨Lc409, hQ409, l409, y409, z409⟩, st409⟩ := Jvm.LawKit.callS X405 hx (y := mn1) hown (mvT hZ (hVV 9 _ rfl)) (mvT hZ (hVV 10 _ rfl)) (mvT hZ (hVV 3 _ rfl)) (mvT hZ (hVV 11 _ rfl)) (by decide) (backOf (W := 1) (rm3_o l Z a0 hw [] b342 (5 : Int32) k342 (4 : Int32) ([(.int G0), (.int G1), (.int G2), (.int G3)]) T382.heap n0 z385 V388 hq410) hZ (hVV 11 _ rfl) (hVV 3 _ rfl) (by decide) (by decide)) (g := (mkF m 130 #[.val (.int p0_0), .val (.int p0_1), .val (.int (4 : Int32)), .val (.int (15 : Int32)), .val (.int MM), .val (.ref b342), .val (.int RR), .val (.int ((MM + (1 : Int32)) &&& (15 : Int32))), .unset] [(.int (5 : Int32)), (.ref b342), (.int (((((if G0 = (0 : Int32) then (0 : Int32) else ((1 : Int32) <<< ((0 : Int32) &&& 31))) ||| (if G1 = (0 : Int32) then (0 : Int32) else ((1 : Int32) <<< ((1 : Int32) &&& 31)))) ||| (if G2 = (0 : Int32) then (0 : Int32) else ((1 : Int32) <<< ((2 : Int32) &&& 31)))) ||| (if G3 = (0 : Int32) then (0 : Int32) else ((1 : Int32) <<< ((3 : Int32) &&& 31)))) ||| (0 : Int32)))])) rfl (by rw [hml]; rfl) (argsL := [(.ref b342), (.int (5 : Int32))]) (rest := [(.int (((((if G0 = (0 : Int32) then (0 : Int32) else ((1 : Int32) <<< ((0 : Int32) &&& 31))) ||| (if G1 = (0 : Int32) then (0 : Int32) else ((1 : Int32) <<< ((1 : Int32) &&& 31)))) ||| (if G2 = (0 : Int32) then (0 : Int32) else ((1 : Int32) <<< ((2 : Int32) &&& 31)))) ||| (if G3 = (0 : Int32) then (0 : Int32) else ((1 : Int32) <<< ((3 : Int32) &&& 31)))) ||| (0 : Int32)))]) (lenOf pd_2 rfl) rfl (by show 2 * 0 + _ ≤ _; exact Nat.le_of_eq rfl) (hb hby at_130) (fun _ _ => ⟨rfl, e405, (by decide : 1 + 0 ≤ _), (by decide : 4 + 0 ≤ _)⟩)
    dsimp only [Pt.U, Pt.locs, Pt.cells, Pt.slots] at X409 l409 y409 z409 st409 hQ409
    subst l409 y409 z409
    obtain ⟨rfl, N409q, e409⟩ := hQ409
    have N411 := Fr.app N407 N409q
    have pre412 : ∀ t, Steps p.tables e below (T409.setTop (mkF m 133 #[.val (.int p0_0), .val (.int p0_1), .val (.int (4 : Int32)), .val (.int (15 : Int32)), .val (.int MM), .val (.ref b342), .val (.int RR), .val (.int ((MM + (1 : Int32)) &&& (15 : Int32))), .unset] [(.int (0 : Int32)), (.int (((((if G0 = (0 : Int32) then (0 : Int32) else ((1 : Int32) <<< ((0 : Int32) &&& 31))) ||| (if G1 = (0 : Int32) then (0 : Int32) else ((1 : Int32) <<< ((1 : Int32) &&& 31)))) ||| (if G2 = (0 : Int32) then (0 : Int32) else ((1 : Int32) <<< ((2 : Int32) &&& 31)))) ||| (if G3 = (0 : Int32) then (0 : Int32) else ((1 : Int32) <<< ((3 : Int32) &&& 31)))) ||| (0 : Int32)))])) t → Steps p.tables e below (s₁.setTop (entryFrame m #[(.int p0_0), (.int p0_1)] maxLocals)) t := fun t k => pre408 t (by
      show Steps p.tables e below (T405.setTop (mkF m 126 #[.val (.int p0_0), .val (.int p0_1), .val (.int (4 : Int32)), .val (.int (15 : Int32)), .val (.int MM), .val (.ref b342), .val (.int RR), .val (.int ((MM + (1 : Int32)) &&& (15 : Int32))), .unset] [(.int (0 : Int32)), (.int ((((if G0 = (0 : Int32) then (0 : Int32) else ((1 : Int32) <<< ((0 : Int32) &&& 31))) ||| (if G1 = (0 : Int32) then (0 : Int32) else ((1 : Int32) <<< ((1 : Int32) &&& 31)))) ||| (if G2 = (0 : Int32) then (0 : Int32) else ((1 : Int32) <<< ((2 : Int32) &&& 31)))) ||| (if G3 = (0 : Int32) then (0 : Int32) else ((1 : Int32) <<< ((3 : Int32) &&& 31)))))])) _
      refine XS.ior X405.here hx rfl (hb hby at_126) rfl ?_
      refine XS.aload X405.here hx rfl (hb hby at_127) rfl rfl ?_
      refine XS.iconst X405.here hx rfl (hb hby at_129) ?_
      show Steps p.tables e below (T405.setTop (mkF m 130 #[.val (.int p0_0), .val (.int p0_1), .val (.int (4 : Int32)), .val (.int (15 : Int32)), .val (.int MM), .val (.ref b342), .val (.int RR), .val (.int ((MM + (1 : Int32)) &&& (15 : Int32))), .unset] [(.int (5 : Int32)), (.ref b342), (.int (((((if G0 = (0 : Int32) then (0 : Int32) else ((1 : Int32) <<< ((0 : Int32) &&& 31))) ||| (if G1 = (0 : Int32) then (0 : Int32) else ((1 : Int32) <<< ((1 : Int32) &&& 31)))) ||| (if G2 = (0 : Int32) then (0 : Int32) else ((1 : Int32) <<< ((2 : Int32) &&& 31)))) ||| (if G3 = (0 : Int32) then (0 : Int32) else ((1 : Int32) <<< ((3 : Int32) &&& 31)))) ||| (0 : Int32)))])) _
      refine st409 _ ?_
      exact k)
    have hq414 : ¬ ((6 : Int32) < (4 : Int32)) := by
      decide
    obtain ⟨_, _, ⟨T413, L413, k413, n413⟩, -, X413, ⟨Lc413, hQ413, l413, y413, z413⟩, st413⟩ := Jvm.LawKit.callS X409 hx (y := mn1) hown (mvT hZ (hVV 9 _ rfl)) (mvT hZ (hVV 10 _ rfl)) (mvT hZ (hVV 3 _ rfl)) (mvT hZ (hVV 11 _ rfl)) (by decide) (backOf (W := 1) (rm3_o l Z a0 hw [] b342 (6 : Int32) k342 (4 : Int32) ([(.int G0), (.int G1), (.int G2), (.int G3)]) T382.heap n0 z385 V388 hq414) hZ (hVV 11 _ rfl) (hVV 3 _ rfl) (by decide) (by decide)) (g := (mkF m 138 #[.val (.int p0_0), .val (.int p0_1), .val (.int (4 : Int32)), .val (.int (15 : Int32)), .val (.int MM), .val (.ref b342), .val (.int RR), .val (.int ((MM + (1 : Int32)) &&& (15 : Int32))), .unset] [(.int (6 : Int32)), (.ref b342), (.int ((((((if G0 = (0 : Int32) then (0 : Int32) else ((1 : Int32) <<< ((0 : Int32) &&& 31))) ||| (if G1 = (0 : Int32) then (0 : Int32) else ((1 : Int32) <<< ((1 : Int32) &&& 31)))) ||| (if G2 = (0 : Int32) then (0 : Int32) else ((1 : Int32) <<< ((2 : Int32) &&& 31)))) ||| (if G3 = (0 : Int32) then (0 : Int32) else ((1 : Int32) <<< ((3 : Int32) &&& 31)))) ||| (0 : Int32)) ||| (0 : Int32)))])) rfl (by rw [hml]; rfl) (argsL := [(.ref b342), (.int (6 : Int32))]) (rest := [(.int ((((((if G0 = (0 : Int32) then (0 : Int32) else ((1 : Int32) <<< ((0 : Int32) &&& 31))) ||| (if G1 = (0 : Int32) then (0 : Int32) else ((1 : Int32) <<< ((1 : Int32) &&& 31)))) ||| (if G2 = (0 : Int32) then (0 : Int32) else ((1 : Int32) <<< ((2 : Int32) &&& 31)))) ||| (if G3 = (0 : Int32) then (0 : Int32) else ((1 : Int32) <<< ((3 : Int32) &&& 31)))) ||| (0 : Int32)) ||| (0 : Int32)))]) (lenOf pd_2 rfl) rfl (by show 2 * 0 + _ ≤ _; exact Nat.le_of_eq rfl) (hb hby at_138) (fun _ _ => ⟨rfl, e409, (by decide : 1 + 0 ≤ _), (by decide : 4 + 0 ≤ _)⟩)
    dsimp only [Pt.U, Pt.locs, Pt.cells, Pt.slots] at X413 l413 y413 z413 st413 hQ413
    subst l413 y413 z413
    obtain ⟨rfl, N413q, e413⟩ := hQ413
    have N415 := Fr.app N411 N413q
    have pre416 : ∀ t, Steps p.tables e below (T413.setTop (mkF m 141 #[.val (.int p0_0), .val (.int p0_1), .val (.int (4 : Int32)), .val (.int (15 : Int32)), .val (.int MM), .val (.ref b342), .val (.int RR), .val (.int ((MM + (1 : Int32)) &&& (15 : Int32))), .unset] [(.int (0 : Int32)), (.int ((((((if G0 = (0 : Int32) then (0 : Int32) else ((1 : Int32) <<< ((0 : Int32) &&& 31))) ||| (if G1 = (0 : Int32) then (0 : Int32) else ((1 : Int32) <<< ((1 : Int32) &&& 31)))) ||| (if G2 = (0 : Int32) then (0 : Int32) else ((1 : Int32) <<< ((2 : Int32) &&& 31)))) ||| (if G3 = (0 : Int32) then (0 : Int32) else ((1 : Int32) <<< ((3 : Int32) &&& 31)))) ||| (0 : Int32)) ||| (0 : Int32)))])) t → Steps p.tables e below (s₁.setTop (entryFrame m #[(.int p0_0), (.int p0_1)] maxLocals)) t := fun t k => pre412 t (by
      show Steps p.tables e below (T409.setTop (mkF m 133 #[.val (.int p0_0), .val (.int p0_1), .val (.int (4 : Int32)), .val (.int (15 : Int32)), .val (.int MM), .val (.ref b342), .val (.int RR), .val (.int ((MM + (1 : Int32)) &&& (15 : Int32))), .unset] [(.int (0 : Int32)), (.int (((((if G0 = (0 : Int32) then (0 : Int32) else ((1 : Int32) <<< ((0 : Int32) &&& 31))) ||| (if G1 = (0 : Int32) then (0 : Int32) else ((1 : Int32) <<< ((1 : Int32) &&& 31)))) ||| (if G2 = (0 : Int32) then (0 : Int32) else ((1 : Int32) <<< ((2 : Int32) &&& 31)))) ||| (if G3 = (0 : Int32) then (0 : Int32) else ((1 : Int32) <<< ((3 : Int32) &&& 31)))) ||| (0 : Int32)))])) _
      refine XS.ior X409.here hx rfl (hb hby at_133) rfl ?_
      refine XS.aload X409.here hx rfl (hb hby at_134) rfl rfl ?_
      refine XS.bipush X409.here hx rfl (hb hby at_136) ?_
      show Steps p.tables e below (T409.setTop (mkF m 138 #[.val (.int p0_0), .val (.int p0_1), .val (.int (4 : Int32)), .val (.int (15 : Int32)), .val (.int MM), .val (.ref b342), .val (.int RR), .val (.int ((MM + (1 : Int32)) &&& (15 : Int32))), .unset] [(.int (6 : Int32)), (.ref b342), (.int ((((((if G0 = (0 : Int32) then (0 : Int32) else ((1 : Int32) <<< ((0 : Int32) &&& 31))) ||| (if G1 = (0 : Int32) then (0 : Int32) else ((1 : Int32) <<< ((1 : Int32) &&& 31)))) ||| (if G2 = (0 : Int32) then (0 : Int32) else ((1 : Int32) <<< ((2 : Int32) &&& 31)))) ||| (if G3 = (0 : Int32) then (0 : Int32) else ((1 : Int32) <<< ((3 : Int32) &&& 31)))) ||| (0 : Int32)) ||| (0 : Int32)))])) _
      refine st413 _ ?_
      exact k)
    obtain ⟨cl417, Ar417, q417, S417, N417, H417, G417⟩ := id V388
    have pre419 : ∀ t, Steps p.tables e below (T413.setTop (mkF m 156 #[.val (.int p0_0), .val (.int p0_1), .val (.int (4 : Int32)), .val (.int (15 : Int32)), .val (.int MM), .val (.ref b342), .val (.int RR), .val (.int ((MM + (1 : Int32)) &&& (15 : Int32))), .val (.int (((((((if G0 = (0 : Int32) then (0 : Int32) else ((1 : Int32) <<< ((0 : Int32) &&& 31))) ||| (if G1 = (0 : Int32) then (0 : Int32) else ((1 : Int32) <<< ((1 : Int32) &&& 31)))) ||| (if G2 = (0 : Int32) then (0 : Int32) else ((1 : Int32) <<< ((2 : Int32) &&& 31)))) ||| (if G3 = (0 : Int32) then (0 : Int32) else ((1 : Int32) <<< ((3 : Int32) &&& 31)))) ||| (0 : Int32)) ||| (0 : Int32)) ||| (0 : Int32)))] [(.int (15 : Int32)), (.int MM), (.int RR)])) t → Steps p.tables e below (s₁.setTop (entryFrame m #[(.int p0_0), (.int p0_1)] maxLocals)) t := fun t k => pre416 t (by
      show Steps p.tables e below (T413.setTop (mkF m 141 #[.val (.int p0_0), .val (.int p0_1), .val (.int (4 : Int32)), .val (.int (15 : Int32)), .val (.int MM), .val (.ref b342), .val (.int RR), .val (.int ((MM + (1 : Int32)) &&& (15 : Int32))), .unset] [(.int (0 : Int32)), (.int ((((((if G0 = (0 : Int32) then (0 : Int32) else ((1 : Int32) <<< ((0 : Int32) &&& 31))) ||| (if G1 = (0 : Int32) then (0 : Int32) else ((1 : Int32) <<< ((1 : Int32) &&& 31)))) ||| (if G2 = (0 : Int32) then (0 : Int32) else ((1 : Int32) <<< ((2 : Int32) &&& 31)))) ||| (if G3 = (0 : Int32) then (0 : Int32) else ((1 : Int32) <<< ((3 : Int32) &&& 31)))) ||| (0 : Int32)) ||| (0 : Int32)))])) _
      refine XS.ior X413.here hx rfl (hb hby at_141) rfl ?_
      show Steps p.tables e below (T413.setTop (mkF m 142 #[.val (.int p0_0), .val (.int p0_1), .val (.int (4 : Int32)), .val (.int (15 : Int32)), .val (.int MM), .val (.ref b342), .val (.int RR), .val (.int ((MM + (1 : Int32)) &&& (15 : Int32))), .unset] [(.int (((((((if G0 = (0 : Int32) then (0 : Int32) else ((1 : Int32) <<< ((0 : Int32) &&& 31))) ||| (if G1 = (0 : Int32) then (0 : Int32) else ((1 : Int32) <<< ((1 : Int32) &&& 31)))) ||| (if G2 = (0 : Int32) then (0 : Int32) else ((1 : Int32) <<< ((2 : Int32) &&& 31)))) ||| (if G3 = (0 : Int32) then (0 : Int32) else ((1 : Int32) <<< ((3 : Int32) &&& 31)))) ||| (0 : Int32)) ||| (0 : Int32)) ||| (0 : Int32)))])) _
      refine XS.istore X413.here hx rfl (hb hby at_142) rfl (l' := #[.val (.int p0_0), .val (.int p0_1), .val (.int (4 : Int32)), .val (.int (15 : Int32)), .val (.int MM), .val (.ref b342), .val (.int RR), .val (.int ((MM + (1 : Int32)) &&& (15 : Int32))), .val (.int (((((((if G0 = (0 : Int32) then (0 : Int32) else ((1 : Int32) <<< ((0 : Int32) &&& 31))) ||| (if G1 = (0 : Int32) then (0 : Int32) else ((1 : Int32) <<< ((1 : Int32) &&& 31)))) ||| (if G2 = (0 : Int32) then (0 : Int32) else ((1 : Int32) <<< ((2 : Int32) &&& 31)))) ||| (if G3 = (0 : Int32) then (0 : Int32) else ((1 : Int32) <<< ((3 : Int32) &&& 31)))) ||| (0 : Int32)) ||| (0 : Int32)) ||| (0 : Int32)))]) rfl ?_
      show Steps p.tables e below (T413.setTop (mkF m 144 #[.val (.int p0_0), .val (.int p0_1), .val (.int (4 : Int32)), .val (.int (15 : Int32)), .val (.int MM), .val (.ref b342), .val (.int RR), .val (.int ((MM + (1 : Int32)) &&& (15 : Int32))), .val (.int (((((((if G0 = (0 : Int32) then (0 : Int32) else ((1 : Int32) <<< ((0 : Int32) &&& 31))) ||| (if G1 = (0 : Int32) then (0 : Int32) else ((1 : Int32) <<< ((1 : Int32) &&& 31)))) ||| (if G2 = (0 : Int32) then (0 : Int32) else ((1 : Int32) <<< ((2 : Int32) &&& 31)))) ||| (if G3 = (0 : Int32) then (0 : Int32) else ((1 : Int32) <<< ((3 : Int32) &&& 31)))) ||| (0 : Int32)) ||| (0 : Int32)) ||| (0 : Int32)))] [])) _
      refine XS.aload X413.here hx rfl (hb hby at_144) rfl rfl ?_
      show Steps p.tables e below (T413.setTop (mkF m 146 #[.val (.int p0_0), .val (.int p0_1), .val (.int (4 : Int32)), .val (.int (15 : Int32)), .val (.int MM), .val (.ref b342), .val (.int RR), .val (.int ((MM + (1 : Int32)) &&& (15 : Int32))), .val (.int (((((((if G0 = (0 : Int32) then (0 : Int32) else ((1 : Int32) <<< ((0 : Int32) &&& 31))) ||| (if G1 = (0 : Int32) then (0 : Int32) else ((1 : Int32) <<< ((1 : Int32) &&& 31)))) ||| (if G2 = (0 : Int32) then (0 : Int32) else ((1 : Int32) <<< ((2 : Int32) &&& 31)))) ||| (if G3 = (0 : Int32) then (0 : Int32) else ((1 : Int32) <<< ((3 : Int32) &&& 31)))) ||| (0 : Int32)) ||| (0 : Int32)) ||| (0 : Int32)))] [(.ref b342)])) _
      refine X413.arraylength hx (by rw [e413]; exact Ar417.1) (State.isArrayOf_alike hZ.alike Ar417.2.1) (g := (mkF m 146 #[.val (.int p0_0), .val (.int p0_1), .val (.int (4 : Int32)), .val (.int (15 : Int32)), .val (.int MM), .val (.ref b342), .val (.int RR), .val (.int ((MM + (1 : Int32)) &&& (15 : Int32))), .val (.int (((((((if G0 = (0 : Int32) then (0 : Int32) else ((1 : Int32) <<< ((0 : Int32) &&& 31))) ||| (if G1 = (0 : Int32) then (0 : Int32) else ((1 : Int32) <<< ((1 : Int32) &&& 31)))) ||| (if G2 = (0 : Int32) then (0 : Int32) else ((1 : Int32) <<< ((2 : Int32) &&& 31)))) ||| (if G3 = (0 : Int32) then (0 : Int32) else ((1 : Int32) <<< ((3 : Int32) &&& 31)))) ||| (0 : Int32)) ||| (0 : Int32)) ||| (0 : Int32)))] [(.ref b342)])) rfl rfl (hb hby at_146) _ ?_
      rw [len_of S417 N417]
      show Steps p.tables e below (T413.setTop (mkF m 147 #[.val (.int p0_0), .val (.int p0_1), .val (.int (4 : Int32)), .val (.int (15 : Int32)), .val (.int MM), .val (.ref b342), .val (.int RR), .val (.int ((MM + (1 : Int32)) &&& (15 : Int32))), .val (.int (((((((if G0 = (0 : Int32) then (0 : Int32) else ((1 : Int32) <<< ((0 : Int32) &&& 31))) ||| (if G1 = (0 : Int32) then (0 : Int32) else ((1 : Int32) <<< ((1 : Int32) &&& 31)))) ||| (if G2 = (0 : Int32) then (0 : Int32) else ((1 : Int32) <<< ((2 : Int32) &&& 31)))) ||| (if G3 = (0 : Int32) then (0 : Int32) else ((1 : Int32) <<< ((3 : Int32) &&& 31)))) ||| (0 : Int32)) ||| (0 : Int32)) ||| (0 : Int32)))] [(.int (4 : Int32))])) _
      refine XS.iloadN X413.here hx rfl (hb hby at_147) rfl ?_
      show Steps p.tables e below (T413.setTop (mkF m 148 #[.val (.int p0_0), .val (.int p0_1), .val (.int (4 : Int32)), .val (.int (15 : Int32)), .val (.int MM), .val (.ref b342), .val (.int RR), .val (.int ((MM + (1 : Int32)) &&& (15 : Int32))), .val (.int (((((((if G0 = (0 : Int32) then (0 : Int32) else ((1 : Int32) <<< ((0 : Int32) &&& 31))) ||| (if G1 = (0 : Int32) then (0 : Int32) else ((1 : Int32) <<< ((1 : Int32) &&& 31)))) ||| (if G2 = (0 : Int32) then (0 : Int32) else ((1 : Int32) <<< ((2 : Int32) &&& 31)))) ||| (if G3 = (0 : Int32) then (0 : Int32) else ((1 : Int32) <<< ((3 : Int32) &&& 31)))) ||| (0 : Int32)) ||| (0 : Int32)) ||| (0 : Int32)))] [(.int (4 : Int32)), (.int (4 : Int32))])) _
      refine XS.icmpNo X413.here hx rfl (hb hby at_148) rfl (teq (by decide : (4 : Int32) = (4 : Int32))).2 ?_
      show Steps p.tables e below (T413.setTop (mkF m 151 #[.val (.int p0_0), .val (.int p0_1), .val (.int (4 : Int32)), .val (.int (15 : Int32)), .val (.int MM), .val (.ref b342), .val (.int RR), .val (.int ((MM + (1 : Int32)) &&& (15 : Int32))), .val (.int (((((((if G0 = (0 : Int32) then (0 : Int32) else ((1 : Int32) <<< ((0 : Int32) &&& 31))) ||| (if G1 = (0 : Int32) then (0 : Int32) else ((1 : Int32) <<< ((1 : Int32) &&& 31)))) ||| (if G2 = (0 : Int32) then (0 : Int32) else ((1 : Int32) <<< ((2 : Int32) &&& 31)))) ||| (if G3 = (0 : Int32) then (0 : Int32) else ((1 : Int32) <<< ((3 : Int32) &&& 31)))) ||| (0 : Int32)) ||| (0 : Int32)) ||| (0 : Int32)))] [])) _
      refine XS.iload X413.here hx rfl (hb hby at_151) rfl ?_
      refine XS.iload X413.here hx rfl (hb hby at_153) rfl ?_
      refine XS.iloadN X413.here hx rfl (hb hby at_155) rfl ?_
      exact k)
    have pre420 : ∀ t, Steps p.tables e below (T413.setTop (mkF m 164 #[.val (.int p0_0), .val (.int p0_1), .val (.int (4 : Int32)), .val (.int (15 : Int32)), .val (.int MM), .val (.ref b342), .val (.int RR), .val (.int ((MM + (1 : Int32)) &&& (15 : Int32))), .val (.int (((((((if G0 = (0 : Int32) then (0 : Int32) else ((1 : Int32) <<< ((0 : Int32) &&& 31))) ||| (if G1 = (0 : Int32) then (0 : Int32) else ((1 : Int32) <<< ((1 : Int32) &&& 31)))) ||| (if G2 = (0 : Int32) then (0 : Int32) else ((1 : Int32) <<< ((2 : Int32) &&& 31)))) ||| (if G3 = (0 : Int32) then (0 : Int32) else ((1 : Int32) <<< ((3 : Int32) &&& 31)))) ||| (0 : Int32)) ||| (0 : Int32)) ||| (0 : Int32)))] [(.int (bI (¬ (MM = (15 : Int32))))), (.int RR)])) t → Steps p.tables e below (s₁.setTop (entryFrame m #[(.int p0_0), (.int p0_1)] maxLocals)) t := fun t k => pre419 t (by
      by_cases hc418 : MM = (15 : Int32)
      · show Steps p.tables e below (T413.setTop (mkF m 156 #[.val (.int p0_0), .val (.int p0_1), .val (.int (4 : Int32)), .val (.int (15 : Int32)), .val (.int MM), .val (.ref b342), .val (.int RR), .val (.int ((MM + (1 : Int32)) &&& (15 : Int32))), .val (.int (((((((if G0 = (0 : Int32) then (0 : Int32) else ((1 : Int32) <<< ((0 : Int32) &&& 31))) ||| (if G1 = (0 : Int32) then (0 : Int32) else ((1 : Int32) <<< ((1 : Int32) &&& 31)))) ||| (if G2 = (0 : Int32) then (0 : Int32) else ((1 : Int32) <<< ((2 : Int32) &&& 31)))) ||| (if G3 = (0 : Int32) then (0 : Int32) else ((1 : Int32) <<< ((3 : Int32) &&& 31)))) ||| (0 : Int32)) ||| (0 : Int32)) ||| (0 : Int32)))] [(.int (15 : Int32)), (.int MM), (.int RR)])) _
        refine XS.icmpYes X413.here hx rfl (pc0 := 156) (pc' := 163) rfl (hb hby at_156) rfl (teq hc418).1 (by decide) (by decide) ?_
        show Steps p.tables e below (T413.setTop (mkF m 163 #[.val (.int p0_0), .val (.int p0_1), .val (.int (4 : Int32)), .val (.int (15 : Int32)), .val (.int MM), .val (.ref b342), .val (.int RR), .val (.int ((MM + (1 : Int32)) &&& (15 : Int32))), .val (.int (((((((if G0 = (0 : Int32) then (0 : Int32) else ((1 : Int32) <<< ((0 : Int32) &&& 31))) ||| (if G1 = (0 : Int32) then (0 : Int32) else ((1 : Int32) <<< ((1 : Int32) &&& 31)))) ||| (if G2 = (0 : Int32) then (0 : Int32) else ((1 : Int32) <<< ((2 : Int32) &&& 31)))) ||| (if G3 = (0 : Int32) then (0 : Int32) else ((1 : Int32) <<< ((3 : Int32) &&& 31)))) ||| (0 : Int32)) ||| (0 : Int32)) ||| (0 : Int32)))] [(.int RR)])) _
        refine XS.iconst X413.here hx rfl (hb hby at_163) ?_
        have q421 : (bI (¬ (MM = (15 : Int32)))) = (0 : Int32) := (bI_f (fun q => q hc418))
        exact castTop (g := (mkF m 164 #[.val (.int p0_0), .val (.int p0_1), .val (.int (4 : Int32)), .val (.int (15 : Int32)), .val (.int MM), .val (.ref b342), .val (.int RR), .val (.int ((MM + (1 : Int32)) &&& (15 : Int32))), .val (.int (((((((if G0 = (0 : Int32) then (0 : Int32) else ((1 : Int32) <<< ((0 : Int32) &&& 31))) ||| (if G1 = (0 : Int32) then (0 : Int32) else ((1 : Int32) <<< ((1 : Int32) &&& 31)))) ||| (if G2 = (0 : Int32) then (0 : Int32) else ((1 : Int32) <<< ((2 : Int32) &&& 31)))) ||| (if G3 = (0 : Int32) then (0 : Int32) else ((1 : Int32) <<< ((3 : Int32) &&& 31)))) ||| (0 : Int32)) ||| (0 : Int32)) ||| (0 : Int32)))] [(.int (0 : Int32)), (.int RR)])) (g' := (mkF m 164 #[.val (.int p0_0), .val (.int p0_1), .val (.int (4 : Int32)), .val (.int (15 : Int32)), .val (.int MM), .val (.ref b342), .val (.int RR), .val (.int ((MM + (1 : Int32)) &&& (15 : Int32))), .val (.int (((((((if G0 = (0 : Int32) then (0 : Int32) else ((1 : Int32) <<< ((0 : Int32) &&& 31))) ||| (if G1 = (0 : Int32) then (0 : Int32) else ((1 : Int32) <<< ((1 : Int32) &&& 31)))) ||| (if G2 = (0 : Int32) then (0 : Int32) else ((1 : Int32) <<< ((2 : Int32) &&& 31)))) ||| (if G3 = (0 : Int32) then (0 : Int32) else ((1 : Int32) <<< ((3 : Int32) &&& 31)))) ||| (0 : Int32)) ||| (0 : Int32)) ||| (0 : Int32)))] [(.int (bI (¬ (MM = (15 : Int32))))), (.int RR)])) (by simp only [q421]) k
      · show Steps p.tables e below (T413.setTop (mkF m 156 #[.val (.int p0_0), .val (.int p0_1), .val (.int (4 : Int32)), .val (.int (15 : Int32)), .val (.int MM), .val (.ref b342), .val (.int RR), .val (.int ((MM + (1 : Int32)) &&& (15 : Int32))), .val (.int (((((((if G0 = (0 : Int32) then (0 : Int32) else ((1 : Int32) <<< ((0 : Int32) &&& 31))) ||| (if G1 = (0 : Int32) then (0 : Int32) else ((1 : Int32) <<< ((1 : Int32) &&& 31)))) ||| (if G2 = (0 : Int32) then (0 : Int32) else ((1 : Int32) <<< ((2 : Int32) &&& 31)))) ||| (if G3 = (0 : Int32) then (0 : Int32) else ((1 : Int32) <<< ((3 : Int32) &&& 31)))) ||| (0 : Int32)) ||| (0 : Int32)) ||| (0 : Int32)))] [(.int (15 : Int32)), (.int MM), (.int RR)])) _
        refine XS.icmpNo X413.here hx rfl (hb hby at_156) rfl (feq hc418).1 ?_
        show Steps p.tables e below (T413.setTop (mkF m 159 #[.val (.int p0_0), .val (.int p0_1), .val (.int (4 : Int32)), .val (.int (15 : Int32)), .val (.int MM), .val (.ref b342), .val (.int RR), .val (.int ((MM + (1 : Int32)) &&& (15 : Int32))), .val (.int (((((((if G0 = (0 : Int32) then (0 : Int32) else ((1 : Int32) <<< ((0 : Int32) &&& 31))) ||| (if G1 = (0 : Int32) then (0 : Int32) else ((1 : Int32) <<< ((1 : Int32) &&& 31)))) ||| (if G2 = (0 : Int32) then (0 : Int32) else ((1 : Int32) <<< ((2 : Int32) &&& 31)))) ||| (if G3 = (0 : Int32) then (0 : Int32) else ((1 : Int32) <<< ((3 : Int32) &&& 31)))) ||| (0 : Int32)) ||| (0 : Int32)) ||| (0 : Int32)))] [(.int RR)])) _
        refine XS.iconst X413.here hx rfl (hb hby at_159) ?_
        show Steps p.tables e below (T413.setTop (mkF m 160 #[.val (.int p0_0), .val (.int p0_1), .val (.int (4 : Int32)), .val (.int (15 : Int32)), .val (.int MM), .val (.ref b342), .val (.int RR), .val (.int ((MM + (1 : Int32)) &&& (15 : Int32))), .val (.int (((((((if G0 = (0 : Int32) then (0 : Int32) else ((1 : Int32) <<< ((0 : Int32) &&& 31))) ||| (if G1 = (0 : Int32) then (0 : Int32) else ((1 : Int32) <<< ((1 : Int32) &&& 31)))) ||| (if G2 = (0 : Int32) then (0 : Int32) else ((1 : Int32) <<< ((2 : Int32) &&& 31)))) ||| (if G3 = (0 : Int32) then (0 : Int32) else ((1 : Int32) <<< ((3 : Int32) &&& 31)))) ||| (0 : Int32)) ||| (0 : Int32)) ||| (0 : Int32)))] [(.int (1 : Int32)), (.int RR)])) _
        refine XS.goto X413.here hx rfl (pc0 := 160) (pc' := 164) rfl (hb hby at_160) (by decide) (by decide) ?_
        have q422 : (bI (¬ (MM = (15 : Int32)))) = (1 : Int32) := (bI_t hc418)
        exact castTop (g := (mkF m 164 #[.val (.int p0_0), .val (.int p0_1), .val (.int (4 : Int32)), .val (.int (15 : Int32)), .val (.int MM), .val (.ref b342), .val (.int RR), .val (.int ((MM + (1 : Int32)) &&& (15 : Int32))), .val (.int (((((((if G0 = (0 : Int32) then (0 : Int32) else ((1 : Int32) <<< ((0 : Int32) &&& 31))) ||| (if G1 = (0 : Int32) then (0 : Int32) else ((1 : Int32) <<< ((1 : Int32) &&& 31)))) ||| (if G2 = (0 : Int32) then (0 : Int32) else ((1 : Int32) <<< ((2 : Int32) &&& 31)))) ||| (if G3 = (0 : Int32) then (0 : Int32) else ((1 : Int32) <<< ((3 : Int32) &&& 31)))) ||| (0 : Int32)) ||| (0 : Int32)) ||| (0 : Int32)))] [(.int (1 : Int32)), (.int RR)])) (g' := (mkF m 164 #[.val (.int p0_0), .val (.int p0_1), .val (.int (4 : Int32)), .val (.int (15 : Int32)), .val (.int MM), .val (.ref b342), .val (.int RR), .val (.int ((MM + (1 : Int32)) &&& (15 : Int32))), .val (.int (((((((if G0 = (0 : Int32) then (0 : Int32) else ((1 : Int32) <<< ((0 : Int32) &&& 31))) ||| (if G1 = (0 : Int32) then (0 : Int32) else ((1 : Int32) <<< ((1 : Int32) &&& 31)))) ||| (if G2 = (0 : Int32) then (0 : Int32) else ((1 : Int32) <<< ((2 : Int32) &&& 31)))) ||| (if G3 = (0 : Int32) then (0 : Int32) else ((1 : Int32) <<< ((3 : Int32) &&& 31)))) ||| (0 : Int32)) ||| (0 : Int32)) ||| (0 : Int32)))] [(.int (bI (¬ (MM = (15 : Int32))))), (.int RR)])) (by simp only [q422]) k)
    have hd423 : RR = (bI (¬ (MM = (15 : Int32)))) := by
      rw [hRR]
      exact own_fin (P := fun y : Int32 => (bI (((own_b y (0 : Int32)) = (0 : Int32)) ∨ (((own_b y (1 : Int32)) = (0 : Int32)) ∨ (((own_b y (2 : Int32)) = (0 : Int32)) ∨ ((own_b y (3 : Int32)) = (0 : Int32)))))) = (bI (¬ (y = (15 : Int32))))) own_r_4 MM hM.1 hM.2
    have hd424 : (((((((if G0 = (0 : Int32) then (0 : Int32) else ((1 : Int32) <<< ((0 : Int32) &&& 31))) ||| (if G1 = (0 : Int32) then (0 : Int32) else ((1 : Int32) <<< ((1 : Int32) &&& 31)))) ||| (if G2 = (0 : Int32) then (0 : Int32) else ((1 : Int32) <<< ((2 : Int32) &&& 31)))) ||| (if G3 = (0 : Int32) then (0 : Int32) else ((1 : Int32) <<< ((3 : Int32) &&& 31)))) ||| (0 : Int32)) ||| (0 : Int32)) ||| (0 : Int32)) = ((MM + (1 : Int32)) &&& (15 : Int32)) := by
      rw [hG0, hG1, hG2, hG3]
      exact own_fin (P := fun y : Int32 => (((((((if (bI ((own_b y (0 : Int32)) = (0 : Int32))) = (0 : Int32) then (0 : Int32) else ((1 : Int32) <<< ((0 : Int32) &&& 31))) ||| (if (if (own_b y (0 : Int32)) = (0 : Int32) then (own_b y (1 : Int32)) else (bI ((own_b y (1 : Int32)) = (0 : Int32)))) = (0 : Int32) then (0 : Int32) else ((1 : Int32) <<< ((1 : Int32) &&& 31)))) ||| (if (if (own_b y (0 : Int32)) = (0 : Int32) then (own_b y (2 : Int32)) else (if (own_b y (1 : Int32)) = (0 : Int32) then (own_b y (2 : Int32)) else (bI ((own_b y (2 : Int32)) = (0 : Int32))))) = (0 : Int32) then (0 : Int32) else ((1 : Int32) <<< ((2 : Int32) &&& 31)))) ||| (if (if (own_b y (0 : Int32)) = (0 : Int32) then (own_b y (3 : Int32)) else (if (own_b y (1 : Int32)) = (0 : Int32) then (own_b y (3 : Int32)) else (if (own_b y (2 : Int32)) = (0 : Int32) then (own_b y (3 : Int32)) else (bI ((own_b y (3 : Int32)) = (0 : Int32)))))) = (0 : Int32) then (0 : Int32) else ((1 : Int32) <<< ((3 : Int32) &&& 31)))) ||| (0 : Int32)) ||| (0 : Int32)) ||| (0 : Int32)) = ((y + (1 : Int32)) &&& (15 : Int32))) own_g_4 MM hM.1 hM.2
    obtain ⟨fs, hr, hrun, hended, hW, hsame⟩ := X413.leave (v := some (.int (1 : Int32))) (fun h => by rw [Bd.returns] at h; cases h)
    refine ⟨_, _, pre420 _ ?_, hrun, hended, _, _, rfl, ?_, ⟨_, rfl⟩, hW, hsame.mono (by decide) (by decide)⟩
    · show Steps p.tables e below (T413.setTop (mkF m 164 #[.val (.int p0_0), .val (.int p0_1), .val (.int (4 : Int32)), .val (.int (15 : Int32)), .val (.int MM), .val (.ref b342), .val (.int RR), .val (.int ((MM + (1 : Int32)) &&& (15 : Int32))), .val (.int (((((((if G0 = (0 : Int32) then (0 : Int32) else ((1 : Int32) <<< ((0 : Int32) &&& 31))) ||| (if G1 = (0 : Int32) then (0 : Int32) else ((1 : Int32) <<< ((1 : Int32) &&& 31)))) ||| (if G2 = (0 : Int32) then (0 : Int32) else ((1 : Int32) <<< ((2 : Int32) &&& 31)))) ||| (if G3 = (0 : Int32) then (0 : Int32) else ((1 : Int32) <<< ((3 : Int32) &&& 31)))) ||| (0 : Int32)) ||| (0 : Int32)) ||| (0 : Int32)))] [(.int (bI (¬ (MM = (15 : Int32))))), (.int RR)])) _
      refine XS.icmpNo X413.here hx rfl (hb hby at_164) rfl (teq hd423).2 ?_
      show Steps p.tables e below (T413.setTop (mkF m 167 #[.val (.int p0_0), .val (.int p0_1), .val (.int (4 : Int32)), .val (.int (15 : Int32)), .val (.int MM), .val (.ref b342), .val (.int RR), .val (.int ((MM + (1 : Int32)) &&& (15 : Int32))), .val (.int (((((((if G0 = (0 : Int32) then (0 : Int32) else ((1 : Int32) <<< ((0 : Int32) &&& 31))) ||| (if G1 = (0 : Int32) then (0 : Int32) else ((1 : Int32) <<< ((1 : Int32) &&& 31)))) ||| (if G2 = (0 : Int32) then (0 : Int32) else ((1 : Int32) <<< ((2 : Int32) &&& 31)))) ||| (if G3 = (0 : Int32) then (0 : Int32) else ((1 : Int32) <<< ((3 : Int32) &&& 31)))) ||| (0 : Int32)) ||| (0 : Int32)) ||| (0 : Int32)))] [])) _
      refine XS.iload X413.here hx rfl (hb hby at_167) rfl ?_
      refine XS.iload X413.here hx rfl (hb hby at_169) rfl ?_
      show Steps p.tables e below (T413.setTop (mkF m 171 #[.val (.int p0_0), .val (.int p0_1), .val (.int (4 : Int32)), .val (.int (15 : Int32)), .val (.int MM), .val (.ref b342), .val (.int RR), .val (.int ((MM + (1 : Int32)) &&& (15 : Int32))), .val (.int (((((((if G0 = (0 : Int32) then (0 : Int32) else ((1 : Int32) <<< ((0 : Int32) &&& 31))) ||| (if G1 = (0 : Int32) then (0 : Int32) else ((1 : Int32) <<< ((1 : Int32) &&& 31)))) ||| (if G2 = (0 : Int32) then (0 : Int32) else ((1 : Int32) <<< ((2 : Int32) &&& 31)))) ||| (if G3 = (0 : Int32) then (0 : Int32) else ((1 : Int32) <<< ((3 : Int32) &&& 31)))) ||| (0 : Int32)) ||| (0 : Int32)) ||| (0 : Int32)))] [(.int ((MM + (1 : Int32)) &&& (15 : Int32))), (.int (((((((if G0 = (0 : Int32) then (0 : Int32) else ((1 : Int32) <<< ((0 : Int32) &&& 31))) ||| (if G1 = (0 : Int32) then (0 : Int32) else ((1 : Int32) <<< ((1 : Int32) &&& 31)))) ||| (if G2 = (0 : Int32) then (0 : Int32) else ((1 : Int32) <<< ((2 : Int32) &&& 31)))) ||| (if G3 = (0 : Int32) then (0 : Int32) else ((1 : Int32) <<< ((3 : Int32) &&& 31)))) ||| (0 : Int32)) ||| (0 : Int32)) ||| (0 : Int32)))])) _
      refine XS.icmpNo X413.here hx rfl (hb hby at_171) rfl (teq hd424).2 ?_
      show Steps p.tables e below (T413.setTop (mkF m 174 #[.val (.int p0_0), .val (.int p0_1), .val (.int (4 : Int32)), .val (.int (15 : Int32)), .val (.int MM), .val (.ref b342), .val (.int RR), .val (.int ((MM + (1 : Int32)) &&& (15 : Int32))), .val (.int (((((((if G0 = (0 : Int32) then (0 : Int32) else ((1 : Int32) <<< ((0 : Int32) &&& 31))) ||| (if G1 = (0 : Int32) then (0 : Int32) else ((1 : Int32) <<< ((1 : Int32) &&& 31)))) ||| (if G2 = (0 : Int32) then (0 : Int32) else ((1 : Int32) <<< ((2 : Int32) &&& 31)))) ||| (if G3 = (0 : Int32) then (0 : Int32) else ((1 : Int32) <<< ((3 : Int32) &&& 31)))) ||| (0 : Int32)) ||| (0 : Int32)) ||| (0 : Int32)))] [])) _
      refine XS.iconst X413.here hx rfl (hb hby at_174) ?_
      refine XS.goto X413.here hx rfl (pc0 := 175) (pc' := 179) rfl (hb hby at_175) (by decide) (by decide) ?_
      show Steps p.tables e below (T413.setTop (mkF m 179 #[.val (.int p0_0), .val (.int p0_1), .val (.int (4 : Int32)), .val (.int (15 : Int32)), .val (.int MM), .val (.ref b342), .val (.int RR), .val (.int ((MM + (1 : Int32)) &&& (15 : Int32))), .val (.int (((((((if G0 = (0 : Int32) then (0 : Int32) else ((1 : Int32) <<< ((0 : Int32) &&& 31))) ||| (if G1 = (0 : Int32) then (0 : Int32) else ((1 : Int32) <<< ((1 : Int32) &&& 31)))) ||| (if G2 = (0 : Int32) then (0 : Int32) else ((1 : Int32) <<< ((2 : Int32) &&& 31)))) ||| (if G3 = (0 : Int32) then (0 : Int32) else ((1 : Int32) <<< ((3 : Int32) &&& 31)))) ||| (0 : Int32)) ||| (0 : Int32)) ||| (0 : Int32)))] [(.int (1 : Int32))])) _
      exact retN X413 hx (t := .boolean) Bd.returns (by simp) (hb hby at_179) hr
    · show Q0 Z p0_0 p0_1 h0 n0 _ T413.heap _
      rw [e413]
      exact ⟨rfl, N415⟩
  · have pre425 : ∀ t, Steps p.tables e below (s₁.setTop (mkF m 5 #[.val (.int p0_0), .val (.int p0_1), .val (.int (5 : Int32)), .unset, .unset, .unset, .unset, .unset, .unset] [])) t → Steps p.tables e below (s₁.setTop (entryFrame m #[(.int p0_0), (.int p0_1)] maxLocals)) t := fun t k => pre1 t (castTop (by rw [hk]) k)
    have pre426 : ∀ t, Steps p.tables e below (s₁.setTop (mkF m 11 #[.val (.int p0_0), .val (.int p0_1), .val (.int (5 : Int32)), .val (.int (((1 : Int32) <<< ((5 : Int32) &&& 31)) - (1 : Int32))), .unset, .unset, .unset, .unset, .unset] [])) t → Steps p.tables e below (s₁.setTop (entryFrame m #[(.int p0_0), (.int p0_1)] maxLocals)) t := fun t k => pre425 t (by
      show Steps p.tables e below (s₁.setTop (mkF m 5 #[.val (.int p0_0), .val (.int p0_1), .val (.int (5 : Int32)), .unset, .unset, .unset, .unset, .unset, .unset] [])) _
      refine XS.iconst X0.here hx rfl (hb hby at_5) ?_
      refine XS.iloadN X0.here hx rfl (hb hby at_6) rfl ?_
      show Steps p.tables e below (s₁.setTop (mkF m 7 #[.val (.int p0_0), .val (.int p0_1), .val (.int (5 : Int32)), .unset, .unset, .unset, .unset, .unset, .unset] [(.int (5 : Int32)), (.int (1 : Int32))])) _
      refine XS.ishl X0.here hx rfl (hb hby at_7) rfl ?_
      show Steps p.tables e below (s₁.setTop (mkF m 8 #[.val (.int p0_0), .val (.int p0_1), .val (.int (5 : Int32)), .unset, .unset, .unset, .unset, .unset, .unset] [(.int ((1 : Int32) <<< ((5 : Int32) &&& 31)))])) _
      refine XS.iconst X0.here hx rfl (hb hby at_8) ?_
      refine XS.isub X0.here hx rfl (hb hby at_9) rfl ?_
      show Steps p.tables e below (s₁.setTop (mkF m 10 #[.val (.int p0_0), .val (.int p0_1), .val (.int (5 : Int32)), .unset, .unset, .unset, .unset, .unset, .unset] [(.int (((1 : Int32) <<< ((5 : Int32) &&& 31)) - (1 : Int32)))])) _
      refine XS.istoreN X0.here hx rfl (hb hby at_10) rfl (l' := #[.val (.int p0_0), .val (.int p0_1), .val (.int (5 : Int32)), .val (.int (((1 : Int32) <<< ((5 : Int32) &&& 31)) - (1 : Int32))), .unset, .unset, .unset, .unset, .unset]) rfl ?_
      exact k)
    have hl427 : (((1 : Int32) <<< ((5 : Int32) &&& 31)) - (1 : Int32)) = (31 : Int32) := by
      decide
    have pre428 : ∀ t, Steps p.tables e below (s₁.setTop (mkF m 11 #[.val (.int p0_0), .val (.int p0_1), .val (.int (5 : Int32)), .val (.int (31 : Int32)), .unset, .unset, .unset, .unset, .unset] [])) t → Steps p.tables e below (s₁.setTop (entryFrame m #[(.int p0_0), (.int p0_1)] maxLocals)) t := fun t k => pre426 t (castTop (by rw [hl427]) k)
    have pre429 : ∀ t, Steps p.tables e below (s₁.setTop (mkF m 16 #[.val (.int p0_0), .val (.int p0_1), .val (.int (5 : Int32)), .val (.int (31 : Int32)), .val (.int (p0_1 &&& (31 : Int32))), .unset, .unset, .unset, .unset] [])) t → Steps p.tables e below (s₁.setTop (entryFrame m #[(.int p0_0), (.int p0_1)] maxLocals)) t := fun t k => pre428 t (by
      show Steps p.tables e below (s₁.setTop (mkF m 11 #[.val (.int p0_0), .val (.int p0_1), .val (.int (5 : Int32)), .val (.int (31 : Int32)), .unset, .unset, .unset, .unset, .unset] [])) _
      refine XS.iloadN X0.here hx rfl (hb hby at_11) rfl ?_
      refine XS.iloadN X0.here hx rfl (hb hby at_12) rfl ?_
      refine XS.iand X0.here hx rfl (hb hby at_13) rfl ?_
      show Steps p.tables e below (s₁.setTop (mkF m 14 #[.val (.int p0_0), .val (.int p0_1), .val (.int (5 : Int32)), .val (.int (31 : Int32)), .unset, .unset, .unset, .unset, .unset] [(.int (p0_1 &&& (31 : Int32)))])) _
      refine XS.istore X0.here hx rfl (hb hby at_14) rfl (l' := #[.val (.int p0_0), .val (.int p0_1), .val (.int (5 : Int32)), .val (.int (31 : Int32)), .val (.int (p0_1 &&& (31 : Int32))), .unset, .unset, .unset, .unset]) rfl ?_
      exact k)
    obtain ⟨MM, hMM⟩ : ∃ z : Int32, z = (p0_1 &&& (31 : Int32)) := ⟨_, rfl⟩
    have pre430 : ∀ t, Steps p.tables e below (s₁.setTop (mkF m 16 #[.val (.int p0_0), .val (.int p0_1), .val (.int (5 : Int32)), .val (.int (31 : Int32)), .val (.int MM), .unset, .unset, .unset, .unset] [])) t → Steps p.tables e below (s₁.setTop (entryFrame m #[(.int p0_0), (.int p0_1)] maxLocals)) t := fun t k => pre429 t (castTop (by rw [hMM]) k)
    have hM : 0 ≤ MM.toInt ∧ MM.toInt < (32 : Nat) := by
      rw [hMM]
      have e := c_mask p0_1 (31 : Int32) 5 (by decide) (by decide)
      omega
    obtain ⟨T431, h431, k431, X431, e431, E431, A431, st431⟩ := newP X0 hx hZ (hVV 0 _ rfl) e0 (g := (mkF m 17 #[.val (.int p0_0), .val (.int p0_1), .val (.int (5 : Int32)), .val (.int (31 : Int32)), .val (.int MM), .unset, .unset, .unset, .unset] [(.int (5 : Int32))])) rfl (hb hby at_17) rfl (by decide) (cap := 5) (by decide) (by decide) (by decide) (by decide)
    obtain ⟨b431, g431⟩ : ∃ z, z = h0.size := ⟨_, rfl⟩
    rw [← g431] at A431 st431
    have gz431 : n0 ≤ b431 := Nat.le_trans Z0 (Nat.le_of_eq g431.symm)
    have pre432 : ∀ t, Steps p.tables e below (T431.setTop (mkF m 19 #[.val (.int p0_0), .val (.int p0_1), .val (.int (5 : Int32)), .val (.int (31 : Int32)), .val (.int MM), .unset, .unset, .unset, .unset] [(.ref b431)])) t → Steps p.tables e below (s₁.setTop (entryFrame m #[(.int p0_0), (.int p0_1)] maxLocals)) t := fun t k => pre430 t (by
      show Steps p.tables e below (s₁.setTop (mkF m 16 #[.val (.int p0_0), .val (.int p0_1), .val (.int (5 : Int32)), .val (.int (31 : Int32)), .val (.int MM), .unset, .unset, .unset, .unset] [])) _
      refine XS.iloadN X0.here hx rfl (hb hby at_16) rfl ?_
      show Steps p.tables e below (s₁.setTop (mkF m 17 #[.val (.int p0_0), .val (.int p0_1), .val (.int (5 : Int32)), .val (.int (31 : Int32)), .val (.int MM), .unset, .unset, .unset, .unset] [(.int (5 : Int32))])) _
      refine st431 _ ?_
      exact k)
    have z433 := Nat.le_trans Z0 E431.1
    have V434 : Arv Z h431 b431 k431 .boolean (5 : Int32) [(.int (0 : Int32)), (.int (0 : Int32)), (.int (0 : Int32)), (.int (0 : Int32)), (.int (0 : Int32))] (.int (0 : Int32)) := (Arv.new A431 (by decide)).pad (pad_rep [] (.int (0 : Int32)) 5)
    have hq436 : (0 : Int32) < (5 : Int32) := by
      decide
    obtain ⟨_, _, ⟨T435, L435, k435, n435⟩, -, X435, ⟨Lc435, hQ435, l435, y435, z435⟩, st435⟩ := Jvm.LawKit.callS X431 hx (y := mn0) hown (mvT hZ (hVV 1 _ rfl)) (mvT hZ (hVV 2 _ rfl)) (mvT hZ (hVV 3 _ rfl)) (mvT hZ (hVV 4 _ rfl)) (by decide) (backOf (W := 0) (rm1_i l Z a0 hw [] b431 (0 : Int32) MM k431 (5 : Int32) ([(.int (0 : Int32)), (.int (0 : Int32)), (.int (0 : Int32)), (.int (0 : Int32)), (.int (0 : Int32))]) h431 n0 z433 V434 (by decide) (Nat.le_of_ble_eq_true rfl) hq436 gz431) hZ (hVV 4 _ rfl) (hVV 3 _ rfl) (by decide) (by decide)) (g := (mkF m 26 #[.val (.int p0_0), .val (.int p0_1), .val (.int (5 : Int32)), .val (.int (31 : Int32)), .val (.int MM), .val (.ref b431), .unset, .unset, .unset] [(.int MM), (.int (0 : Int32)), (.ref b431)])) rfl (by rw [hml]; rfl) (argsL := [(.ref b431), (.int (0 : Int32)), (.int MM)]) (rest := []) (lenOf pd_0 rfl) rfl (by show 2 * 0 + _ ≤ _; exact Nat.le_of_eq rfl) (hb hby at_26) (fun _ _ => ⟨rfl, e431, (by decide : 1 + 0 ≤ _), (by decide : 5 + 0 ≤ _)⟩)
    dsimp only [Pt.U, Pt.locs, Pt.cells, Pt.slots] at X435 l435 y435 z435 st435 hQ435
    subst l435 y435 z435
    obtain ⟨rfl, N435q, K435, r435_0⟩ := hQ435
    have N437 := Fr.app N0 N435q
    have pre438 : ∀ t, Steps p.tables e below (T435.setTop (mkF m 29 #[.val (.int p0_0), .val (.int p0_1), .val (.int (5 : Int32)), .val (.int (31 : Int32)), .val (.int MM), .val (.ref b431), .unset, .unset, .unset] [])) t → Steps p.tables e below (s₁.setTop (entryFrame m #[(.int p0_0), (.int p0_1)] maxLocals)) t := fun t k => pre432 t (by
      show Steps p.tables e below (T431.setTop (mkF m 19 #[.val (.int p0_0), .val (.int p0_1), .val (.int (5 : Int32)), .val (.int (31 : Int32)), .val (.int MM), .unset, .unset, .unset, .unset] [(.ref b431)])) _
      refine XS.astore X431.here hx rfl (hb hby at_19) rfl rfl (l' := #[.val (.int p0_0), .val (.int p0_1), .val (.int (5 : Int32)), .val (.int (31 : Int32)), .val (.int MM), .val (.ref b431), .unset, .unset, .unset]) rfl ?_
      show Steps p.tables e below (T431.setTop (mkF m 21 #[.val (.int p0_0), .val (.int p0_1), .val (.int (5 : Int32)), .val (.int (31 : Int32)), .val (.int MM), .val (.ref b431), .unset, .unset, .unset] [])) _
      refine XS.aload X431.here hx rfl (hb hby at_21) rfl rfl ?_
      refine XS.iconst X431.here hx rfl (hb hby at_23) ?_
      refine XS.iload X431.here hx rfl (hb hby at_24) rfl ?_
      show Steps p.tables e below (T431.setTop (mkF m 26 #[.val (.int p0_0), .val (.int p0_1), .val (.int (5 : Int32)), .val (.int (31 : Int32)), .val (.int MM), .val (.ref b431), .unset, .unset, .unset] [(.int MM), (.int (0 : Int32)), (.ref b431)])) _
      refine st435 _ ?_
      exact k)
    have z439 := Nat.le_trans z433 K435.1
    have V440 : Arv Z T435.heap b431 k431 .boolean (5 : Int32) [(.int (own_b MM (0 : Int32))), (.int (0 : Int32)), (.int (0 : Int32)), (.int (0 : Int32)), (.int (0 : Int32))] (.int (0 : Int32)) := r435_0
    have hq442 : (1 : Int32) < (5 : Int32) := by
      decide
    obtain ⟨_, _, ⟨T441, L441, k441, n441⟩, -, X441, ⟨Lc441, hQ441, l441, y441, z441⟩, st441⟩ := Jvm.LawKit.callS X435 hx (y := mn0) hown (mvT hZ (hVV 1 _ rfl)) (mvT hZ (hVV 2 _ rfl)) (mvT hZ (hVV 3 _ rfl)) (mvT hZ (hVV 4 _ rfl)) (by decide) (backOf (W := 0) (rm1_i l Z a0 hw [] b431 (1 : Int32) MM k431 (5 : Int32) ([(.int (own_b MM (0 : Int32))), (.int (0 : Int32)), (.int (0 : Int32)), (.int (0 : Int32)), (.int (0 : Int32))]) T435.heap n0 z439 V440 (by decide) (Nat.le_of_ble_eq_true rfl) hq442 gz431) hZ (hVV 4 _ rfl) (hVV 3 _ rfl) (by decide) (by decide)) (g := (mkF m 34 #[.val (.int p0_0), .val (.int p0_1), .val (.int (5 : Int32)), .val (.int (31 : Int32)), .val (.int MM), .val (.ref b431), .unset, .unset, .unset] [(.int MM), (.int (1 : Int32)), (.ref b431)])) rfl (by rw [hml]; rfl) (argsL := [(.ref b431), (.int (1 : Int32)), (.int MM)]) (rest := []) (lenOf pd_0 rfl) rfl (by show 2 * 0 + _ ≤ _; exact Nat.le_of_eq rfl) (hb hby at_34) (fun _ _ => ⟨rfl, rfl, (by decide : 1 + 0 ≤ _), (by decide : 5 + 0 ≤ _)⟩)
    dsimp only [Pt.U, Pt.locs, Pt.cells, Pt.slots] at X441 l441 y441 z441 st441 hQ441
    subst l441 y441 z441
    obtain ⟨rfl, N441q, K441, r441_0⟩ := hQ441
    have N443 := Fr.app N437 N441q
    have pre444 : ∀ t, Steps p.tables e below (T441.setTop (mkF m 37 #[.val (.int p0_0), .val (.int p0_1), .val (.int (5 : Int32)), .val (.int (31 : Int32)), .val (.int MM), .val (.ref b431), .unset, .unset, .unset] [])) t → Steps p.tables e below (s₁.setTop (entryFrame m #[(.int p0_0), (.int p0_1)] maxLocals)) t := fun t k => pre438 t (by
      show Steps p.tables e below (T435.setTop (mkF m 29 #[.val (.int p0_0), .val (.int p0_1), .val (.int (5 : Int32)), .val (.int (31 : Int32)), .val (.int MM), .val (.ref b431), .unset, .unset, .unset] [])) _
      refine XS.aload X435.here hx rfl (hb hby at_29) rfl rfl ?_
      refine XS.iconst X435.here hx rfl (hb hby at_31) ?_
      refine XS.iload X435.here hx rfl (hb hby at_32) rfl ?_
      show Steps p.tables e below (T435.setTop (mkF m 34 #[.val (.int p0_0), .val (.int p0_1), .val (.int (5 : Int32)), .val (.int (31 : Int32)), .val (.int MM), .val (.ref b431), .unset, .unset, .unset] [(.int MM), (.int (1 : Int32)), (.ref b431)])) _
      refine st441 _ ?_
      exact k)
    have z445 := Nat.le_trans z439 K441.1
    have V446 : Arv Z T441.heap b431 k431 .boolean (5 : Int32) [(.int (own_b MM (0 : Int32))), (.int (own_b MM (1 : Int32))), (.int (0 : Int32)), (.int (0 : Int32)), (.int (0 : Int32))] (.int (0 : Int32)) := r441_0
    have hq448 : (2 : Int32) < (5 : Int32) := by
      decide
    obtain ⟨_, _, ⟨T447, L447, k447, n447⟩, -, X447, ⟨Lc447, hQ447, l447, y447, z447⟩, st447⟩ := Jvm.LawKit.callS X441 hx (y := mn0) hown (mvT hZ (hVV 1 _ rfl)) (mvT hZ (hVV 2 _ rfl)) (mvT hZ (hVV 3 _ rfl)) (mvT hZ (hVV 4 _ rfl)) (by decide) (backOf (W := 0) (rm1_i l Z a0 hw [] b431 (2 : Int32) MM k431 (5 : Int32) ([(.int (own_b MM (0 : Int32))), (.int (own_b MM (1 : Int32))), (.int (0 : Int32)), (.int (0 : Int32)), (.int (0 : Int32))]) T441.heap n0 z445 V446 (by decide) (Nat.le_of_ble_eq_true rfl) hq448 gz431) hZ (hVV 4 _ rfl) (hVV 3 _ rfl) (by decide) (by decide)) (g := (mkF m 42 #[.val (.int p0_0), .val (.int p0_1), .val (.int (5 : Int32)), .val (.int (31 : Int32)), .val (.int MM), .val (.ref b431), .unset, .unset, .unset] [(.int MM), (.int (2 : Int32)), (.ref b431)])) rfl (by rw [hml]; rfl) (argsL := [(.ref b431), (.int (2 : Int32)), (.int MM)]) (rest := []) (lenOf pd_0 rfl) rfl (by show 2 * 0 + _ ≤ _; exact Nat.le_of_eq rfl) (hb hby at_42) (fun _ _ => ⟨rfl, rfl, (by decide : 1 + 0 ≤ _), (by decide : 5 + 0 ≤ _)⟩)
    dsimp only [Pt.U, Pt.locs, Pt.cells, Pt.slots] at X447 l447 y447 z447 st447 hQ447
    subst l447 y447 z447
    obtain ⟨rfl, N447q, K447, r447_0⟩ := hQ447
    have N449 := Fr.app N443 N447q
    have pre450 : ∀ t, Steps p.tables e below (T447.setTop (mkF m 45 #[.val (.int p0_0), .val (.int p0_1), .val (.int (5 : Int32)), .val (.int (31 : Int32)), .val (.int MM), .val (.ref b431), .unset, .unset, .unset] [])) t → Steps p.tables e below (s₁.setTop (entryFrame m #[(.int p0_0), (.int p0_1)] maxLocals)) t := fun t k => pre444 t (by
      show Steps p.tables e below (T441.setTop (mkF m 37 #[.val (.int p0_0), .val (.int p0_1), .val (.int (5 : Int32)), .val (.int (31 : Int32)), .val (.int MM), .val (.ref b431), .unset, .unset, .unset] [])) _
      refine XS.aload X441.here hx rfl (hb hby at_37) rfl rfl ?_
      refine XS.iconst X441.here hx rfl (hb hby at_39) ?_
      refine XS.iload X441.here hx rfl (hb hby at_40) rfl ?_
      show Steps p.tables e below (T441.setTop (mkF m 42 #[.val (.int p0_0), .val (.int p0_1), .val (.int (5 : Int32)), .val (.int (31 : Int32)), .val (.int MM), .val (.ref b431), .unset, .unset, .unset] [(.int MM), (.int (2 : Int32)), (.ref b431)])) _
      refine st447 _ ?_
      exact k)
    have z451 := Nat.le_trans z445 K447.1
    have V452 : Arv Z T447.heap b431 k431 .boolean (5 : Int32) [(.int (own_b MM (0 : Int32))), (.int (own_b MM (1 : Int32))), (.int (own_b MM (2 : Int32))), (.int (0 : Int32)), (.int (0 : Int32))] (.int (0 : Int32)) := r447_0
    have hq454 : (3 : Int32) < (5 : Int32) := by
      decide
    obtain ⟨_, _, ⟨T453, L453, k453, n453⟩, -, X453, ⟨Lc453, hQ453, l453, y453, z453⟩, st453⟩ := Jvm.LawKit.callS X447 hx (y := mn0) hown (mvT hZ (hVV 1 _ rfl)) (mvT hZ (hVV 2 _ rfl)) (mvT hZ (hVV 3 _ rfl)) (mvT hZ (hVV 4 _ rfl)) (by decide) (backOf (W := 0) (rm1_i l Z a0 hw [] b431 (3 : Int32) MM k431 (5 : Int32) ([(.int (own_b MM (0 : Int32))), (.int (own_b MM (1 : Int32))), (.int (own_b MM (2 : Int32))), (.int (0 : Int32)), (.int (0 : Int32))]) T447.heap n0 z451 V452 (by decide) (Nat.le_of_ble_eq_true rfl) hq454 gz431) hZ (hVV 4 _ rfl) (hVV 3 _ rfl) (by decide) (by decide)) (g := (mkF m 50 #[.val (.int p0_0), .val (.int p0_1), .val (.int (5 : Int32)), .val (.int (31 : Int32)), .val (.int MM), .val (.ref b431), .unset, .unset, .unset] [(.int MM), (.int (3 : Int32)), (.ref b431)])) rfl (by rw [hml]; rfl) (argsL := [(.ref b431), (.int (3 : Int32)), (.int MM)]) (rest := []) (lenOf pd_0 rfl) rfl (by show 2 * 0 + _ ≤ _; exact Nat.le_of_eq rfl) (hb hby at_50) (fun _ _ => ⟨rfl, rfl, (by decide : 1 + 0 ≤ _), (by decide : 5 + 0 ≤ _)⟩)
    dsimp only [Pt.U, Pt.locs, Pt.cells, Pt.slots] at X453 l453 y453 z453 st453 hQ453
    subst l453 y453 z453
    obtain ⟨rfl, N453q, K453, r453_0⟩ := hQ453
    have N455 := Fr.app N449 N453q
    have pre456 : ∀ t, Steps p.tables e below (T453.setTop (mkF m 53 #[.val (.int p0_0), .val (.int p0_1), .val (.int (5 : Int32)), .val (.int (31 : Int32)), .val (.int MM), .val (.ref b431), .unset, .unset, .unset] [])) t → Steps p.tables e below (s₁.setTop (entryFrame m #[(.int p0_0), (.int p0_1)] maxLocals)) t := fun t k => pre450 t (by
      show Steps p.tables e below (T447.setTop (mkF m 45 #[.val (.int p0_0), .val (.int p0_1), .val (.int (5 : Int32)), .val (.int (31 : Int32)), .val (.int MM), .val (.ref b431), .unset, .unset, .unset] [])) _
      refine XS.aload X447.here hx rfl (hb hby at_45) rfl rfl ?_
      refine XS.iconst X447.here hx rfl (hb hby at_47) ?_
      refine XS.iload X447.here hx rfl (hb hby at_48) rfl ?_
      show Steps p.tables e below (T447.setTop (mkF m 50 #[.val (.int p0_0), .val (.int p0_1), .val (.int (5 : Int32)), .val (.int (31 : Int32)), .val (.int MM), .val (.ref b431), .unset, .unset, .unset] [(.int MM), (.int (3 : Int32)), (.ref b431)])) _
      refine st453 _ ?_
      exact k)
    have z457 := Nat.le_trans z451 K453.1
    have V458 : Arv Z T453.heap b431 k431 .boolean (5 : Int32) [(.int (own_b MM (0 : Int32))), (.int (own_b MM (1 : Int32))), (.int (own_b MM (2 : Int32))), (.int (own_b MM (3 : Int32))), (.int (0 : Int32))] (.int (0 : Int32)) := r453_0
    have hq460 : (4 : Int32) < (5 : Int32) := by
      decide
    obtain ⟨_, _, ⟨T459, L459, k459, n459⟩, -, X459, ⟨Lc459, hQ459, l459, y459, z459⟩, st459⟩ := Jvm.LawKit.callS X453 hx (y := mn0) hown (mvT hZ (hVV 1 _ rfl)) (mvT hZ (hVV 2 _ rfl)) (mvT hZ (hVV 3 _ rfl)) (mvT hZ (hVV 4 _ rfl)) (by decide) (backOf (W := 0) (rm1_i l Z a0 hw [] b431 (4 : Int32) MM k431 (5 : Int32) ([(.int (own_b MM (0 : Int32))), (.int (own_b MM (1 : Int32))), (.int (own_b MM (2 : Int32))), (.int (own_b MM (3 : Int32))), (.int (0 : Int32))]) T453.heap n0 z457 V458 (by decide) (Nat.le_of_ble_eq_true rfl) hq460 gz431) hZ (hVV 4 _ rfl) (hVV 3 _ rfl) (by decide) (by decide)) (g := (mkF m 58 #[.val (.int p0_0), .val (.int p0_1), .val (.int (5 : Int32)), .val (.int (31 : Int32)), .val (.int MM), .val (.ref b431), .unset, .unset, .unset] [(.int MM), (.int (4 : Int32)), (.ref b431)])) rfl (by rw [hml]; rfl) (argsL := [(.ref b431), (.int (4 : Int32)), (.int MM)]) (rest := []) (lenOf pd_0 rfl) rfl (by show 2 * 0 + _ ≤ _; exact Nat.le_of_eq rfl) (hb hby at_58) (fun _ _ => ⟨rfl, rfl, (by decide : 1 + 0 ≤ _), (by decide : 5 + 0 ≤ _)⟩)
    dsimp only [Pt.U, Pt.locs, Pt.cells, Pt.slots] at X459 l459 y459 z459 st459 hQ459
    subst l459 y459 z459
    obtain ⟨rfl, N459q, K459, r459_0⟩ := hQ459
    have N461 := Fr.app N455 N459q
    have pre462 : ∀ t, Steps p.tables e below (T459.setTop (mkF m 61 #[.val (.int p0_0), .val (.int p0_1), .val (.int (5 : Int32)), .val (.int (31 : Int32)), .val (.int MM), .val (.ref b431), .unset, .unset, .unset] [])) t → Steps p.tables e below (s₁.setTop (entryFrame m #[(.int p0_0), (.int p0_1)] maxLocals)) t := fun t k => pre456 t (by
      show Steps p.tables e below (T453.setTop (mkF m 53 #[.val (.int p0_0), .val (.int p0_1), .val (.int (5 : Int32)), .val (.int (31 : Int32)), .val (.int MM), .val (.ref b431), .unset, .unset, .unset] [])) _
      refine XS.aload X453.here hx rfl (hb hby at_53) rfl rfl ?_
      refine XS.iconst X453.here hx rfl (hb hby at_55) ?_
      refine XS.iload X453.here hx rfl (hb hby at_56) rfl ?_
      show Steps p.tables e below (T453.setTop (mkF m 58 #[.val (.int p0_0), .val (.int p0_1), .val (.int (5 : Int32)), .val (.int (31 : Int32)), .val (.int MM), .val (.ref b431), .unset, .unset, .unset] [(.int MM), (.int (4 : Int32)), (.ref b431)])) _
      refine st459 _ ?_
      exact k)
    have z463 := Nat.le_trans z457 K459.1
    have V464 : Arv Z T459.heap b431 k431 .boolean (5 : Int32) [(.int (own_b MM (0 : Int32))), (.int (own_b MM (1 : Int32))), (.int (own_b MM (2 : Int32))), (.int (own_b MM (3 : Int32))), (.int (own_b MM (4 : Int32)))] (.int (0 : Int32)) := r459_0
    have hq466 : ¬ ((5 : Int32) < (5 : Int32)) := by
      decide
    obtain ⟨_, _, ⟨T465, L465, k465, n465⟩, -, X465, ⟨Lc465, hQ465, l465, y465, z465⟩, st465⟩ := Jvm.LawKit.callS X459 hx (y := mn0) hown (mvT hZ (hVV 1 _ rfl)) (mvT hZ (hVV 2 _ rfl)) (mvT hZ (hVV 3 _ rfl)) (mvT hZ (hVV 4 _ rfl)) (by decide) (backOf (W := 0) (rm1_o l Z a0 hw [] b431 (5 : Int32) MM k431 (5 : Int32) ([(.int (own_b MM (0 : Int32))), (.int (own_b MM (1 : Int32))), (.int (own_b MM (2 : Int32))), (.int (own_b MM (3 : Int32))), (.int (own_b MM (4 : Int32)))]) T459.heap n0 z463 V464 hq466) hZ (hVV 4 _ rfl) (hVV 3 _ rfl) (by decide) (by decide)) (g := (mkF m 66 #[.val (.int p0_0), .val (.int p0_1), .val (.int (5 : Int32)), .val (.int (31 : Int32)), .val (.int MM), .val (.ref b431), .unset, .unset, .unset] [(.int MM), (.int (5 : Int32)), (.ref b431)])) rfl (by rw [hml]; rfl) (argsL := [(.ref b431), (.int (5 : Int32)), (.int MM)]) (rest := []) (lenOf pd_0 rfl) rfl (by show 2 * 0 + _ ≤ _; exact Nat.le_of_eq rfl) (hb hby at_66) (fun _ _ => ⟨rfl, rfl, (by decide : 1 + 0 ≤ _), (by decide : 5 + 0 ≤ _)⟩)
    dsimp only [Pt.U, Pt.locs, Pt.cells, Pt.slots] at X465 l465 y465 z465 st465 hQ465
    subst l465 y465 z465
    obtain ⟨rfl, N465q, e465⟩ := hQ465
    have N467 := Fr.app N461 N465q
    have pre468 : ∀ t, Steps p.tables e below (T465.setTop (mkF m 69 #[.val (.int p0_0), .val (.int p0_1), .val (.int (5 : Int32)), .val (.int (31 : Int32)), .val (.int MM), .val (.ref b431), .unset, .unset, .unset] [])) t → Steps p.tables e below (s₁.setTop (entryFrame m #[(.int p0_0), (.int p0_1)] maxLocals)) t := fun t k => pre462 t (by
      show Steps p.tables e below (T459.setTop (mkF m 61 #[.val (.int p0_0), .val (.int p0_1), .val (.int (5 : Int32)), .val (.int (31 : Int32)), .val (.int MM), .val (.ref b431), .unset, .unset, .unset] [])) _
      refine XS.aload X459.here hx rfl (hb hby at_61) rfl rfl ?_
      refine XS.iconst X459.here hx rfl (hb hby at_63) ?_
      refine XS.iload X459.here hx rfl (hb hby at_64) rfl ?_
      show Steps p.tables e below (T459.setTop (mkF m 66 #[.val (.int p0_0), .val (.int p0_1), .val (.int (5 : Int32)), .val (.int (31 : Int32)), .val (.int MM), .val (.ref b431), .unset, .unset, .unset] [(.int MM), (.int (5 : Int32)), (.ref b431)])) _
      refine st465 _ ?_
      exact k)
    have hq470 : ¬ ((6 : Int32) < (5 : Int32)) := by
      decide
    obtain ⟨_, _, ⟨T469, L469, k469, n469⟩, -, X469, ⟨Lc469, hQ469, l469, y469, z469⟩, st469⟩ := Jvm.LawKit.callS X465 hx (y := mn0) hown (mvT hZ (hVV 1 _ rfl)) (mvT hZ (hVV 2 _ rfl)) (mvT hZ (hVV 3 _ rfl)) (mvT hZ (hVV 4 _ rfl)) (by decide) (backOf (W := 0) (rm1_o l Z a0 hw [] b431 (6 : Int32) MM k431 (5 : Int32) ([(.int (own_b MM (0 : Int32))), (.int (own_b MM (1 : Int32))), (.int (own_b MM (2 : Int32))), (.int (own_b MM (3 : Int32))), (.int (own_b MM (4 : Int32)))]) T459.heap n0 z463 V464 hq470) hZ (hVV 4 _ rfl) (hVV 3 _ rfl) (by decide) (by decide)) (g := (mkF m 75 #[.val (.int p0_0), .val (.int p0_1), .val (.int (5 : Int32)), .val (.int (31 : Int32)), .val (.int MM), .val (.ref b431), .unset, .unset, .unset] [(.int MM), (.int (6 : Int32)), (.ref b431)])) rfl (by rw [hml]; rfl) (argsL := [(.ref b431), (.int (6 : Int32)), (.int MM)]) (rest := []) (lenOf pd_0 rfl) rfl (by show 2 * 0 + _ ≤ _; exact Nat.le_of_eq rfl) (hb hby at_75) (fun _ _ => ⟨rfl, e465, (by decide : 1 + 0 ≤ _), (by decide : 5 + 0 ≤ _)⟩)
    dsimp only [Pt.U, Pt.locs, Pt.cells, Pt.slots] at X469 l469 y469 z469 st469 hQ469
    subst l469 y469 z469
    obtain ⟨rfl, N469q, e469⟩ := hQ469
    have N471 := Fr.app N467 N469q
    have pre472 : ∀ t, Steps p.tables e below (T469.setTop (mkF m 78 #[.val (.int p0_0), .val (.int p0_1), .val (.int (5 : Int32)), .val (.int (31 : Int32)), .val (.int MM), .val (.ref b431), .unset, .unset, .unset] [])) t → Steps p.tables e below (s₁.setTop (entryFrame m #[(.int p0_0), (.int p0_1)] maxLocals)) t := fun t k => pre468 t (by
      show Steps p.tables e below (T465.setTop (mkF m 69 #[.val (.int p0_0), .val (.int p0_1), .val (.int (5 : Int32)), .val (.int (31 : Int32)), .val (.int MM), .val (.ref b431), .unset, .unset, .unset] [])) _
      refine XS.aload X465.here hx rfl (hb hby at_69) rfl rfl ?_
      refine XS.bipush X465.here hx rfl (hb hby at_71) ?_
      refine XS.iload X465.here hx rfl (hb hby at_73) rfl ?_
      show Steps p.tables e below (T465.setTop (mkF m 75 #[.val (.int p0_0), .val (.int p0_1), .val (.int (5 : Int32)), .val (.int (31 : Int32)), .val (.int MM), .val (.ref b431), .unset, .unset, .unset] [(.int MM), (.int (6 : Int32)), (.ref b431)])) _
      refine st469 _ ?_
      exact k)
    obtain ⟨_, _, ⟨T473, L473, k473, n473⟩, -, X473, ⟨Lc473, hQ473, l473, y473, z473⟩, st473⟩ := Jvm.LawKit.callS X469 hx (y := mn2) hown (mvT hZ (hVV 5 _ rfl)) (mvT hZ (hVV 6 _ rfl)) (mvT hZ (hVV 7 _ rfl)) (mvT hZ (hVV 8 _ rfl)) (by decide) (backOf (W := 0) (rm2_5 l Z a0 hw [] b431 k431 (own_b MM (0 : Int32)) (own_b MM (1 : Int32)) (own_b MM (2 : Int32)) (own_b MM (3 : Int32)) (own_b MM (4 : Int32)) T459.heap n0 z463 V464 gz431) hZ (hVV 8 _ rfl) (hVV 7 _ rfl) (by decide) (by decide)) (g := (mkF m 80 #[.val (.int p0_0), .val (.int p0_1), .val (.int (5 : Int32)), .val (.int (31 : Int32)), .val (.int MM), .val (.ref b431), .unset, .unset, .unset] [(.ref b431)])) rfl (by rw [hml]; rfl) (argsL := [(.ref b431)]) (rest := []) (lenOf pd_1 rfl) rfl (by show 2 * 0 + _ ≤ _; exact Nat.le_of_eq rfl) (hb hby at_80) (fun _ _ => ⟨rfl, e469, (by decide : 1 + 0 ≤ _), (by decide : 5 + 0 ≤ _)⟩)
    dsimp only [Pt.U, Pt.locs, Pt.cells, Pt.slots] at X473 l473 y473 z473 st473 hQ473
    subst l473 y473 z473
    obtain ⟨rfl, N473q, K473, r473_0⟩ := hQ473
    have N474 := Fr.app N471 N473q
    have pre475 : ∀ t, Steps p.tables e below (T473.setTop (mkF m 83 #[.val (.int p0_0), .val (.int p0_1), .val (.int (5 : Int32)), .val (.int (31 : Int32)), .val (.int MM), .val (.ref b431), .unset, .unset, .unset] [(.int (bI (((own_b MM (0 : Int32)) = (0 : Int32)) ∨ (((own_b MM (1 : Int32)) = (0 : Int32)) ∨ (((own_b MM (2 : Int32)) = (0 : Int32)) ∨ (((own_b MM (3 : Int32)) = (0 : Int32)) ∨ ((own_b MM (4 : Int32)) = (0 : Int32))))))))])) t → Steps p.tables e below (s₁.setTop (entryFrame m #[(.int p0_0), (.int p0_1)] maxLocals)) t := fun t k => pre472 t (by
      show Steps p.tables e below (T469.setTop (mkF m 78 #[.val (.int p0_0), .val (.int p0_1), .val (.int (5 : Int32)), .val (.int (31 : Int32)), .val (.int MM), .val (.ref b431), .unset, .unset, .unset] [])) _
      refine XS.aload X469.here hx rfl (hb hby at_78) rfl rfl ?_
      show Steps p.tables e below (T469.setTop (mkF m 80 #[.val (.int p0_0), .val (.int p0_1), .val (.int (5 : Int32)), .val (.int (31 : Int32)), .val (.int MM), .val (.ref b431), .unset, .unset, .unset] [(.ref b431)])) _
      refine st473 _ ?_
      exact k)
    have z476 := Nat.le_trans z463 K473.1
    have pre477 : ∀ t, Steps p.tables e below (T473.setTop (mkF m 85 #[.val (.int p0_0), .val (.int p0_1), .val (.int (5 : Int32)), .val (.int (31 : Int32)), .val (.int MM), .val (.ref b431), .val (.int (bI (((own_b MM (0 : Int32)) = (0 : Int32)) ∨ (((own_b MM (1 : Int32)) = (0 : Int32)) ∨ (((own_b MM (2 : Int32)) = (0 : Int32)) ∨ (((own_b MM (3 : Int32)) = (0 : Int32)) ∨ ((own_b MM (4 : Int32)) = (0 : Int32)))))))), .unset, .unset] [])) t → Steps p.tables e below (s₁.setTop (entryFrame m #[(.int p0_0), (.int p0_1)] maxLocals)) t := fun t k => pre475 t (by
      show Steps p.tables e below (T473.setTop (mkF m 83 #[.val (.int p0_0), .val (.int p0_1), .val (.int (5 : Int32)), .val (.int (31 : Int32)), .val (.int MM), .val (.ref b431), .unset, .unset, .unset] [(.int (bI (((own_b MM (0 : Int32)) = (0 : Int32)) ∨ (((own_b MM (1 : Int32)) = (0 : Int32)) ∨ (((own_b MM (2 : Int32)) = (0 : Int32)) ∨ (((own_b MM (3 : Int32)) = (0 : Int32)) ∨ ((own_b MM (4 : Int32)) = (0 : Int32))))))))])) _
      refine XS.istore X473.here hx rfl (hb hby at_83) rfl (l' := #[.val (.int p0_0), .val (.int p0_1), .val (.int (5 : Int32)), .val (.int (31 : Int32)), .val (.int MM), .val (.ref b431), .val (.int (bI (((own_b MM (0 : Int32)) = (0 : Int32)) ∨ (((own_b MM (1 : Int32)) = (0 : Int32)) ∨ (((own_b MM (2 : Int32)) = (0 : Int32)) ∨ (((own_b MM (3 : Int32)) = (0 : Int32)) ∨ ((own_b MM (4 : Int32)) = (0 : Int32)))))))), .unset, .unset]) rfl ?_
      exact k)
    obtain ⟨RR, hRR⟩ : ∃ z : Int32, z = (bI (((own_b MM (0 : Int32)) = (0 : Int32)) ∨ (((own_b MM (1 : Int32)) = (0 : Int32)) ∨ (((own_b MM (2 : Int32)) = (0 : Int32)) ∨ (((own_b MM (3 : Int32)) = (0 : Int32)) ∨ ((own_b MM (4 : Int32)) = (0 : Int32))))))) := ⟨_, rfl⟩
    have pre478 : ∀ t, Steps p.tables e below (T473.setTop (mkF m 85 #[.val (.int p0_0), .val (.int p0_1), .val (.int (5 : Int32)), .val (.int (31 : Int32)), .val (.int MM), .val (.ref b431), .val (.int RR), .unset, .unset] [])) t → Steps p.tables e below (s₁.setTop (entryFrame m #[(.int p0_0), (.int p0_1)] maxLocals)) t := fun t k => pre477 t (castTop (by rw [hRR]) k)
    obtain ⟨G0, hG0⟩ : ∃ z : Int32, z = (bI ((own_b MM (0 : Int32)) = (0 : Int32))) := ⟨_, rfl⟩
    obtain ⟨G1, hG1⟩ : ∃ z : Int32, z = (if (own_b MM (0 : Int32)) = (0 : Int32) then (own_b MM (1 : Int32)) else (bI ((own_b MM (1 : Int32)) = (0 : Int32)))) := ⟨_, rfl⟩
    obtain ⟨G2, hG2⟩ : ∃ z : Int32, z = (if (own_b MM (0 : Int32)) = (0 : Int32) then (own_b MM (2 : Int32)) else (if (own_b MM (1 : Int32)) = (0 : Int32) then (own_b MM (2 : Int32)) else (bI ((own_b MM (2 : Int32)) = (0 : Int32))))) := ⟨_, rfl⟩
    obtain ⟨G3, hG3⟩ : ∃ z : Int32, z = (if (own_b MM (0 : Int32)) = (0 : Int32) then (own_b MM (3 : Int32)) else (if (own_b MM (1 : Int32)) = (0 : Int32) then (own_b MM (3 : Int32)) else (if (own_b MM (2 : Int32)) = (0 : Int32) then (own_b MM (3 : Int32)) else (bI ((own_b MM (3 : Int32)) = (0 : Int32)))))) := ⟨_, rfl⟩
    obtain ⟨G4, hG4⟩ : ∃ z : Int32, z = (if (own_b MM (0 : Int32)) = (0 : Int32) then (own_b MM (4 : Int32)) else (if (own_b MM (1 : Int32)) = (0 : Int32) then (own_b MM (4 : Int32)) else (if (own_b MM (2 : Int32)) = (0 : Int32) then (own_b MM (4 : Int32)) else (if (own_b MM (3 : Int32)) = (0 : Int32) then (own_b MM (4 : Int32)) else (bI ((own_b MM (4 : Int32)) = (0 : Int32))))))) := ⟨_, rfl⟩
    have V479 : Arv Z T473.heap b431 k431 .boolean (5 : Int32) [(.int G0), (.int G1), (.int G2), (.int G3), (.int G4)] (.int (0 : Int32)) := by rw [hG0, hG1, hG2, hG3, hG4]; exact r473_0
    have hq481 : (0 : Int32) < (5 : Int32) := by
      decide
    obtain ⟨_, _, ⟨T480, L480, k480, n480⟩, -, X480, ⟨Lc480, hQ480, l480, y480, z480⟩, st480⟩ := Jvm.LawKit.callS X473 hx (y := mn1) hown (mvT hZ (hVV 9 _ rfl)) (mvT hZ (hVV 10 _ rfl)) (mvT hZ (hVV 3 _ rfl)) (mvT hZ (hVV 11 _ rfl)) (by decide) (backOf (W := 0) (rm3_i l Z a0 hw [] b431 (0 : Int32) k431 (5 : Int32) ([(.int G0), (.int G1), (.int G2), (.int G3), (.int G4)]) G0 T473.heap n0 z476 V479 (by decide) (by rfl) hq481) hZ (hVV 11 _ rfl) (hVV 3 _ rfl) (by decide) (by decide)) (g := (mkF m 96 #[.val (.int p0_0), .val (.int p0_1), .val (.int (5 : Int32)), .val (.int (31 : Int32)), .val (.int MM), .val (.ref b431), .val (.int RR), .val (.int ((MM + (1 : Int32)) &&& (31 : Int32))), .unset] [(.int (0 : Int32)), (.ref b431)])) rfl (by rw [hml]; rfl) (argsL := [(.ref b431), (.int (0 : Int32))]) (rest := []) (lenOf pd_2 rfl) rfl (by show 2 * 0 + _ ≤ _; exact Nat.le_of_eq rfl) (hb hby at_96) (fun _ _ => ⟨rfl, rfl, (by decide : 1 + 0 ≤ _), (by decide : 5 + 0 ≤ _)⟩)
    dsimp only [Pt.U, Pt.locs, Pt.cells, Pt.slots] at X480 l480 y480 z480 st480 hQ480
    subst l480 y480 z480
    obtain ⟨rfl, N480q, e480⟩ := hQ480
    have N482 := Fr.app N474 N480q
    have pre483 : ∀ t, Steps p.tables e below (T480.setTop (mkF m 99 #[.val (.int p0_0), .val (.int p0_1), .val (.int (5 : Int32)), .val (.int (31 : Int32)), .val (.int MM), .val (.ref b431), .val (.int RR), .val (.int ((MM + (1 : Int32)) &&& (31 : Int32))), .unset] [(.int (if G0 = (0 : Int32) then (0 : Int32) else ((1 : Int32) <<< ((0 : Int32) &&& 31))))])) t → Steps p.tables e below (s₁.setTop (entryFrame m #[(.int p0_0), (.int p0_1)] maxLocals)) t := fun t k => pre478 t (by
      show Steps p.tables e below (T473.setTop (mkF m 85 #[.val (.int p0_0), .val (.int p0_1), .val (.int (5 : Int32)), .val (.int (31 : Int32)), .val (.int MM), .val (.ref b431), .val (.int RR), .unset, .unset] [])) _
      refine XS.iload X473.here hx rfl (hb hby at_85) rfl ?_
      refine XS.iconst X473.here hx rfl (hb hby at_87) ?_
      refine XS.iadd X473.here hx rfl (hb hby at_88) rfl ?_
      refine XS.iloadN X473.here hx rfl (hb hby at_89) rfl ?_
      refine XS.iand X473.here hx rfl (hb hby at_90) rfl ?_
      show Steps p.tables e below (T473.setTop (mkF m 91 #[.val (.int p0_0), .val (.int p0_1), .val (.int (5 : Int32)), .val (.int (31 : Int32)), .val (.int MM), .val (.ref b431), .val (.int RR), .unset, .unset] [(.int ((MM + (1 : Int32)) &&& (31 : Int32)))])) _
      refine XS.istore X473.here hx rfl (hb hby at_91) rfl (l' := #[.val (.int p0_0), .val (.int p0_1), .val (.int (5 : Int32)), .val (.int (31 : Int32)), .val (.int MM), .val (.ref b431), .val (.int RR), .val (.int ((MM + (1 : Int32)) &&& (31 : Int32))), .unset]) rfl ?_
      show Steps p.tables e below (T473.setTop (mkF m 93 #[.val (.int p0_0), .val (.int p0_1), .val (.int (5 : Int32)), .val (.int (31 : Int32)), .val (.int MM), .val (.ref b431), .val (.int RR), .val (.int ((MM + (1 : Int32)) &&& (31 : Int32))), .unset] [])) _
      refine XS.aload X473.here hx rfl (hb hby at_93) rfl rfl ?_
      refine XS.iconst X473.here hx rfl (hb hby at_95) ?_
      show Steps p.tables e below (T473.setTop (mkF m 96 #[.val (.int p0_0), .val (.int p0_1), .val (.int (5 : Int32)), .val (.int (31 : Int32)), .val (.int MM), .val (.ref b431), .val (.int RR), .val (.int ((MM + (1 : Int32)) &&& (31 : Int32))), .unset] [(.int (0 : Int32)), (.ref b431)])) _
      refine st480 _ ?_
      exact k)
    have hq485 : (1 : Int32) < (5 : Int32) := by
      decide
    obtain ⟨_, _, ⟨T484, L484, k484, n484⟩, -, X484, ⟨Lc484, hQ484, l484, y484, z484⟩, st484⟩ := Jvm.LawKit.callS X480 hx (y := mn1) hown (mvT hZ (hVV 9 _ rfl)) (mvT hZ (hVV 10 _ rfl)) (mvT hZ (hVV 3 _ rfl)) (mvT hZ (hVV 11 _ rfl)) (by decide) (backOf (W := 1) (rm3_i l Z a0 hw [] b431 (1 : Int32) k431 (5 : Int32) ([(.int G0), (.int G1), (.int G2), (.int G3), (.int G4)]) G1 T473.heap n0 z476 V479 (by decide) (by rfl) hq485) hZ (hVV 11 _ rfl) (hVV 3 _ rfl) (by decide) (by decide)) (g := (mkF m 102 #[.val (.int p0_0), .val (.int p0_1), .val (.int (5 : Int32)), .val (.int (31 : Int32)), .val (.int MM), .val (.ref b431), .val (.int RR), .val (.int ((MM + (1 : Int32)) &&& (31 : Int32))), .unset] [(.int (1 : Int32)), (.ref b431), (.int (if G0 = (0 : Int32) then (0 : Int32) else ((1 : Int32) <<< ((0 : Int32) &&& 31))))])) rfl (by rw [hml]; rfl) (argsL := [(.ref b431), (.int (1 : Int32))]) (rest := [(.int (if G0 = (0 : Int32) then (0 : Int32) else ((1 : Int32) <<< ((0 : Int32) &&& 31))))]) (lenOf pd_2 rfl) rfl (by show 2 * 0 + _ ≤ _; exact Nat.le_of_eq rfl) (hb hby at_102) (fun _ _ => ⟨rfl, e480, (by decide : 1 + 0 ≤ _), (by decide : 5 + 0 ≤ _)⟩)
    dsimp only [Pt.U, Pt.locs, Pt.cells, Pt.slots] at X484 l484 y484 z484 st484 hQ484
    subst l484 y484 z484
    obtain ⟨rfl, N484q, e484⟩ := hQ484
    have N486 := Fr.app N482 N484q
    have pre487 : ∀ t, Steps p.tables e below (T484.setTop (mkF m 105 #[.val (.int p0_0), .val (.int p0_1), .val (.int (5 : Int32)), .val (.int (31 : Int32)), .val (.int MM), .val (.ref b431), .val (.int RR), .val (.int ((MM + (1 : Int32)) &&& (31 : Int32))), .unset] [(.int (if G1 = (0 : Int32) then (0 : Int32) else ((1 : Int32) <<< ((1 : Int32) &&& 31)))), (.int (if G0 = (0 : Int32) then (0 : Int32) else ((1 : Int32) <<< ((0 : Int32) &&& 31))))])) t → Steps p.tables e below (s₁.setTop (entryFrame m #[(.int p0_0), (.int p0_1)] maxLocals)) t := fun t k => pre483 t (by
      show Steps p.tables e below (T480.setTop (mkF m 99 #[.val (.int p0_0), .val (.int p0_1), .val (.int (5 : Int32)), .val (.int (31 : Int32)), .val (.int MM), .val (.ref b431), .val (.int RR), .val (.int ((MM + (1 : Int32)) &&& (31 : Int32))), .unset] [(.int (if G0 = (0 : Int32) then (0 : Int32) else ((1 : Int32) <<< ((0 : Int32) &&& 31))))])) _
      refine XS.aload X480.here hx rfl (hb hby at_99) rfl rfl ?_
      refine XS.iconst X480.here hx rfl (hb hby at_101) ?_
      show Steps p.tables e below (T480.setTop (mkF m 102 #[.val (.int p0_0), .val (.int p0_1), .val (.int (5 : Int32)), .val (.int (31 : Int32)), .val (.int MM), .val (.ref b431), .val (.int RR), .val (.int ((MM + (1 : Int32)) &&& (31 : Int32))), .unset] [(.int (1 : Int32)), (.ref b431), (.int (if G0 = (0 : Int32) then (0 : Int32) else ((1 : Int32) <<< ((0 : Int32) &&& 31))))])) _
      refine st484 _ ?_
      exact k)
    have hq489 : (2 : Int32) < (5 : Int32) := by
      decide
    obtain ⟨_, _, ⟨T488, L488, k488, n488⟩, -, X488, ⟨Lc488, hQ488, l488, y488, z488⟩, st488⟩ := Jvm.LawKit.callS X484 hx (y := mn1) hown (mvT hZ (hVV 9 _ rfl)) (mvT hZ (hVV 10 _ rfl)) (mvT hZ (hVV 3 _ rfl)) (mvT hZ (hVV 11 _ rfl)) (by decide) (backOf (W := 1) (rm3_i l Z a0 hw [] b431 (2 : Int32) k431 (5 : Int32) ([(.int G0), (.int G1), (.int G2), (.int G3), (.int G4)]) G2 T473.heap n0 z476 V479 (by decide) (by rfl) hq489) hZ (hVV 11 _ rfl) (hVV 3 _ rfl) (by decide) (by decide)) (g := (mkF m 109 #[.val (.int p0_0), .val (.int p0_1), .val (.int (5 : Int32)), .val (.int (31 : Int32)), .val (.int MM), .val (.ref b431), .val (.int RR), .val (.int ((MM + (1 : Int32)) &&& (31 : Int32))), .unset] [(.int (2 : Int32)), (.ref b431), (.int ((if G0 = (0 : Int32) then (0 : Int32) else ((1 : Int32) <<< ((0 : Int32) &&& 31))) ||| (if G1 = (0 : Int32) then (0 : Int32) else ((1 : Int32) <<< ((1 : Int32) &&& 31)))))])) rfl (by rw [hml]; rfl) (argsL := [(.ref b431), (.int (2 : Int32))]) (rest := [(.int ((if G0 = (0 : Int32) then (0 : Int32) else ((1 : Int32) <<< ((0 : Int32) &&& 31))) ||| (if G1 = (0 : Int32) then (0 : Int32) else ((1 : Int32) <<< ((1 : Int32) &&& 31)))))]) (lenOf pd_2 rfl) rfl (by show 2 * 0 + _ ≤ _; exact Nat.le_of_eq rfl) (hb hby at_109) (fun _ _ => ⟨rfl, e484, (by decide : 1 + 0 ≤ _), (by decide : 5 + 0 ≤ _)⟩)
    dsimp only [Pt.U, Pt.locs, Pt.cells, Pt.slots] at X488 l488 y488 z488 st488 hQ488
    subst l488 y488 z488
    obtain ⟨rfl, N488q, e488⟩ := hQ488
    have N490 := Fr.app N486 N488q
    have pre491 : ∀ t, Steps p.tables e below (T488.setTop (mkF m 112 #[.val (.int p0_0), .val (.int p0_1), .val (.int (5 : Int32)), .val (.int (31 : Int32)), .val (.int MM), .val (.ref b431), .val (.int RR), .val (.int ((MM + (1 : Int32)) &&& (31 : Int32))), .unset] [(.int (if G2 = (0 : Int32) then (0 : Int32) else ((1 : Int32) <<< ((2 : Int32) &&& 31)))), (.int ((if G0 = (0 : Int32) then (0 : Int32) else ((1 : Int32) <<< ((0 : Int32) &&& 31))) ||| (if G1 = (0 : Int32) then (0 : Int32) else ((1 : Int32) <<< ((1 : Int32) &&& 31)))))])) t → Steps p.tables e below (s₁.setTop (entryFrame m #[(.int p0_0), (.int p0_1)] maxLocals)) t := fun t k => pre487 t (by
      show Steps p.tables e below (T484.setTop (mkF m 105 #[.val (.int p0_0), .val (.int p0_1), .val (.int (5 : Int32)), .val (.int (31 : Int32)), .val (.int MM), .val (.ref b431), .val (.int RR), .val (.int ((MM + (1 : Int32)) &&& (31 : Int32))), .unset] [(.int (if G1 = (0 : Int32) then (0 : Int32) else ((1 : Int32) <<< ((1 : Int32) &&& 31)))), (.int (if G0 = (0 : Int32) then (0 : Int32) else ((1 : Int32) <<< ((0 : Int32) &&& 31))))])) _
      refine XS.ior X484.here hx rfl (hb hby at_105) rfl ?_
      refine XS.aload X484.here hx rfl (hb hby at_106) rfl rfl ?_
      refine XS.iconst X484.here hx rfl (hb hby at_108) ?_
      show Steps p.tables e below (T484.setTop (mkF m 109 #[.val (.int p0_0), .val (.int p0_1), .val (.int (5 : Int32)), .val (.int (31 : Int32)), .val (.int MM), .val (.ref b431), .val (.int RR), .val (.int ((MM + (1 : Int32)) &&& (31 : Int32))), .unset] [(.int (2 : Int32)), (.ref b431), (.int ((if G0 = (0 : Int32) then (0 : Int32) else ((1 : Int32) <<< ((0 : Int32) &&& 31))) ||| (if G1 = (0 : Int32) then (0 : Int32) else ((1 : Int32) <<< ((1 : Int32) &&& 31)))))])) _
      refine st488 _ ?_
      exact k)
    have hq493 : (3 : Int32) < (5 : Int32) := by
      decide
    obtain ⟨_, _, ⟨T492, L492, k492, n492⟩, -, X492, ⟨Lc492, hQ492, l492, y492, z492⟩, st492⟩ := Jvm.LawKit.callS X488 hx (y := mn1) hown (mvT hZ (hVV 9 _ rfl)) (mvT hZ (hVV 10 _ rfl)) (mvT hZ (hVV 3 _ rfl)) (mvT hZ (hVV 11 _ rfl)) (by decide) (backOf (W := 1) (rm3_i l Z a0 hw [] b431 (3 : Int32) k431 (5 : Int32) ([(.int G0), (.int G1), (.int G2), (.int G3), (.int G4)]) G3 T473.heap n0 z476 V479 (by decide) (by rfl) hq493) hZ (hVV 11 _ rfl) (hVV 3 _ rfl) (by decide) (by decide)) (g := (mkF m 116 #[.val (.int p0_0), .val (.int p0_1), .val (.int (5 : Int32)), .val (.int (31 : Int32)), .val (.int MM), .val (.ref b431), .val (.int RR), .val (.int ((MM + (1 : Int32)) &&& (31 : Int32))), .unset] [(.int (3 : Int32)), (.ref b431), (.int (((if G0 = (0 : Int32) then (0 : Int32) else ((1 : Int32) <<< ((0 : Int32) &&& 31))) ||| (if G1 = (0 : Int32) then (0 : Int32) else ((1 : Int32) <<< ((1 : Int32) &&& 31)))) ||| (if G2 = (0 : Int32) then (0 : Int32) else ((1 : Int32) <<< ((2 : Int32) &&& 31)))))])) rfl (by rw [hml]; rfl) (argsL := [(.ref b431), (.int (3 : Int32))]) (rest := [(.int (((if G0 = (0 : Int32) then (0 : Int32) else ((1 : Int32) <<< ((0 : Int32) &&& 31))) ||| (if G1 = (0 : Int32) then (0 : Int32) else ((1 : Int32) <<< ((1 : Int32) &&& 31)))) ||| (if G2 = (0 : Int32) then (0 : Int32) else ((1 : Int32) <<< ((2 : Int32) &&& 31)))))]) (lenOf pd_2 rfl) rfl (by show 2 * 0 + _ ≤ _; exact Nat.le_of_eq rfl) (hb hby at_116) (fun _ _ => ⟨rfl, e488, (by decide : 1 + 0 ≤ _), (by decide : 5 + 0 ≤ _)⟩)
    dsimp only [Pt.U, Pt.locs, Pt.cells, Pt.slots] at X492 l492 y492 z492 st492 hQ492
    subst l492 y492 z492
    obtain ⟨rfl, N492q, e492⟩ := hQ492
    have N494 := Fr.app N490 N492q
    have pre495 : ∀ t, Steps p.tables e below (T492.setTop (mkF m 119 #[.val (.int p0_0), .val (.int p0_1), .val (.int (5 : Int32)), .val (.int (31 : Int32)), .val (.int MM), .val (.ref b431), .val (.int RR), .val (.int ((MM + (1 : Int32)) &&& (31 : Int32))), .unset] [(.int (if G3 = (0 : Int32) then (0 : Int32) else ((1 : Int32) <<< ((3 : Int32) &&& 31)))), (.int (((if G0 = (0 : Int32) then (0 : Int32) else ((1 : Int32) <<< ((0 : Int32) &&& 31))) ||| (if G1 = (0 : Int32) then (0 : Int32) else ((1 : Int32) <<< ((1 : Int32) &&& 31)))) ||| (if G2 = (0 : Int32) then (0 : Int32) else ((1 : Int32) <<< ((2 : Int32) &&& 31)))))])) t → Steps p.tables e below (s₁.setTop (entryFrame m #[(.int p0_0), (.int p0_1)] maxLocals)) t := fun t k => pre491 t (by
      show Steps p.tables e below (T488.setTop (mkF m 112 #[.val (.int p0_0), .val (.int p0_1), .val (.int (5 : Int32)), .val (.int (31 : Int32)), .val (.int MM), .val (.ref b431), .val (.int RR), .val (.int ((MM + (1 : Int32)) &&& (31 : Int32))), .unset] [(.int (if G2 = (0 : Int32) then (0 : Int32) else ((1 : Int32) <<< ((2 : Int32) &&& 31)))), (.int ((if G0 = (0 : Int32) then (0 : Int32) else ((1 : Int32) <<< ((0 : Int32) &&& 31))) ||| (if G1 = (0 : Int32) then (0 : Int32) else ((1 : Int32) <<< ((1 : Int32) &&& 31)))))])) _
      refine XS.ior X488.here hx rfl (hb hby at_112) rfl ?_
      refine XS.aload X488.here hx rfl (hb hby at_113) rfl rfl ?_
      refine XS.iconst X488.here hx rfl (hb hby at_115) ?_
      show Steps p.tables e below (T488.setTop (mkF m 116 #[.val (.int p0_0), .val (.int p0_1), .val (.int (5 : Int32)), .val (.int (31 : Int32)), .val (.int MM), .val (.ref b431), .val (.int RR), .val (.int ((MM + (1 : Int32)) &&& (31 : Int32))), .unset] [(.int (3 : Int32)), (.ref b431), (.int (((if G0 = (0 : Int32) then (0 : Int32) else ((1 : Int32) <<< ((0 : Int32) &&& 31))) ||| (if G1 = (0 : Int32) then (0 : Int32) else ((1 : Int32) <<< ((1 : Int32) &&& 31)))) ||| (if G2 = (0 : Int32) then (0 : Int32) else ((1 : Int32) <<< ((2 : Int32) &&& 31)))))])) _
      refine st492 _ ?_
      exact k)
    have hq497 : (4 : Int32) < (5 : Int32) := by
      decide
    obtain ⟨_, _, ⟨T496, L496, k496, n496⟩, -, X496, ⟨Lc496, hQ496, l496, y496, z496⟩, st496⟩ := Jvm.LawKit.callS X492 hx (y := mn1) hown (mvT hZ (hVV 9 _ rfl)) (mvT hZ (hVV 10 _ rfl)) (mvT hZ (hVV 3 _ rfl)) (mvT hZ (hVV 11 _ rfl)) (by decide) (backOf (W := 1) (rm3_i l Z a0 hw [] b431 (4 : Int32) k431 (5 : Int32) ([(.int G0), (.int G1), (.int G2), (.int G3), (.int G4)]) G4 T473.heap n0 z476 V479 (by decide) (by rfl) hq497) hZ (hVV 11 _ rfl) (hVV 3 _ rfl) (by decide) (by decide)) (g := (mkF m 123 #[.val (.int p0_0), .val (.int p0_1), .val (.int (5 : Int32)), .val (.int (31 : Int32)), .val (.int MM), .val (.ref b431), .val (.int RR), .val (.int ((MM + (1 : Int32)) &&& (31 : Int32))), .unset] [(.int (4 : Int32)), (.ref b431), (.int ((((if G0 = (0 : Int32) then (0 : Int32) else ((1 : Int32) <<< ((0 : Int32) &&& 31))) ||| (if G1 = (0 : Int32) then (0 : Int32) else ((1 : Int32) <<< ((1 : Int32) &&& 31)))) ||| (if G2 = (0 : Int32) then (0 : Int32) else ((1 : Int32) <<< ((2 : Int32) &&& 31)))) ||| (if G3 = (0 : Int32) then (0 : Int32) else ((1 : Int32) <<< ((3 : Int32) &&& 31)))))])) rfl (by rw [hml]; rfl) (argsL := [(.ref b431), (.int (4 : Int32))]) (rest := [(.int ((((if G0 = (0 : Int32) then (0 : Int32) else ((1 : Int32) <<< ((0 : Int32) &&& 31))) ||| (if G1 = (0 : Int32) then (0 : Int32) else ((1 : Int32) <<< ((1 : Int32) &&& 31)))) ||| (if G2 = (0 : Int32) then (0 : Int32) else ((1 : Int32) <<< ((2 : Int32) &&& 31)))) ||| (if G3 = (0 : Int32) then (0 : Int32) else ((1 : Int32) <<< ((3 : Int32) &&& 31)))))]) (lenOf pd_2 rfl) rfl (by show 2 * 0 + _ ≤ _; exact Nat.le_of_eq rfl) (hb hby at_123) (fun _ _ => ⟨rfl, e492, (by decide : 1 + 0 ≤ _), (by decide : 5 + 0 ≤ _)⟩)
    dsimp only [Pt.U, Pt.locs, Pt.cells, Pt.slots] at X496 l496 y496 z496 st496 hQ496
    subst l496 y496 z496
    obtain ⟨rfl, N496q, e496⟩ := hQ496
    have N498 := Fr.app N494 N496q
    have pre499 : ∀ t, Steps p.tables e below (T496.setTop (mkF m 126 #[.val (.int p0_0), .val (.int p0_1), .val (.int (5 : Int32)), .val (.int (31 : Int32)), .val (.int MM), .val (.ref b431), .val (.int RR), .val (.int ((MM + (1 : Int32)) &&& (31 : Int32))), .unset] [(.int (if G4 = (0 : Int32) then (0 : Int32) else ((1 : Int32) <<< ((4 : Int32) &&& 31)))), (.int ((((if G0 = (0 : Int32) then (0 : Int32) else ((1 : Int32) <<< ((0 : Int32) &&& 31))) ||| (if G1 = (0 : Int32) then (0 : Int32) else ((1 : Int32) <<< ((1 : Int32) &&& 31)))) ||| (if G2 = (0 : Int32) then (0 : Int32) else ((1 : Int32) <<< ((2 : Int32) &&& 31)))) ||| (if G3 = (0 : Int32) then (0 : Int32) else ((1 : Int32) <<< ((3 : Int32) &&& 31)))))])) t → Steps p.tables e below (s₁.setTop (entryFrame m #[(.int p0_0), (.int p0_1)] maxLocals)) t := fun t k => pre495 t (by
      show Steps p.tables e below (T492.setTop (mkF m 119 #[.val (.int p0_0), .val (.int p0_1), .val (.int (5 : Int32)), .val (.int (31 : Int32)), .val (.int MM), .val (.ref b431), .val (.int RR), .val (.int ((MM + (1 : Int32)) &&& (31 : Int32))), .unset] [(.int (if G3 = (0 : Int32) then (0 : Int32) else ((1 : Int32) <<< ((3 : Int32) &&& 31)))), (.int (((if G0 = (0 : Int32) then (0 : Int32) else ((1 : Int32) <<< ((0 : Int32) &&& 31))) ||| (if G1 = (0 : Int32) then (0 : Int32) else ((1 : Int32) <<< ((1 : Int32) &&& 31)))) ||| (if G2 = (0 : Int32) then (0 : Int32) else ((1 : Int32) <<< ((2 : Int32) &&& 31)))))])) _
      refine XS.ior X492.here hx rfl (hb hby at_119) rfl ?_
      refine XS.aload X492.here hx rfl (hb hby at_120) rfl rfl ?_
      refine XS.iconst X492.here hx rfl (hb hby at_122) ?_
      show Steps p.tables e below (T492.setTop (mkF m 123 #[.val (.int p0_0), .val (.int p0_1), .val (.int (5 : Int32)), .val (.int (31 : Int32)), .val (.int MM), .val (.ref b431), .val (.int RR), .val (.int ((MM + (1 : Int32)) &&& (31 : Int32))), .unset] [(.int (4 : Int32)), (.ref b431), (.int ((((if G0 = (0 : Int32) then (0 : Int32) else ((1 : Int32) <<< ((0 : Int32) &&& 31))) ||| (if G1 = (0 : Int32) then (0 : Int32) else ((1 : Int32) <<< ((1 : Int32) &&& 31)))) ||| (if G2 = (0 : Int32) then (0 : Int32) else ((1 : Int32) <<< ((2 : Int32) &&& 31)))) ||| (if G3 = (0 : Int32) then (0 : Int32) else ((1 : Int32) <<< ((3 : Int32) &&& 31)))))])) _
      refine st496 _ ?_
      exact k)
    have hq501 : ¬ ((5 : Int32) < (5 : Int32)) := by
      decide
    obtain ⟨_, _, ⟨T500, L500, k500, n500⟩, -, X500, ⟨Lc500, hQ500, l500, y500, z500⟩, st500⟩ := Jvm.LawKit.callS X496 hx (y := mn1) hown (mvT hZ (hVV 9 _ rfl)) (mvT hZ (hVV 10 _ rfl)) (mvT hZ (hVV 3 _ rfl)) (mvT hZ (hVV 11 _ rfl)) (by decide) (backOf (W := 1) (rm3_o l Z a0 hw [] b431 (5 : Int32) k431 (5 : Int32) ([(.int G0), (.int G1), (.int G2), (.int G3), (.int G4)]) T473.heap n0 z476 V479 hq501) hZ (hVV 11 _ rfl) (hVV 3 _ rfl) (by decide) (by decide)) (g := (mkF m 130 #[.val (.int p0_0), .val (.int p0_1), .val (.int (5 : Int32)), .val (.int (31 : Int32)), .val (.int MM), .val (.ref b431), .val (.int RR), .val (.int ((MM + (1 : Int32)) &&& (31 : Int32))), .unset] [(.int (5 : Int32)), (.ref b431), (.int (((((if G0 = (0 : Int32) then (0 : Int32) else ((1 : Int32) <<< ((0 : Int32) &&& 31))) ||| (if G1 = (0 : Int32) then (0 : Int32) else ((1 : Int32) <<< ((1 : Int32) &&& 31)))) ||| (if G2 = (0 : Int32) then (0 : Int32) else ((1 : Int32) <<< ((2 : Int32) &&& 31)))) ||| (if G3 = (0 : Int32) then (0 : Int32) else ((1 : Int32) <<< ((3 : Int32) &&& 31)))) ||| (if G4 = (0 : Int32) then (0 : Int32) else ((1 : Int32) <<< ((4 : Int32) &&& 31)))))])) rfl (by rw [hml]; rfl) (argsL := [(.ref b431), (.int (5 : Int32))]) (rest := [(.int (((((if G0 = (0 : Int32) then (0 : Int32) else ((1 : Int32) <<< ((0 : Int32) &&& 31))) ||| (if G1 = (0 : Int32) then (0 : Int32) else ((1 : Int32) <<< ((1 : Int32) &&& 31)))) ||| (if G2 = (0 : Int32) then (0 : Int32) else ((1 : Int32) <<< ((2 : Int32) &&& 31)))) ||| (if G3 = (0 : Int32) then (0 : Int32) else ((1 : Int32) <<< ((3 : Int32) &&& 31)))) ||| (if G4 = (0 : Int32) then (0 : Int32) else ((1 : Int32) <<< ((4 : Int32) &&& 31)))))]) (lenOf pd_2 rfl) rfl (by show 2 * 0 + _ ≤ _; exact Nat.le_of_eq rfl) (hb hby at_130) (fun _ _ => ⟨rfl, e496, (by decide : 1 + 0 ≤ _), (by decide : 5 + 0 ≤ _)⟩)
    dsimp only [Pt.U, Pt.locs, Pt.cells, Pt.slots] at X500 l500 y500 z500 st500 hQ500
    subst l500 y500 z500
    obtain ⟨rfl, N500q, e500⟩ := hQ500
    have N502 := Fr.app N498 N500q
    have pre503 : ∀ t, Steps p.tables e below (T500.setTop (mkF m 133 #[.val (.int p0_0), .val (.int p0_1), .val (.int (5 : Int32)), .val (.int (31 : Int32)), .val (.int MM), .val (.ref b431), .val (.int RR), .val (.int ((MM + (1 : Int32)) &&& (31 : Int32))), .unset] [(.int (0 : Int32)), (.int (((((if G0 = (0 : Int32) then (0 : Int32) else ((1 : Int32) <<< ((0 : Int32) &&& 31))) ||| (if G1 = (0 : Int32) then (0 : Int32) else ((1 : Int32) <<< ((1 : Int32) &&& 31)))) ||| (if G2 = (0 : Int32) then (0 : Int32) else ((1 : Int32) <<< ((2 : Int32) &&& 31)))) ||| (if G3 = (0 : Int32) then (0 : Int32) else ((1 : Int32) <<< ((3 : Int32) &&& 31)))) ||| (if G4 = (0 : Int32) then (0 : Int32) else ((1 : Int32) <<< ((4 : Int32) &&& 31)))))])) t → Steps p.tables e below (s₁.setTop (entryFrame m #[(.int p0_0), (.int p0_1)] maxLocals)) t := fun t k => pre499 t (by
      show Steps p.tables e below (T496.setTop (mkF m 126 #[.val (.int p0_0), .val (.int p0_1), .val (.int (5 : Int32)), .val (.int (31 : Int32)), .val (.int MM), .val (.ref b431), .val (.int RR), .val (.int ((MM + (1 : Int32)) &&& (31 : Int32))), .unset] [(.int (if G4 = (0 : Int32) then (0 : Int32) else ((1 : Int32) <<< ((4 : Int32) &&& 31)))), (.int ((((if G0 = (0 : Int32) then (0 : Int32) else ((1 : Int32) <<< ((0 : Int32) &&& 31))) ||| (if G1 = (0 : Int32) then (0 : Int32) else ((1 : Int32) <<< ((1 : Int32) &&& 31)))) ||| (if G2 = (0 : Int32) then (0 : Int32) else ((1 : Int32) <<< ((2 : Int32) &&& 31)))) ||| (if G3 = (0 : Int32) then (0 : Int32) else ((1 : Int32) <<< ((3 : Int32) &&& 31)))))])) _
      refine XS.ior X496.here hx rfl (hb hby at_126) rfl ?_
      refine XS.aload X496.here hx rfl (hb hby at_127) rfl rfl ?_
      refine XS.iconst X496.here hx rfl (hb hby at_129) ?_
      show Steps p.tables e below (T496.setTop (mkF m 130 #[.val (.int p0_0), .val (.int p0_1), .val (.int (5 : Int32)), .val (.int (31 : Int32)), .val (.int MM), .val (.ref b431), .val (.int RR), .val (.int ((MM + (1 : Int32)) &&& (31 : Int32))), .unset] [(.int (5 : Int32)), (.ref b431), (.int (((((if G0 = (0 : Int32) then (0 : Int32) else ((1 : Int32) <<< ((0 : Int32) &&& 31))) ||| (if G1 = (0 : Int32) then (0 : Int32) else ((1 : Int32) <<< ((1 : Int32) &&& 31)))) ||| (if G2 = (0 : Int32) then (0 : Int32) else ((1 : Int32) <<< ((2 : Int32) &&& 31)))) ||| (if G3 = (0 : Int32) then (0 : Int32) else ((1 : Int32) <<< ((3 : Int32) &&& 31)))) ||| (if G4 = (0 : Int32) then (0 : Int32) else ((1 : Int32) <<< ((4 : Int32) &&& 31)))))])) _
      refine st500 _ ?_
      exact k)
    have hq505 : ¬ ((6 : Int32) < (5 : Int32)) := by
      decide
    obtain ⟨_, _, ⟨T504, L504, k504, n504⟩, -, X504, ⟨Lc504, hQ504, l504, y504, z504⟩, st504⟩ := Jvm.LawKit.callS X500 hx (y := mn1) hown (mvT hZ (hVV 9 _ rfl)) (mvT hZ (hVV 10 _ rfl)) (mvT hZ (hVV 3 _ rfl)) (mvT hZ (hVV 11 _ rfl)) (by decide) (backOf (W := 1) (rm3_o l Z a0 hw [] b431 (6 : Int32) k431 (5 : Int32) ([(.int G0), (.int G1), (.int G2), (.int G3), (.int G4)]) T473.heap n0 z476 V479 hq505) hZ (hVV 11 _ rfl) (hVV 3 _ rfl) (by decide) (by decide)) (g := (mkF m 138 #[.val (.int p0_0), .val (.int p0_1), .val (.int (5 : Int32)), .val (.int (31 : Int32)), .val (.int MM), .val (.ref b431), .val (.int RR), .val (.int ((MM + (1 : Int32)) &&& (31 : Int32))), .unset] [(.int (6 : Int32)), (.ref b431), (.int ((((((if G0 = (0 : Int32) then (0 : Int32) else ((1 : Int32) <<< ((0 : Int32) &&& 31))) ||| (if G1 = (0 : Int32) then (0 : Int32) else ((1 : Int32) <<< ((1 : Int32) &&& 31)))) ||| (if G2 = (0 : Int32) then (0 : Int32) else ((1 : Int32) <<< ((2 : Int32) &&& 31)))) ||| (if G3 = (0 : Int32) then (0 : Int32) else ((1 : Int32) <<< ((3 : Int32) &&& 31)))) ||| (if G4 = (0 : Int32) then (0 : Int32) else ((1 : Int32) <<< ((4 : Int32) &&& 31)))) ||| (0 : Int32)))])) rfl (by rw [hml]; rfl) (argsL := [(.ref b431), (.int (6 : Int32))]) (rest := [(.int ((((((if G0 = (0 : Int32) then (0 : Int32) else ((1 : Int32) <<< ((0 : Int32) &&& 31))) ||| (if G1 = (0 : Int32) then (0 : Int32) else ((1 : Int32) <<< ((1 : Int32) &&& 31)))) ||| (if G2 = (0 : Int32) then (0 : Int32) else ((1 : Int32) <<< ((2 : Int32) &&& 31)))) ||| (if G3 = (0 : Int32) then (0 : Int32) else ((1 : Int32) <<< ((3 : Int32) &&& 31)))) ||| (if G4 = (0 : Int32) then (0 : Int32) else ((1 : Int32) <<< ((4 : Int32) &&& 31)))) ||| (0 : Int32)))]) (lenOf pd_2 rfl) rfl (by show 2 * 0 + _ ≤ _; exact Nat.le_of_eq rfl) (hb hby at_138) (fun _ _ => ⟨rfl, e500, (by decide : 1 + 0 ≤ _), (by decide : 5 + 0 ≤ _)⟩)
    dsimp only [Pt.U, Pt.locs, Pt.cells, Pt.slots] at X504 l504 y504 z504 st504 hQ504
    subst l504 y504 z504
    obtain ⟨rfl, N504q, e504⟩ := hQ504
    have N506 := Fr.app N502 N504q
    have pre507 : ∀ t, Steps p.tables e below (T504.setTop (mkF m 141 #[.val (.int p0_0), .val (.int p0_1), .val (.int (5 : Int32)), .val (.int (31 : Int32)), .val (.int MM), .val (.ref b431), .val (.int RR), .val (.int ((MM + (1 : Int32)) &&& (31 : Int32))), .unset] [(.int (0 : Int32)), (.int ((((((if G0 = (0 : Int32) then (0 : Int32) else ((1 : Int32) <<< ((0 : Int32) &&& 31))) ||| (if G1 = (0 : Int32) then (0 : Int32) else ((1 : Int32) <<< ((1 : Int32) &&& 31)))) ||| (if G2 = (0 : Int32) then (0 : Int32) else ((1 : Int32) <<< ((2 : Int32) &&& 31)))) ||| (if G3 = (0 : Int32) then (0 : Int32) else ((1 : Int32) <<< ((3 : Int32) &&& 31)))) ||| (if G4 = (0 : Int32) then (0 : Int32) else ((1 : Int32) <<< ((4 : Int32) &&& 31)))) ||| (0 : Int32)))])) t → Steps p.tables e below (s₁.setTop (entryFrame m #[(.int p0_0), (.int p0_1)] maxLocals)) t := fun t k => pre503 t (by
      show Steps p.tables e below (T500.setTop (mkF m 133 #[.val (.int p0_0), .val (.int p0_1), .val (.int (5 : Int32)), .val (.int (31 : Int32)), .val (.int MM), .val (.ref b431), .val (.int RR), .val (.int ((MM + (1 : Int32)) &&& (31 : Int32))), .unset] [(.int (0 : Int32)), (.int (((((if G0 = (0 : Int32) then (0 : Int32) else ((1 : Int32) <<< ((0 : Int32) &&& 31))) ||| (if G1 = (0 : Int32) then (0 : Int32) else ((1 : Int32) <<< ((1 : Int32) &&& 31)))) ||| (if G2 = (0 : Int32) then (0 : Int32) else ((1 : Int32) <<< ((2 : Int32) &&& 31)))) ||| (if G3 = (0 : Int32) then (0 : Int32) else ((1 : Int32) <<< ((3 : Int32) &&& 31)))) ||| (if G4 = (0 : Int32) then (0 : Int32) else ((1 : Int32) <<< ((4 : Int32) &&& 31)))))])) _
      refine XS.ior X500.here hx rfl (hb hby at_133) rfl ?_
      refine XS.aload X500.here hx rfl (hb hby at_134) rfl rfl ?_
      refine XS.bipush X500.here hx rfl (hb hby at_136) ?_
      show Steps p.tables e below (T500.setTop (mkF m 138 #[.val (.int p0_0), .val (.int p0_1), .val (.int (5 : Int32)), .val (.int (31 : Int32)), .val (.int MM), .val (.ref b431), .val (.int RR), .val (.int ((MM + (1 : Int32)) &&& (31 : Int32))), .unset] [(.int (6 : Int32)), (.ref b431), (.int ((((((if G0 = (0 : Int32) then (0 : Int32) else ((1 : Int32) <<< ((0 : Int32) &&& 31))) ||| (if G1 = (0 : Int32) then (0 : Int32) else ((1 : Int32) <<< ((1 : Int32) &&& 31)))) ||| (if G2 = (0 : Int32) then (0 : Int32) else ((1 : Int32) <<< ((2 : Int32) &&& 31)))) ||| (if G3 = (0 : Int32) then (0 : Int32) else ((1 : Int32) <<< ((3 : Int32) &&& 31)))) ||| (if G4 = (0 : Int32) then (0 : Int32) else ((1 : Int32) <<< ((4 : Int32) &&& 31)))) ||| (0 : Int32)))])) _
      refine st504 _ ?_
      exact k)
    obtain ⟨cl508, Ar508, q508, S508, N508, H508, G508⟩ := id V479
    have pre510 : ∀ t, Steps p.tables e below (T504.setTop (mkF m 156 #[.val (.int p0_0), .val (.int p0_1), .val (.int (5 : Int32)), .val (.int (31 : Int32)), .val (.int MM), .val (.ref b431), .val (.int RR), .val (.int ((MM + (1 : Int32)) &&& (31 : Int32))), .val (.int (((((((if G0 = (0 : Int32) then (0 : Int32) else ((1 : Int32) <<< ((0 : Int32) &&& 31))) ||| (if G1 = (0 : Int32) then (0 : Int32) else ((1 : Int32) <<< ((1 : Int32) &&& 31)))) ||| (if G2 = (0 : Int32) then (0 : Int32) else ((1 : Int32) <<< ((2 : Int32) &&& 31)))) ||| (if G3 = (0 : Int32) then (0 : Int32) else ((1 : Int32) <<< ((3 : Int32) &&& 31)))) ||| (if G4 = (0 : Int32) then (0 : Int32) else ((1 : Int32) <<< ((4 : Int32) &&& 31)))) ||| (0 : Int32)) ||| (0 : Int32)))] [(.int (31 : Int32)), (.int MM), (.int RR)])) t → Steps p.tables e below (s₁.setTop (entryFrame m #[(.int p0_0), (.int p0_1)] maxLocals)) t := fun t k => pre507 t (by
      show Steps p.tables e below (T504.setTop (mkF m 141 #[.val (.int p0_0), .val (.int p0_1), .val (.int (5 : Int32)), .val (.int (31 : Int32)), .val (.int MM), .val (.ref b431), .val (.int RR), .val (.int ((MM + (1 : Int32)) &&& (31 : Int32))), .unset] [(.int (0 : Int32)), (.int ((((((if G0 = (0 : Int32) then (0 : Int32) else ((1 : Int32) <<< ((0 : Int32) &&& 31))) ||| (if G1 = (0 : Int32) then (0 : Int32) else ((1 : Int32) <<< ((1 : Int32) &&& 31)))) ||| (if G2 = (0 : Int32) then (0 : Int32) else ((1 : Int32) <<< ((2 : Int32) &&& 31)))) ||| (if G3 = (0 : Int32) then (0 : Int32) else ((1 : Int32) <<< ((3 : Int32) &&& 31)))) ||| (if G4 = (0 : Int32) then (0 : Int32) else ((1 : Int32) <<< ((4 : Int32) &&& 31)))) ||| (0 : Int32)))])) _
      refine XS.ior X504.here hx rfl (hb hby at_141) rfl ?_
      show Steps p.tables e below (T504.setTop (mkF m 142 #[.val (.int p0_0), .val (.int p0_1), .val (.int (5 : Int32)), .val (.int (31 : Int32)), .val (.int MM), .val (.ref b431), .val (.int RR), .val (.int ((MM + (1 : Int32)) &&& (31 : Int32))), .unset] [(.int (((((((if G0 = (0 : Int32) then (0 : Int32) else ((1 : Int32) <<< ((0 : Int32) &&& 31))) ||| (if G1 = (0 : Int32) then (0 : Int32) else ((1 : Int32) <<< ((1 : Int32) &&& 31)))) ||| (if G2 = (0 : Int32) then (0 : Int32) else ((1 : Int32) <<< ((2 : Int32) &&& 31)))) ||| (if G3 = (0 : Int32) then (0 : Int32) else ((1 : Int32) <<< ((3 : Int32) &&& 31)))) ||| (if G4 = (0 : Int32) then (0 : Int32) else ((1 : Int32) <<< ((4 : Int32) &&& 31)))) ||| (0 : Int32)) ||| (0 : Int32)))])) _
      refine XS.istore X504.here hx rfl (hb hby at_142) rfl (l' := #[.val (.int p0_0), .val (.int p0_1), .val (.int (5 : Int32)), .val (.int (31 : Int32)), .val (.int MM), .val (.ref b431), .val (.int RR), .val (.int ((MM + (1 : Int32)) &&& (31 : Int32))), .val (.int (((((((if G0 = (0 : Int32) then (0 : Int32) else ((1 : Int32) <<< ((0 : Int32) &&& 31))) ||| (if G1 = (0 : Int32) then (0 : Int32) else ((1 : Int32) <<< ((1 : Int32) &&& 31)))) ||| (if G2 = (0 : Int32) then (0 : Int32) else ((1 : Int32) <<< ((2 : Int32) &&& 31)))) ||| (if G3 = (0 : Int32) then (0 : Int32) else ((1 : Int32) <<< ((3 : Int32) &&& 31)))) ||| (if G4 = (0 : Int32) then (0 : Int32) else ((1 : Int32) <<< ((4 : Int32) &&& 31)))) ||| (0 : Int32)) ||| (0 : Int32)))]) rfl ?_
      show Steps p.tables e below (T504.setTop (mkF m 144 #[.val (.int p0_0), .val (.int p0_1), .val (.int (5 : Int32)), .val (.int (31 : Int32)), .val (.int MM), .val (.ref b431), .val (.int RR), .val (.int ((MM + (1 : Int32)) &&& (31 : Int32))), .val (.int (((((((if G0 = (0 : Int32) then (0 : Int32) else ((1 : Int32) <<< ((0 : Int32) &&& 31))) ||| (if G1 = (0 : Int32) then (0 : Int32) else ((1 : Int32) <<< ((1 : Int32) &&& 31)))) ||| (if G2 = (0 : Int32) then (0 : Int32) else ((1 : Int32) <<< ((2 : Int32) &&& 31)))) ||| (if G3 = (0 : Int32) then (0 : Int32) else ((1 : Int32) <<< ((3 : Int32) &&& 31)))) ||| (if G4 = (0 : Int32) then (0 : Int32) else ((1 : Int32) <<< ((4 : Int32) &&& 31)))) ||| (0 : Int32)) ||| (0 : Int32)))] [])) _
      refine XS.aload X504.here hx rfl (hb hby at_144) rfl rfl ?_
      show Steps p.tables e below (T504.setTop (mkF m 146 #[.val (.int p0_0), .val (.int p0_1), .val (.int (5 : Int32)), .val (.int (31 : Int32)), .val (.int MM), .val (.ref b431), .val (.int RR), .val (.int ((MM + (1 : Int32)) &&& (31 : Int32))), .val (.int (((((((if G0 = (0 : Int32) then (0 : Int32) else ((1 : Int32) <<< ((0 : Int32) &&& 31))) ||| (if G1 = (0 : Int32) then (0 : Int32) else ((1 : Int32) <<< ((1 : Int32) &&& 31)))) ||| (if G2 = (0 : Int32) then (0 : Int32) else ((1 : Int32) <<< ((2 : Int32) &&& 31)))) ||| (if G3 = (0 : Int32) then (0 : Int32) else ((1 : Int32) <<< ((3 : Int32) &&& 31)))) ||| (if G4 = (0 : Int32) then (0 : Int32) else ((1 : Int32) <<< ((4 : Int32) &&& 31)))) ||| (0 : Int32)) ||| (0 : Int32)))] [(.ref b431)])) _
      refine X504.arraylength hx (by rw [e504]; exact Ar508.1) (State.isArrayOf_alike hZ.alike Ar508.2.1) (g := (mkF m 146 #[.val (.int p0_0), .val (.int p0_1), .val (.int (5 : Int32)), .val (.int (31 : Int32)), .val (.int MM), .val (.ref b431), .val (.int RR), .val (.int ((MM + (1 : Int32)) &&& (31 : Int32))), .val (.int (((((((if G0 = (0 : Int32) then (0 : Int32) else ((1 : Int32) <<< ((0 : Int32) &&& 31))) ||| (if G1 = (0 : Int32) then (0 : Int32) else ((1 : Int32) <<< ((1 : Int32) &&& 31)))) ||| (if G2 = (0 : Int32) then (0 : Int32) else ((1 : Int32) <<< ((2 : Int32) &&& 31)))) ||| (if G3 = (0 : Int32) then (0 : Int32) else ((1 : Int32) <<< ((3 : Int32) &&& 31)))) ||| (if G4 = (0 : Int32) then (0 : Int32) else ((1 : Int32) <<< ((4 : Int32) &&& 31)))) ||| (0 : Int32)) ||| (0 : Int32)))] [(.ref b431)])) rfl rfl (hb hby at_146) _ ?_
      rw [len_of S508 N508]
      show Steps p.tables e below (T504.setTop (mkF m 147 #[.val (.int p0_0), .val (.int p0_1), .val (.int (5 : Int32)), .val (.int (31 : Int32)), .val (.int MM), .val (.ref b431), .val (.int RR), .val (.int ((MM + (1 : Int32)) &&& (31 : Int32))), .val (.int (((((((if G0 = (0 : Int32) then (0 : Int32) else ((1 : Int32) <<< ((0 : Int32) &&& 31))) ||| (if G1 = (0 : Int32) then (0 : Int32) else ((1 : Int32) <<< ((1 : Int32) &&& 31)))) ||| (if G2 = (0 : Int32) then (0 : Int32) else ((1 : Int32) <<< ((2 : Int32) &&& 31)))) ||| (if G3 = (0 : Int32) then (0 : Int32) else ((1 : Int32) <<< ((3 : Int32) &&& 31)))) ||| (if G4 = (0 : Int32) then (0 : Int32) else ((1 : Int32) <<< ((4 : Int32) &&& 31)))) ||| (0 : Int32)) ||| (0 : Int32)))] [(.int (5 : Int32))])) _
      refine XS.iloadN X504.here hx rfl (hb hby at_147) rfl ?_
      show Steps p.tables e below (T504.setTop (mkF m 148 #[.val (.int p0_0), .val (.int p0_1), .val (.int (5 : Int32)), .val (.int (31 : Int32)), .val (.int MM), .val (.ref b431), .val (.int RR), .val (.int ((MM + (1 : Int32)) &&& (31 : Int32))), .val (.int (((((((if G0 = (0 : Int32) then (0 : Int32) else ((1 : Int32) <<< ((0 : Int32) &&& 31))) ||| (if G1 = (0 : Int32) then (0 : Int32) else ((1 : Int32) <<< ((1 : Int32) &&& 31)))) ||| (if G2 = (0 : Int32) then (0 : Int32) else ((1 : Int32) <<< ((2 : Int32) &&& 31)))) ||| (if G3 = (0 : Int32) then (0 : Int32) else ((1 : Int32) <<< ((3 : Int32) &&& 31)))) ||| (if G4 = (0 : Int32) then (0 : Int32) else ((1 : Int32) <<< ((4 : Int32) &&& 31)))) ||| (0 : Int32)) ||| (0 : Int32)))] [(.int (5 : Int32)), (.int (5 : Int32))])) _
      refine XS.icmpNo X504.here hx rfl (hb hby at_148) rfl (teq (by decide : (5 : Int32) = (5 : Int32))).2 ?_
      show Steps p.tables e below (T504.setTop (mkF m 151 #[.val (.int p0_0), .val (.int p0_1), .val (.int (5 : Int32)), .val (.int (31 : Int32)), .val (.int MM), .val (.ref b431), .val (.int RR), .val (.int ((MM + (1 : Int32)) &&& (31 : Int32))), .val (.int (((((((if G0 = (0 : Int32) then (0 : Int32) else ((1 : Int32) <<< ((0 : Int32) &&& 31))) ||| (if G1 = (0 : Int32) then (0 : Int32) else ((1 : Int32) <<< ((1 : Int32) &&& 31)))) ||| (if G2 = (0 : Int32) then (0 : Int32) else ((1 : Int32) <<< ((2 : Int32) &&& 31)))) ||| (if G3 = (0 : Int32) then (0 : Int32) else ((1 : Int32) <<< ((3 : Int32) &&& 31)))) ||| (if G4 = (0 : Int32) then (0 : Int32) else ((1 : Int32) <<< ((4 : Int32) &&& 31)))) ||| (0 : Int32)) ||| (0 : Int32)))] [])) _
      refine XS.iload X504.here hx rfl (hb hby at_151) rfl ?_
      refine XS.iload X504.here hx rfl (hb hby at_153) rfl ?_
      refine XS.iloadN X504.here hx rfl (hb hby at_155) rfl ?_
      exact k)
    have pre511 : ∀ t, Steps p.tables e below (T504.setTop (mkF m 164 #[.val (.int p0_0), .val (.int p0_1), .val (.int (5 : Int32)), .val (.int (31 : Int32)), .val (.int MM), .val (.ref b431), .val (.int RR), .val (.int ((MM + (1 : Int32)) &&& (31 : Int32))), .val (.int (((((((if G0 = (0 : Int32) then (0 : Int32) else ((1 : Int32) <<< ((0 : Int32) &&& 31))) ||| (if G1 = (0 : Int32) then (0 : Int32) else ((1 : Int32) <<< ((1 : Int32) &&& 31)))) ||| (if G2 = (0 : Int32) then (0 : Int32) else ((1 : Int32) <<< ((2 : Int32) &&& 31)))) ||| (if G3 = (0 : Int32) then (0 : Int32) else ((1 : Int32) <<< ((3 : Int32) &&& 31)))) ||| (if G4 = (0 : Int32) then (0 : Int32) else ((1 : Int32) <<< ((4 : Int32) &&& 31)))) ||| (0 : Int32)) ||| (0 : Int32)))] [(.int (bI (¬ (MM = (31 : Int32))))), (.int RR)])) t → Steps p.tables e below (s₁.setTop (entryFrame m #[(.int p0_0), (.int p0_1)] maxLocals)) t := fun t k => pre510 t (by
      by_cases hc509 : MM = (31 : Int32)
      · show Steps p.tables e below (T504.setTop (mkF m 156 #[.val (.int p0_0), .val (.int p0_1), .val (.int (5 : Int32)), .val (.int (31 : Int32)), .val (.int MM), .val (.ref b431), .val (.int RR), .val (.int ((MM + (1 : Int32)) &&& (31 : Int32))), .val (.int (((((((if G0 = (0 : Int32) then (0 : Int32) else ((1 : Int32) <<< ((0 : Int32) &&& 31))) ||| (if G1 = (0 : Int32) then (0 : Int32) else ((1 : Int32) <<< ((1 : Int32) &&& 31)))) ||| (if G2 = (0 : Int32) then (0 : Int32) else ((1 : Int32) <<< ((2 : Int32) &&& 31)))) ||| (if G3 = (0 : Int32) then (0 : Int32) else ((1 : Int32) <<< ((3 : Int32) &&& 31)))) ||| (if G4 = (0 : Int32) then (0 : Int32) else ((1 : Int32) <<< ((4 : Int32) &&& 31)))) ||| (0 : Int32)) ||| (0 : Int32)))] [(.int (31 : Int32)), (.int MM), (.int RR)])) _
        refine XS.icmpYes X504.here hx rfl (pc0 := 156) (pc' := 163) rfl (hb hby at_156) rfl (teq hc509).1 (by decide) (by decide) ?_
        show Steps p.tables e below (T504.setTop (mkF m 163 #[.val (.int p0_0), .val (.int p0_1), .val (.int (5 : Int32)), .val (.int (31 : Int32)), .val (.int MM), .val (.ref b431), .val (.int RR), .val (.int ((MM + (1 : Int32)) &&& (31 : Int32))), .val (.int (((((((if G0 = (0 : Int32) then (0 : Int32) else ((1 : Int32) <<< ((0 : Int32) &&& 31))) ||| (if G1 = (0 : Int32) then (0 : Int32) else ((1 : Int32) <<< ((1 : Int32) &&& 31)))) ||| (if G2 = (0 : Int32) then (0 : Int32) else ((1 : Int32) <<< ((2 : Int32) &&& 31)))) ||| (if G3 = (0 : Int32) then (0 : Int32) else ((1 : Int32) <<< ((3 : Int32) &&& 31)))) ||| (if G4 = (0 : Int32) then (0 : Int32) else ((1 : Int32) <<< ((4 : Int32) &&& 31)))) ||| (0 : Int32)) ||| (0 : Int32)))] [(.int RR)])) _
        refine XS.iconst X504.here hx rfl (hb hby at_163) ?_
        have q512 : (bI (¬ (MM = (31 : Int32)))) = (0 : Int32) := (bI_f (fun q => q hc509))
        exact castTop (g := (mkF m 164 #[.val (.int p0_0), .val (.int p0_1), .val (.int (5 : Int32)), .val (.int (31 : Int32)), .val (.int MM), .val (.ref b431), .val (.int RR), .val (.int ((MM + (1 : Int32)) &&& (31 : Int32))), .val (.int (((((((if G0 = (0 : Int32) then (0 : Int32) else ((1 : Int32) <<< ((0 : Int32) &&& 31))) ||| (if G1 = (0 : Int32) then (0 : Int32) else ((1 : Int32) <<< ((1 : Int32) &&& 31)))) ||| (if G2 = (0 : Int32) then (0 : Int32) else ((1 : Int32) <<< ((2 : Int32) &&& 31)))) ||| (if G3 = (0 : Int32) then (0 : Int32) else ((1 : Int32) <<< ((3 : Int32) &&& 31)))) ||| (if G4 = (0 : Int32) then (0 : Int32) else ((1 : Int32) <<< ((4 : Int32) &&& 31)))) ||| (0 : Int32)) ||| (0 : Int32)))] [(.int (0 : Int32)), (.int RR)])) (g' := (mkF m 164 #[.val (.int p0_0), .val (.int p0_1), .val (.int (5 : Int32)), .val (.int (31 : Int32)), .val (.int MM), .val (.ref b431), .val (.int RR), .val (.int ((MM + (1 : Int32)) &&& (31 : Int32))), .val (.int (((((((if G0 = (0 : Int32) then (0 : Int32) else ((1 : Int32) <<< ((0 : Int32) &&& 31))) ||| (if G1 = (0 : Int32) then (0 : Int32) else ((1 : Int32) <<< ((1 : Int32) &&& 31)))) ||| (if G2 = (0 : Int32) then (0 : Int32) else ((1 : Int32) <<< ((2 : Int32) &&& 31)))) ||| (if G3 = (0 : Int32) then (0 : Int32) else ((1 : Int32) <<< ((3 : Int32) &&& 31)))) ||| (if G4 = (0 : Int32) then (0 : Int32) else ((1 : Int32) <<< ((4 : Int32) &&& 31)))) ||| (0 : Int32)) ||| (0 : Int32)))] [(.int (bI (¬ (MM = (31 : Int32))))), (.int RR)])) (by simp only [q512]) k
      · show Steps p.tables e below (T504.setTop (mkF m 156 #[.val (.int p0_0), .val (.int p0_1), .val (.int (5 : Int32)), .val (.int (31 : Int32)), .val (.int MM), .val (.ref b431), .val (.int RR), .val (.int ((MM + (1 : Int32)) &&& (31 : Int32))), .val (.int (((((((if G0 = (0 : Int32) then (0 : Int32) else ((1 : Int32) <<< ((0 : Int32) &&& 31))) ||| (if G1 = (0 : Int32) then (0 : Int32) else ((1 : Int32) <<< ((1 : Int32) &&& 31)))) ||| (if G2 = (0 : Int32) then (0 : Int32) else ((1 : Int32) <<< ((2 : Int32) &&& 31)))) ||| (if G3 = (0 : Int32) then (0 : Int32) else ((1 : Int32) <<< ((3 : Int32) &&& 31)))) ||| (if G4 = (0 : Int32) then (0 : Int32) else ((1 : Int32) <<< ((4 : Int32) &&& 31)))) ||| (0 : Int32)) ||| (0 : Int32)))] [(.int (31 : Int32)), (.int MM), (.int RR)])) _
        refine XS.icmpNo X504.here hx rfl (hb hby at_156) rfl (feq hc509).1 ?_
        show Steps p.tables e below (T504.setTop (mkF m 159 #[.val (.int p0_0), .val (.int p0_1), .val (.int (5 : Int32)), .val (.int (31 : Int32)), .val (.int MM), .val (.ref b431), .val (.int RR), .val (.int ((MM + (1 : Int32)) &&& (31 : Int32))), .val (.int (((((((if G0 = (0 : Int32) then (0 : Int32) else ((1 : Int32) <<< ((0 : Int32) &&& 31))) ||| (if G1 = (0 : Int32) then (0 : Int32) else ((1 : Int32) <<< ((1 : Int32) &&& 31)))) ||| (if G2 = (0 : Int32) then (0 : Int32) else ((1 : Int32) <<< ((2 : Int32) &&& 31)))) ||| (if G3 = (0 : Int32) then (0 : Int32) else ((1 : Int32) <<< ((3 : Int32) &&& 31)))) ||| (if G4 = (0 : Int32) then (0 : Int32) else ((1 : Int32) <<< ((4 : Int32) &&& 31)))) ||| (0 : Int32)) ||| (0 : Int32)))] [(.int RR)])) _
        refine XS.iconst X504.here hx rfl (hb hby at_159) ?_
        show Steps p.tables e below (T504.setTop (mkF m 160 #[.val (.int p0_0), .val (.int p0_1), .val (.int (5 : Int32)), .val (.int (31 : Int32)), .val (.int MM), .val (.ref b431), .val (.int RR), .val (.int ((MM + (1 : Int32)) &&& (31 : Int32))), .val (.int (((((((if G0 = (0 : Int32) then (0 : Int32) else ((1 : Int32) <<< ((0 : Int32) &&& 31))) ||| (if G1 = (0 : Int32) then (0 : Int32) else ((1 : Int32) <<< ((1 : Int32) &&& 31)))) ||| (if G2 = (0 : Int32) then (0 : Int32) else ((1 : Int32) <<< ((2 : Int32) &&& 31)))) ||| (if G3 = (0 : Int32) then (0 : Int32) else ((1 : Int32) <<< ((3 : Int32) &&& 31)))) ||| (if G4 = (0 : Int32) then (0 : Int32) else ((1 : Int32) <<< ((4 : Int32) &&& 31)))) ||| (0 : Int32)) ||| (0 : Int32)))] [(.int (1 : Int32)), (.int RR)])) _
        refine XS.goto X504.here hx rfl (pc0 := 160) (pc' := 164) rfl (hb hby at_160) (by decide) (by decide) ?_
        have q513 : (bI (¬ (MM = (31 : Int32)))) = (1 : Int32) := (bI_t hc509)
        exact castTop (g := (mkF m 164 #[.val (.int p0_0), .val (.int p0_1), .val (.int (5 : Int32)), .val (.int (31 : Int32)), .val (.int MM), .val (.ref b431), .val (.int RR), .val (.int ((MM + (1 : Int32)) &&& (31 : Int32))), .val (.int (((((((if G0 = (0 : Int32) then (0 : Int32) else ((1 : Int32) <<< ((0 : Int32) &&& 31))) ||| (if G1 = (0 : Int32) then (0 : Int32) else ((1 : Int32) <<< ((1 : Int32) &&& 31)))) ||| (if G2 = (0 : Int32) then (0 : Int32) else ((1 : Int32) <<< ((2 : Int32) &&& 31)))) ||| (if G3 = (0 : Int32) then (0 : Int32) else ((1 : Int32) <<< ((3 : Int32) &&& 31)))) ||| (if G4 = (0 : Int32) then (0 : Int32) else ((1 : Int32) <<< ((4 : Int32) &&& 31)))) ||| (0 : Int32)) ||| (0 : Int32)))] [(.int (1 : Int32)), (.int RR)])) (g' := (mkF m 164 #[.val (.int p0_0), .val (.int p0_1), .val (.int (5 : Int32)), .val (.int (31 : Int32)), .val (.int MM), .val (.ref b431), .val (.int RR), .val (.int ((MM + (1 : Int32)) &&& (31 : Int32))), .val (.int (((((((if G0 = (0 : Int32) then (0 : Int32) else ((1 : Int32) <<< ((0 : Int32) &&& 31))) ||| (if G1 = (0 : Int32) then (0 : Int32) else ((1 : Int32) <<< ((1 : Int32) &&& 31)))) ||| (if G2 = (0 : Int32) then (0 : Int32) else ((1 : Int32) <<< ((2 : Int32) &&& 31)))) ||| (if G3 = (0 : Int32) then (0 : Int32) else ((1 : Int32) <<< ((3 : Int32) &&& 31)))) ||| (if G4 = (0 : Int32) then (0 : Int32) else ((1 : Int32) <<< ((4 : Int32) &&& 31)))) ||| (0 : Int32)) ||| (0 : Int32)))] [(.int (bI (¬ (MM = (31 : Int32))))), (.int RR)])) (by simp only [q513]) k)
    have hd514 : RR = (bI (¬ (MM = (31 : Int32)))) := by
      rw [hRR]
      exact own_fin (P := fun y : Int32 => (bI (((own_b y (0 : Int32)) = (0 : Int32)) ∨ (((own_b y (1 : Int32)) = (0 : Int32)) ∨ (((own_b y (2 : Int32)) = (0 : Int32)) ∨ (((own_b y (3 : Int32)) = (0 : Int32)) ∨ ((own_b y (4 : Int32)) = (0 : Int32))))))) = (bI (¬ (y = (31 : Int32))))) own_r_5 MM hM.1 hM.2
    have hd515 : (((((((if G0 = (0 : Int32) then (0 : Int32) else ((1 : Int32) <<< ((0 : Int32) &&& 31))) ||| (if G1 = (0 : Int32) then (0 : Int32) else ((1 : Int32) <<< ((1 : Int32) &&& 31)))) ||| (if G2 = (0 : Int32) then (0 : Int32) else ((1 : Int32) <<< ((2 : Int32) &&& 31)))) ||| (if G3 = (0 : Int32) then (0 : Int32) else ((1 : Int32) <<< ((3 : Int32) &&& 31)))) ||| (if G4 = (0 : Int32) then (0 : Int32) else ((1 : Int32) <<< ((4 : Int32) &&& 31)))) ||| (0 : Int32)) ||| (0 : Int32)) = ((MM + (1 : Int32)) &&& (31 : Int32)) := by
      rw [hG0, hG1, hG2, hG3, hG4]
      exact own_fin (P := fun y : Int32 => (((((((if (bI ((own_b y (0 : Int32)) = (0 : Int32))) = (0 : Int32) then (0 : Int32) else ((1 : Int32) <<< ((0 : Int32) &&& 31))) ||| (if (if (own_b y (0 : Int32)) = (0 : Int32) then (own_b y (1 : Int32)) else (bI ((own_b y (1 : Int32)) = (0 : Int32)))) = (0 : Int32) then (0 : Int32) else ((1 : Int32) <<< ((1 : Int32) &&& 31)))) ||| (if (if (own_b y (0 : Int32)) = (0 : Int32) then (own_b y (2 : Int32)) else (if (own_b y (1 : Int32)) = (0 : Int32) then (own_b y (2 : Int32)) else (bI ((own_b y (2 : Int32)) = (0 : Int32))))) = (0 : Int32) then (0 : Int32) else ((1 : Int32) <<< ((2 : Int32) &&& 31)))) ||| (if (if (own_b y (0 : Int32)) = (0 : Int32) then (own_b y (3 : Int32)) else (if (own_b y (1 : Int32)) = (0 : Int32) then (own_b y (3 : Int32)) else (if (own_b y (2 : Int32)) = (0 : Int32) then (own_b y (3 : Int32)) else (bI ((own_b y (3 : Int32)) = (0 : Int32)))))) = (0 : Int32) then (0 : Int32) else ((1 : Int32) <<< ((3 : Int32) &&& 31)))) ||| (if (if (own_b y (0 : Int32)) = (0 : Int32) then (own_b y (4 : Int32)) else (if (own_b y (1 : Int32)) = (0 : Int32) then (own_b y (4 : Int32)) else (if (own_b y (2 : Int32)) = (0 : Int32) then (own_b y (4 : Int32)) else (if (own_b y (3 : Int32)) = (0 : Int32) then (own_b y (4 : Int32)) else (bI ((own_b y (4 : Int32)) = (0 : Int32))))))) = (0 : Int32) then (0 : Int32) else ((1 : Int32) <<< ((4 : Int32) &&& 31)))) ||| (0 : Int32)) ||| (0 : Int32)) = ((y + (1 : Int32)) &&& (31 : Int32))) own_g_5 MM hM.1 hM.2
    obtain ⟨fs, hr, hrun, hended, hW, hsame⟩ := X504.leave (v := some (.int (1 : Int32))) (fun h => by rw [Bd.returns] at h; cases h)
    refine ⟨_, _, pre511 _ ?_, hrun, hended, _, _, rfl, ?_, ⟨_, rfl⟩, hW, hsame.mono (by decide) (by decide)⟩
    · show Steps p.tables e below (T504.setTop (mkF m 164 #[.val (.int p0_0), .val (.int p0_1), .val (.int (5 : Int32)), .val (.int (31 : Int32)), .val (.int MM), .val (.ref b431), .val (.int RR), .val (.int ((MM + (1 : Int32)) &&& (31 : Int32))), .val (.int (((((((if G0 = (0 : Int32) then (0 : Int32) else ((1 : Int32) <<< ((0 : Int32) &&& 31))) ||| (if G1 = (0 : Int32) then (0 : Int32) else ((1 : Int32) <<< ((1 : Int32) &&& 31)))) ||| (if G2 = (0 : Int32) then (0 : Int32) else ((1 : Int32) <<< ((2 : Int32) &&& 31)))) ||| (if G3 = (0 : Int32) then (0 : Int32) else ((1 : Int32) <<< ((3 : Int32) &&& 31)))) ||| (if G4 = (0 : Int32) then (0 : Int32) else ((1 : Int32) <<< ((4 : Int32) &&& 31)))) ||| (0 : Int32)) ||| (0 : Int32)))] [(.int (bI (¬ (MM = (31 : Int32))))), (.int RR)])) _
      refine XS.icmpNo X504.here hx rfl (hb hby at_164) rfl (teq hd514).2 ?_
      show Steps p.tables e below (T504.setTop (mkF m 167 #[.val (.int p0_0), .val (.int p0_1), .val (.int (5 : Int32)), .val (.int (31 : Int32)), .val (.int MM), .val (.ref b431), .val (.int RR), .val (.int ((MM + (1 : Int32)) &&& (31 : Int32))), .val (.int (((((((if G0 = (0 : Int32) then (0 : Int32) else ((1 : Int32) <<< ((0 : Int32) &&& 31))) ||| (if G1 = (0 : Int32) then (0 : Int32) else ((1 : Int32) <<< ((1 : Int32) &&& 31)))) ||| (if G2 = (0 : Int32) then (0 : Int32) else ((1 : Int32) <<< ((2 : Int32) &&& 31)))) ||| (if G3 = (0 : Int32) then (0 : Int32) else ((1 : Int32) <<< ((3 : Int32) &&& 31)))) ||| (if G4 = (0 : Int32) then (0 : Int32) else ((1 : Int32) <<< ((4 : Int32) &&& 31)))) ||| (0 : Int32)) ||| (0 : Int32)))] [])) _
      refine XS.iload X504.here hx rfl (hb hby at_167) rfl ?_
      refine XS.iload X504.here hx rfl (hb hby at_169) rfl ?_
      show Steps p.tables e below (T504.setTop (mkF m 171 #[.val (.int p0_0), .val (.int p0_1), .val (.int (5 : Int32)), .val (.int (31 : Int32)), .val (.int MM), .val (.ref b431), .val (.int RR), .val (.int ((MM + (1 : Int32)) &&& (31 : Int32))), .val (.int (((((((if G0 = (0 : Int32) then (0 : Int32) else ((1 : Int32) <<< ((0 : Int32) &&& 31))) ||| (if G1 = (0 : Int32) then (0 : Int32) else ((1 : Int32) <<< ((1 : Int32) &&& 31)))) ||| (if G2 = (0 : Int32) then (0 : Int32) else ((1 : Int32) <<< ((2 : Int32) &&& 31)))) ||| (if G3 = (0 : Int32) then (0 : Int32) else ((1 : Int32) <<< ((3 : Int32) &&& 31)))) ||| (if G4 = (0 : Int32) then (0 : Int32) else ((1 : Int32) <<< ((4 : Int32) &&& 31)))) ||| (0 : Int32)) ||| (0 : Int32)))] [(.int ((MM + (1 : Int32)) &&& (31 : Int32))), (.int (((((((if G0 = (0 : Int32) then (0 : Int32) else ((1 : Int32) <<< ((0 : Int32) &&& 31))) ||| (if G1 = (0 : Int32) then (0 : Int32) else ((1 : Int32) <<< ((1 : Int32) &&& 31)))) ||| (if G2 = (0 : Int32) then (0 : Int32) else ((1 : Int32) <<< ((2 : Int32) &&& 31)))) ||| (if G3 = (0 : Int32) then (0 : Int32) else ((1 : Int32) <<< ((3 : Int32) &&& 31)))) ||| (if G4 = (0 : Int32) then (0 : Int32) else ((1 : Int32) <<< ((4 : Int32) &&& 31)))) ||| (0 : Int32)) ||| (0 : Int32)))])) _
      refine XS.icmpNo X504.here hx rfl (hb hby at_171) rfl (teq hd515).2 ?_
      show Steps p.tables e below (T504.setTop (mkF m 174 #[.val (.int p0_0), .val (.int p0_1), .val (.int (5 : Int32)), .val (.int (31 : Int32)), .val (.int MM), .val (.ref b431), .val (.int RR), .val (.int ((MM + (1 : Int32)) &&& (31 : Int32))), .val (.int (((((((if G0 = (0 : Int32) then (0 : Int32) else ((1 : Int32) <<< ((0 : Int32) &&& 31))) ||| (if G1 = (0 : Int32) then (0 : Int32) else ((1 : Int32) <<< ((1 : Int32) &&& 31)))) ||| (if G2 = (0 : Int32) then (0 : Int32) else ((1 : Int32) <<< ((2 : Int32) &&& 31)))) ||| (if G3 = (0 : Int32) then (0 : Int32) else ((1 : Int32) <<< ((3 : Int32) &&& 31)))) ||| (if G4 = (0 : Int32) then (0 : Int32) else ((1 : Int32) <<< ((4 : Int32) &&& 31)))) ||| (0 : Int32)) ||| (0 : Int32)))] [])) _
      refine XS.iconst X504.here hx rfl (hb hby at_174) ?_
      refine XS.goto X504.here hx rfl (pc0 := 175) (pc' := 179) rfl (hb hby at_175) (by decide) (by decide) ?_
      show Steps p.tables e below (T504.setTop (mkF m 179 #[.val (.int p0_0), .val (.int p0_1), .val (.int (5 : Int32)), .val (.int (31 : Int32)), .val (.int MM), .val (.ref b431), .val (.int RR), .val (.int ((MM + (1 : Int32)) &&& (31 : Int32))), .val (.int (((((((if G0 = (0 : Int32) then (0 : Int32) else ((1 : Int32) <<< ((0 : Int32) &&& 31))) ||| (if G1 = (0 : Int32) then (0 : Int32) else ((1 : Int32) <<< ((1 : Int32) &&& 31)))) ||| (if G2 = (0 : Int32) then (0 : Int32) else ((1 : Int32) <<< ((2 : Int32) &&& 31)))) ||| (if G3 = (0 : Int32) then (0 : Int32) else ((1 : Int32) <<< ((3 : Int32) &&& 31)))) ||| (if G4 = (0 : Int32) then (0 : Int32) else ((1 : Int32) <<< ((4 : Int32) &&& 31)))) ||| (0 : Int32)) ||| (0 : Int32)))] [(.int (1 : Int32))])) _
      exact retN X504 hx (t := .boolean) Bd.returns (by simp) (hb hby at_179) hr
    · show Q0 Z p0_0 p0_1 h0 n0 _ T504.heap _
      rw [e504]
      exact ⟨rfl, N506⟩
  · have pre516 : ∀ t, Steps p.tables e below (s₁.setTop (mkF m 5 #[.val (.int p0_0), .val (.int p0_1), .val (.int (6 : Int32)), .unset, .unset, .unset, .unset, .unset, .unset] [])) t → Steps p.tables e below (s₁.setTop (entryFrame m #[(.int p0_0), (.int p0_1)] maxLocals)) t := fun t k => pre1 t (castTop (by rw [hk]) k)
    have pre517 : ∀ t, Steps p.tables e below (s₁.setTop (mkF m 11 #[.val (.int p0_0), .val (.int p0_1), .val (.int (6 : Int32)), .val (.int (((1 : Int32) <<< ((6 : Int32) &&& 31)) - (1 : Int32))), .unset, .unset, .unset, .unset, .unset] [])) t → Steps p.tables e below (s₁.setTop (entryFrame m #[(.int p0_0), (.int p0_1)] maxLocals)) t := fun t k => pre516 t (by
      show Steps p.tables e below (s₁.setTop (mkF m 5 #[.val (.int p0_0), .val (.int p0_1), .val (.int (6 : Int32)), .unset, .unset, .unset, .unset, .unset, .unset] [])) _
      refine XS.iconst X0.here hx rfl (hb hby at_5) ?_
      refine XS.iloadN X0.here hx rfl (hb hby at_6) rfl ?_
      show Steps p.tables e below (s₁.setTop (mkF m 7 #[.val (.int p0_0), .val (.int p0_1), .val (.int (6 : Int32)), .unset, .unset, .unset, .unset, .unset, .unset] [(.int (6 : Int32)), (.int (1 : Int32))])) _
      refine XS.ishl X0.here hx rfl (hb hby at_7) rfl ?_
      show Steps p.tables e below (s₁.setTop (mkF m 8 #[.val (.int p0_0), .val (.int p0_1), .val (.int (6 : Int32)), .unset, .unset, .unset, .unset, .unset, .unset] [(.int ((1 : Int32) <<< ((6 : Int32) &&& 31)))])) _
      refine XS.iconst X0.here hx rfl (hb hby at_8) ?_
      refine XS.isub X0.here hx rfl (hb hby at_9) rfl ?_
      show Steps p.tables e below (s₁.setTop (mkF m 10 #[.val (.int p0_0), .val (.int p0_1), .val (.int (6 : Int32)), .unset, .unset, .unset, .unset, .unset, .unset] [(.int (((1 : Int32) <<< ((6 : Int32) &&& 31)) - (1 : Int32)))])) _
      refine XS.istoreN X0.here hx rfl (hb hby at_10) rfl (l' := #[.val (.int p0_0), .val (.int p0_1), .val (.int (6 : Int32)), .val (.int (((1 : Int32) <<< ((6 : Int32) &&& 31)) - (1 : Int32))), .unset, .unset, .unset, .unset, .unset]) rfl ?_
      exact k)
    have hl518 : (((1 : Int32) <<< ((6 : Int32) &&& 31)) - (1 : Int32)) = (63 : Int32) := by
      decide
    have pre519 : ∀ t, Steps p.tables e below (s₁.setTop (mkF m 11 #[.val (.int p0_0), .val (.int p0_1), .val (.int (6 : Int32)), .val (.int (63 : Int32)), .unset, .unset, .unset, .unset, .unset] [])) t → Steps p.tables e below (s₁.setTop (entryFrame m #[(.int p0_0), (.int p0_1)] maxLocals)) t := fun t k => pre517 t (castTop (by rw [hl518]) k)
    have pre520 : ∀ t, Steps p.tables e below (s₁.setTop (mkF m 16 #[.val (.int p0_0), .val (.int p0_1), .val (.int (6 : Int32)), .val (.int (63 : Int32)), .val (.int (p0_1 &&& (63 : Int32))), .unset, .unset, .unset, .unset] [])) t → Steps p.tables e below (s₁.setTop (entryFrame m #[(.int p0_0), (.int p0_1)] maxLocals)) t := fun t k => pre519 t (by
      show Steps p.tables e below (s₁.setTop (mkF m 11 #[.val (.int p0_0), .val (.int p0_1), .val (.int (6 : Int32)), .val (.int (63 : Int32)), .unset, .unset, .unset, .unset, .unset] [])) _
      refine XS.iloadN X0.here hx rfl (hb hby at_11) rfl ?_
      refine XS.iloadN X0.here hx rfl (hb hby at_12) rfl ?_
      refine XS.iand X0.here hx rfl (hb hby at_13) rfl ?_
      show Steps p.tables e below (s₁.setTop (mkF m 14 #[.val (.int p0_0), .val (.int p0_1), .val (.int (6 : Int32)), .val (.int (63 : Int32)), .unset, .unset, .unset, .unset, .unset] [(.int (p0_1 &&& (63 : Int32)))])) _
      refine XS.istore X0.here hx rfl (hb hby at_14) rfl (l' := #[.val (.int p0_0), .val (.int p0_1), .val (.int (6 : Int32)), .val (.int (63 : Int32)), .val (.int (p0_1 &&& (63 : Int32))), .unset, .unset, .unset, .unset]) rfl ?_
      exact k)
    obtain ⟨MM, hMM⟩ : ∃ z : Int32, z = (p0_1 &&& (63 : Int32)) := ⟨_, rfl⟩
    have pre521 : ∀ t, Steps p.tables e below (s₁.setTop (mkF m 16 #[.val (.int p0_0), .val (.int p0_1), .val (.int (6 : Int32)), .val (.int (63 : Int32)), .val (.int MM), .unset, .unset, .unset, .unset] [])) t → Steps p.tables e below (s₁.setTop (entryFrame m #[(.int p0_0), (.int p0_1)] maxLocals)) t := fun t k => pre520 t (castTop (by rw [hMM]) k)
    have hM : 0 ≤ MM.toInt ∧ MM.toInt < (64 : Nat) := by
      rw [hMM]
      have e := c_mask p0_1 (63 : Int32) 6 (by decide) (by decide)
      omega
    obtain ⟨T522, h522, k522, X522, e522, E522, A522, st522⟩ := newP X0 hx hZ (hVV 0 _ rfl) e0 (g := (mkF m 17 #[.val (.int p0_0), .val (.int p0_1), .val (.int (6 : Int32)), .val (.int (63 : Int32)), .val (.int MM), .unset, .unset, .unset, .unset] [(.int (6 : Int32))])) rfl (hb hby at_17) rfl (by decide) (cap := 6) (by decide) (by decide) (by decide) (by decide)
    obtain ⟨b522, g522⟩ : ∃ z, z = h0.size := ⟨_, rfl⟩
    rw [← g522] at A522 st522
    have gz522 : n0 ≤ b522 := Nat.le_trans Z0 (Nat.le_of_eq g522.symm)
    have pre523 : ∀ t, Steps p.tables e below (T522.setTop (mkF m 19 #[.val (.int p0_0), .val (.int p0_1), .val (.int (6 : Int32)), .val (.int (63 : Int32)), .val (.int MM), .unset, .unset, .unset, .unset] [(.ref b522)])) t → Steps p.tables e below (s₁.setTop (entryFrame m #[(.int p0_0), (.int p0_1)] maxLocals)) t := fun t k => pre521 t (by
      show Steps p.tables e below (s₁.setTop (mkF m 16 #[.val (.int p0_0), .val (.int p0_1), .val (.int (6 : Int32)), .val (.int (63 : Int32)), .val (.int MM), .unset, .unset, .unset, .unset] [])) _
      refine XS.iloadN X0.here hx rfl (hb hby at_16) rfl ?_
      show Steps p.tables e below (s₁.setTop (mkF m 17 #[.val (.int p0_0), .val (.int p0_1), .val (.int (6 : Int32)), .val (.int (63 : Int32)), .val (.int MM), .unset, .unset, .unset, .unset] [(.int (6 : Int32))])) _
      refine st522 _ ?_
      exact k)
    have z524 := Nat.le_trans Z0 E522.1
    have V525 : Arv Z h522 b522 k522 .boolean (6 : Int32) [(.int (0 : Int32)), (.int (0 : Int32)), (.int (0 : Int32)), (.int (0 : Int32)), (.int (0 : Int32)), (.int (0 : Int32))] (.int (0 : Int32)) := (Arv.new A522 (by decide)).pad (pad_rep [] (.int (0 : Int32)) 6)
    have hq527 : (0 : Int32) < (6 : Int32) := by
      decide
    obtain ⟨_, _, ⟨T526, L526, k526, n526⟩, -, X526, ⟨Lc526, hQ526, l526, y526, z526⟩, st526⟩ := Jvm.LawKit.callS X522 hx (y := mn0) hown (mvT hZ (hVV 1 _ rfl)) (mvT hZ (hVV 2 _ rfl)) (mvT hZ (hVV 3 _ rfl)) (mvT hZ (hVV 4 _ rfl)) (by decide) (backOf (W := 0) (rm1_i l Z a0 hw [] b522 (0 : Int32) MM k522 (6 : Int32) ([(.int (0 : Int32)), (.int (0 : Int32)), (.int (0 : Int32)), (.int (0 : Int32)), (.int (0 : Int32)), (.int (0 : Int32))]) h522 n0 z524 V525 (by decide) (Nat.le_of_ble_eq_true rfl) hq527 gz522) hZ (hVV 4 _ rfl) (hVV 3 _ rfl) (by decide) (by decide)) (g := (mkF m 26 #[.val (.int p0_0), .val (.int p0_1), .val (.int (6 : Int32)), .val (.int (63 : Int32)), .val (.int MM), .val (.ref b522), .unset, .unset, .unset] [(.int MM), (.int (0 : Int32)), (.ref b522)])) rfl (by rw [hml]; rfl) (argsL := [(.ref b522), (.int (0 : Int32)), (.int MM)]) (rest := []) (lenOf pd_0 rfl) rfl (by show 2 * 0 + _ ≤ _; exact Nat.le_of_eq rfl) (hb hby at_26) (fun _ _ => ⟨rfl, e522, (by decide : 1 + 0 ≤ _), (by decide : 6 + 0 ≤ _)⟩)
    dsimp only [Pt.U, Pt.locs, Pt.cells, Pt.slots] at X526 l526 y526 z526 st526 hQ526
    subst l526 y526 z526
    obtain ⟨rfl, N526q, K526, r526_0⟩ := hQ526
    have N528 := Fr.app N0 N526q
    have pre529 : ∀ t, Steps p.tables e below (T526.setTop (mkF m 29 #[.val (.int p0_0), .val (.int p0_1), .val (.int (6 : Int32)), .val (.int (63 : Int32)), .val (.int MM), .val (.ref b522), .unset, .unset, .unset] [])) t → Steps p.tables e below (s₁.setTop (entryFrame m #[(.int p0_0), (.int p0_1)] maxLocals)) t := fun t k => pre523 t (by
      show Steps p.tables e below (T522.setTop (mkF m 19 #[.val (.int p0_0), .val (.int p0_1), .val (.int (6 : Int32)), .val (.int (63 : Int32)), .val (.int MM), .unset, .unset, .unset, .unset] [(.ref b522)])) _
      refine XS.astore X522.here hx rfl (hb hby at_19) rfl rfl (l' := #[.val (.int p0_0), .val (.int p0_1), .val (.int (6 : Int32)), .val (.int (63 : Int32)), .val (.int MM), .val (.ref b522), .unset, .unset, .unset]) rfl ?_
      show Steps p.tables e below (T522.setTop (mkF m 21 #[.val (.int p0_0), .val (.int p0_1), .val (.int (6 : Int32)), .val (.int (63 : Int32)), .val (.int MM), .val (.ref b522), .unset, .unset, .unset] [])) _
      refine XS.aload X522.here hx rfl (hb hby at_21) rfl rfl ?_
      refine XS.iconst X522.here hx rfl (hb hby at_23) ?_
      refine XS.iload X522.here hx rfl (hb hby at_24) rfl ?_
      show Steps p.tables e below (T522.setTop (mkF m 26 #[.val (.int p0_0), .val (.int p0_1), .val (.int (6 : Int32)), .val (.int (63 : Int32)), .val (.int MM), .val (.ref b522), .unset, .unset, .unset] [(.int MM), (.int (0 : Int32)), (.ref b522)])) _
      refine st526 _ ?_
      exact k)
    have z530 := Nat.le_trans z524 K526.1
    have V531 : Arv Z T526.heap b522 k522 .boolean (6 : Int32) [(.int (own_b MM (0 : Int32))), (.int (0 : Int32)), (.int (0 : Int32)), (.int (0 : Int32)), (.int (0 : Int32)), (.int (0 : Int32))] (.int (0 : Int32)) := r526_0
    have hq533 : (1 : Int32) < (6 : Int32) := by
      decide
    obtain ⟨_, _, ⟨T532, L532, k532, n532⟩, -, X532, ⟨Lc532, hQ532, l532, y532, z532⟩, st532⟩ := Jvm.LawKit.callS X526 hx (y := mn0) hown (mvT hZ (hVV 1 _ rfl)) (mvT hZ (hVV 2 _ rfl)) (mvT hZ (hVV 3 _ rfl)) (mvT hZ (hVV 4 _ rfl)) (by decide) (backOf (W := 0) (rm1_i l Z a0 hw [] b522 (1 : Int32) MM k522 (6 : Int32) ([(.int (own_b MM (0 : Int32))), (.int (0 : Int32)), (.int (0 : Int32)), (.int (0 : Int32)), (.int (0 : Int32)), (.int (0 : Int32))]) T526.heap n0 z530 V531 (by decide) (Nat.le_of_ble_eq_true rfl) hq533 gz522) hZ (hVV 4 _ rfl) (hVV 3 _ rfl) (by decide) (by decide)) (g := (mkF m 34 #[.val (.int p0_0), .val (.int p0_1), .val (.int (6 : Int32)), .val (.int (63 : Int32)), .val (.int MM), .val (.ref b522), .unset, .unset, .unset] [(.int MM), (.int (1 : Int32)), (.ref b522)])) rfl (by rw [hml]; rfl) (argsL := [(.ref b522), (.int (1 : Int32)), (.int MM)]) (rest := []) (lenOf pd_0 rfl) rfl (by show 2 * 0 + _ ≤ _; exact Nat.le_of_eq rfl) (hb hby at_34) (fun _ _ => ⟨rfl, rfl, (by decide : 1 + 0 ≤ _), (by decide : 6 + 0 ≤ _)⟩)
    dsimp only [Pt.U, Pt.locs, Pt.cells, Pt.slots] at X532 l532 y532 z532 st532 hQ532
    subst l532 y532 z532
    obtain ⟨rfl, N532q, K532, r532_0⟩ := hQ532
    have N534 := Fr.app N528 N532q
    have pre535 : ∀ t, Steps p.tables e below (T532.setTop (mkF m 37 #[.val (.int p0_0), .val (.int p0_1), .val (.int (6 : Int32)), .val (.int (63 : Int32)), .val (.int MM), .val (.ref b522), .unset, .unset, .unset] [])) t → Steps p.tables e below (s₁.setTop (entryFrame m #[(.int p0_0), (.int p0_1)] maxLocals)) t := fun t k => pre529 t (by
      show Steps p.tables e below (T526.setTop (mkF m 29 #[.val (.int p0_0), .val (.int p0_1), .val (.int (6 : Int32)), .val (.int (63 : Int32)), .val (.int MM), .val (.ref b522), .unset, .unset, .unset] [])) _
      refine XS.aload X526.here hx rfl (hb hby at_29) rfl rfl ?_
      refine XS.iconst X526.here hx rfl (hb hby at_31) ?_
      refine XS.iload X526.here hx rfl (hb hby at_32) rfl ?_
      show Steps p.tables e below (T526.setTop (mkF m 34 #[.val (.int p0_0), .val (.int p0_1), .val (.int (6 : Int32)), .val (.int (63 : Int32)), .val (.int MM), .val (.ref b522), .unset, .unset, .unset] [(.int MM), (.int (1 : Int32)), (.ref b522)])) _
      refine st532 _ ?_
      exact k)
    have z536 := Nat.le_trans z530 K532.1
    have V537 : Arv Z T532.heap b522 k522 .boolean (6 : Int32) [(.int (own_b MM (0 : Int32))), (.int (own_b MM (1 : Int32))), (.int (0 : Int32)), (.int (0 : Int32)), (.int (0 : Int32)), (.int (0 : Int32))] (.int (0 : Int32)) := r532_0
    have hq539 : (2 : Int32) < (6 : Int32) := by
      decide
    obtain ⟨_, _, ⟨T538, L538, k538, n538⟩, -, X538, ⟨Lc538, hQ538, l538, y538, z538⟩, st538⟩ := Jvm.LawKit.callS X532 hx (y := mn0) hown (mvT hZ (hVV 1 _ rfl)) (mvT hZ (hVV 2 _ rfl)) (mvT hZ (hVV 3 _ rfl)) (mvT hZ (hVV 4 _ rfl)) (by decide) (backOf (W := 0) (rm1_i l Z a0 hw [] b522 (2 : Int32) MM k522 (6 : Int32) ([(.int (own_b MM (0 : Int32))), (.int (own_b MM (1 : Int32))), (.int (0 : Int32)), (.int (0 : Int32)), (.int (0 : Int32)), (.int (0 : Int32))]) T532.heap n0 z536 V537 (by decide) (Nat.le_of_ble_eq_true rfl) hq539 gz522) hZ (hVV 4 _ rfl) (hVV 3 _ rfl) (by decide) (by decide)) (g := (mkF m 42 #[.val (.int p0_0), .val (.int p0_1), .val (.int (6 : Int32)), .val (.int (63 : Int32)), .val (.int MM), .val (.ref b522), .unset, .unset, .unset] [(.int MM), (.int (2 : Int32)), (.ref b522)])) rfl (by rw [hml]; rfl) (argsL := [(.ref b522), (.int (2 : Int32)), (.int MM)]) (rest := []) (lenOf pd_0 rfl) rfl (by show 2 * 0 + _ ≤ _; exact Nat.le_of_eq rfl) (hb hby at_42) (fun _ _ => ⟨rfl, rfl, (by decide : 1 + 0 ≤ _), (by decide : 6 + 0 ≤ _)⟩)
    dsimp only [Pt.U, Pt.locs, Pt.cells, Pt.slots] at X538 l538 y538 z538 st538 hQ538
    subst l538 y538 z538
    obtain ⟨rfl, N538q, K538, r538_0⟩ := hQ538
    have N540 := Fr.app N534 N538q
    have pre541 : ∀ t, Steps p.tables e below (T538.setTop (mkF m 45 #[.val (.int p0_0), .val (.int p0_1), .val (.int (6 : Int32)), .val (.int (63 : Int32)), .val (.int MM), .val (.ref b522), .unset, .unset, .unset] [])) t → Steps p.tables e below (s₁.setTop (entryFrame m #[(.int p0_0), (.int p0_1)] maxLocals)) t := fun t k => pre535 t (by
      show Steps p.tables e below (T532.setTop (mkF m 37 #[.val (.int p0_0), .val (.int p0_1), .val (.int (6 : Int32)), .val (.int (63 : Int32)), .val (.int MM), .val (.ref b522), .unset, .unset, .unset] [])) _
      refine XS.aload X532.here hx rfl (hb hby at_37) rfl rfl ?_
      refine XS.iconst X532.here hx rfl (hb hby at_39) ?_
      refine XS.iload X532.here hx rfl (hb hby at_40) rfl ?_
      show Steps p.tables e below (T532.setTop (mkF m 42 #[.val (.int p0_0), .val (.int p0_1), .val (.int (6 : Int32)), .val (.int (63 : Int32)), .val (.int MM), .val (.ref b522), .unset, .unset, .unset] [(.int MM), (.int (2 : Int32)), (.ref b522)])) _
      refine st538 _ ?_
      exact k)
    have z542 := Nat.le_trans z536 K538.1
    have V543 : Arv Z T538.heap b522 k522 .boolean (6 : Int32) [(.int (own_b MM (0 : Int32))), (.int (own_b MM (1 : Int32))), (.int (own_b MM (2 : Int32))), (.int (0 : Int32)), (.int (0 : Int32)), (.int (0 : Int32))] (.int (0 : Int32)) := r538_0
    have hq545 : (3 : Int32) < (6 : Int32) := by
      decide
    obtain ⟨_, _, ⟨T544, L544, k544, n544⟩, -, X544, ⟨Lc544, hQ544, l544, y544, z544⟩, st544⟩ := Jvm.LawKit.callS X538 hx (y := mn0) hown (mvT hZ (hVV 1 _ rfl)) (mvT hZ (hVV 2 _ rfl)) (mvT hZ (hVV 3 _ rfl)) (mvT hZ (hVV 4 _ rfl)) (by decide) (backOf (W := 0) (rm1_i l Z a0 hw [] b522 (3 : Int32) MM k522 (6 : Int32) ([(.int (own_b MM (0 : Int32))), (.int (own_b MM (1 : Int32))), (.int (own_b MM (2 : Int32))), (.int (0 : Int32)), (.int (0 : Int32)), (.int (0 : Int32))]) T538.heap n0 z542 V543 (by decide) (Nat.le_of_ble_eq_true rfl) hq545 gz522) hZ (hVV 4 _ rfl) (hVV 3 _ rfl) (by decide) (by decide)) (g := (mkF m 50 #[.val (.int p0_0), .val (.int p0_1), .val (.int (6 : Int32)), .val (.int (63 : Int32)), .val (.int MM), .val (.ref b522), .unset, .unset, .unset] [(.int MM), (.int (3 : Int32)), (.ref b522)])) rfl (by rw [hml]; rfl) (argsL := [(.ref b522), (.int (3 : Int32)), (.int MM)]) (rest := []) (lenOf pd_0 rfl) rfl (by show 2 * 0 + _ ≤ _; exact Nat.le_of_eq rfl) (hb hby at_50) (fun _ _ => ⟨rfl, rfl, (by decide : 1 + 0 ≤ _), (by decide : 6 + 0 ≤ _)⟩)
    dsimp only [Pt.U, Pt.locs, Pt.cells, Pt.slots] at X544 l544 y544 z544 st544 hQ544
    subst l544 y544 z544
    obtain ⟨rfl, N544q, K544, r544_0⟩ := hQ544
    have N546 := Fr.app N540 N544q
    have pre547 : ∀ t, Steps p.tables e below (T544.setTop (mkF m 53 #[.val (.int p0_0), .val (.int p0_1), .val (.int (6 : Int32)), .val (.int (63 : Int32)), .val (.int MM), .val (.ref b522), .unset, .unset, .unset] [])) t → Steps p.tables e below (s₁.setTop (entryFrame m #[(.int p0_0), (.int p0_1)] maxLocals)) t := fun t k => pre541 t (by
      show Steps p.tables e below (T538.setTop (mkF m 45 #[.val (.int p0_0), .val (.int p0_1), .val (.int (6 : Int32)), .val (.int (63 : Int32)), .val (.int MM), .val (.ref b522), .unset, .unset, .unset] [])) _
      refine XS.aload X538.here hx rfl (hb hby at_45) rfl rfl ?_
      refine XS.iconst X538.here hx rfl (hb hby at_47) ?_
      refine XS.iload X538.here hx rfl (hb hby at_48) rfl ?_
      show Steps p.tables e below (T538.setTop (mkF m 50 #[.val (.int p0_0), .val (.int p0_1), .val (.int (6 : Int32)), .val (.int (63 : Int32)), .val (.int MM), .val (.ref b522), .unset, .unset, .unset] [(.int MM), (.int (3 : Int32)), (.ref b522)])) _
      refine st544 _ ?_
      exact k)
    have z548 := Nat.le_trans z542 K544.1
    have V549 : Arv Z T544.heap b522 k522 .boolean (6 : Int32) [(.int (own_b MM (0 : Int32))), (.int (own_b MM (1 : Int32))), (.int (own_b MM (2 : Int32))), (.int (own_b MM (3 : Int32))), (.int (0 : Int32)), (.int (0 : Int32))] (.int (0 : Int32)) := r544_0
    have hq551 : (4 : Int32) < (6 : Int32) := by
      decide
    obtain ⟨_, _, ⟨T550, L550, k550, n550⟩, -, X550, ⟨Lc550, hQ550, l550, y550, z550⟩, st550⟩ := Jvm.LawKit.callS X544 hx (y := mn0) hown (mvT hZ (hVV 1 _ rfl)) (mvT hZ (hVV 2 _ rfl)) (mvT hZ (hVV 3 _ rfl)) (mvT hZ (hVV 4 _ rfl)) (by decide) (backOf (W := 0) (rm1_i l Z a0 hw [] b522 (4 : Int32) MM k522 (6 : Int32) ([(.int (own_b MM (0 : Int32))), (.int (own_b MM (1 : Int32))), (.int (own_b MM (2 : Int32))), (.int (own_b MM (3 : Int32))), (.int (0 : Int32)), (.int (0 : Int32))]) T544.heap n0 z548 V549 (by decide) (Nat.le_of_ble_eq_true rfl) hq551 gz522) hZ (hVV 4 _ rfl) (hVV 3 _ rfl) (by decide) (by decide)) (g := (mkF m 58 #[.val (.int p0_0), .val (.int p0_1), .val (.int (6 : Int32)), .val (.int (63 : Int32)), .val (.int MM), .val (.ref b522), .unset, .unset, .unset] [(.int MM), (.int (4 : Int32)), (.ref b522)])) rfl (by rw [hml]; rfl) (argsL := [(.ref b522), (.int (4 : Int32)), (.int MM)]) (rest := []) (lenOf pd_0 rfl) rfl (by show 2 * 0 + _ ≤ _; exact Nat.le_of_eq rfl) (hb hby at_58) (fun _ _ => ⟨rfl, rfl, (by decide : 1 + 0 ≤ _), (by decide : 6 + 0 ≤ _)⟩)
    dsimp only [Pt.U, Pt.locs, Pt.cells, Pt.slots] at X550 l550 y550 z550 st550 hQ550
    subst l550 y550 z550
    obtain ⟨rfl, N550q, K550, r550_0⟩ := hQ550
    have N552 := Fr.app N546 N550q
    have pre553 : ∀ t, Steps p.tables e below (T550.setTop (mkF m 61 #[.val (.int p0_0), .val (.int p0_1), .val (.int (6 : Int32)), .val (.int (63 : Int32)), .val (.int MM), .val (.ref b522), .unset, .unset, .unset] [])) t → Steps p.tables e below (s₁.setTop (entryFrame m #[(.int p0_0), (.int p0_1)] maxLocals)) t := fun t k => pre547 t (by
      show Steps p.tables e below (T544.setTop (mkF m 53 #[.val (.int p0_0), .val (.int p0_1), .val (.int (6 : Int32)), .val (.int (63 : Int32)), .val (.int MM), .val (.ref b522), .unset, .unset, .unset] [])) _
      refine XS.aload X544.here hx rfl (hb hby at_53) rfl rfl ?_
      refine XS.iconst X544.here hx rfl (hb hby at_55) ?_
      refine XS.iload X544.here hx rfl (hb hby at_56) rfl ?_
      show Steps p.tables e below (T544.setTop (mkF m 58 #[.val (.int p0_0), .val (.int p0_1), .val (.int (6 : Int32)), .val (.int (63 : Int32)), .val (.int MM), .val (.ref b522), .unset, .unset, .unset] [(.int MM), (.int (4 : Int32)), (.ref b522)])) _
      refine st550 _ ?_
      exact k)
    have z554 := Nat.le_trans z548 K550.1
    have V555 : Arv Z T550.heap b522 k522 .boolean (6 : Int32) [(.int (own_b MM (0 : Int32))), (.int (own_b MM (1 : Int32))), (.int (own_b MM (2 : Int32))), (.int (own_b MM (3 : Int32))), (.int (own_b MM (4 : Int32))), (.int (0 : Int32))] (.int (0 : Int32)) := r550_0
    have hq557 : (5 : Int32) < (6 : Int32) := by
      decide
    obtain ⟨_, _, ⟨T556, L556, k556, n556⟩, -, X556, ⟨Lc556, hQ556, l556, y556, z556⟩, st556⟩ := Jvm.LawKit.callS X550 hx (y := mn0) hown (mvT hZ (hVV 1 _ rfl)) (mvT hZ (hVV 2 _ rfl)) (mvT hZ (hVV 3 _ rfl)) (mvT hZ (hVV 4 _ rfl)) (by decide) (backOf (W := 0) (rm1_i l Z a0 hw [] b522 (5 : Int32) MM k522 (6 : Int32) ([(.int (own_b MM (0 : Int32))), (.int (own_b MM (1 : Int32))), (.int (own_b MM (2 : Int32))), (.int (own_b MM (3 : Int32))), (.int (own_b MM (4 : Int32))), (.int (0 : Int32))]) T550.heap n0 z554 V555 (by decide) (Nat.le_of_ble_eq_true rfl) hq557 gz522) hZ (hVV 4 _ rfl) (hVV 3 _ rfl) (by decide) (by decide)) (g := (mkF m 66 #[.val (.int p0_0), .val (.int p0_1), .val (.int (6 : Int32)), .val (.int (63 : Int32)), .val (.int MM), .val (.ref b522), .unset, .unset, .unset] [(.int MM), (.int (5 : Int32)), (.ref b522)])) rfl (by rw [hml]; rfl) (argsL := [(.ref b522), (.int (5 : Int32)), (.int MM)]) (rest := []) (lenOf pd_0 rfl) rfl (by show 2 * 0 + _ ≤ _; exact Nat.le_of_eq rfl) (hb hby at_66) (fun _ _ => ⟨rfl, rfl, (by decide : 1 + 0 ≤ _), (by decide : 6 + 0 ≤ _)⟩)
    dsimp only [Pt.U, Pt.locs, Pt.cells, Pt.slots] at X556 l556 y556 z556 st556 hQ556
    subst l556 y556 z556
    obtain ⟨rfl, N556q, K556, r556_0⟩ := hQ556
    have N558 := Fr.app N552 N556q
    have pre559 : ∀ t, Steps p.tables e below (T556.setTop (mkF m 69 #[.val (.int p0_0), .val (.int p0_1), .val (.int (6 : Int32)), .val (.int (63 : Int32)), .val (.int MM), .val (.ref b522), .unset, .unset, .unset] [])) t → Steps p.tables e below (s₁.setTop (entryFrame m #[(.int p0_0), (.int p0_1)] maxLocals)) t := fun t k => pre553 t (by
      show Steps p.tables e below (T550.setTop (mkF m 61 #[.val (.int p0_0), .val (.int p0_1), .val (.int (6 : Int32)), .val (.int (63 : Int32)), .val (.int MM), .val (.ref b522), .unset, .unset, .unset] [])) _
      refine XS.aload X550.here hx rfl (hb hby at_61) rfl rfl ?_
      refine XS.iconst X550.here hx rfl (hb hby at_63) ?_
      refine XS.iload X550.here hx rfl (hb hby at_64) rfl ?_
      show Steps p.tables e below (T550.setTop (mkF m 66 #[.val (.int p0_0), .val (.int p0_1), .val (.int (6 : Int32)), .val (.int (63 : Int32)), .val (.int MM), .val (.ref b522), .unset, .unset, .unset] [(.int MM), (.int (5 : Int32)), (.ref b522)])) _
      refine st556 _ ?_
      exact k)
    have z560 := Nat.le_trans z554 K556.1
    have V561 : Arv Z T556.heap b522 k522 .boolean (6 : Int32) [(.int (own_b MM (0 : Int32))), (.int (own_b MM (1 : Int32))), (.int (own_b MM (2 : Int32))), (.int (own_b MM (3 : Int32))), (.int (own_b MM (4 : Int32))), (.int (own_b MM (5 : Int32)))] (.int (0 : Int32)) := r556_0
    have hq563 : ¬ ((6 : Int32) < (6 : Int32)) := by
      decide
    obtain ⟨_, _, ⟨T562, L562, k562, n562⟩, -, X562, ⟨Lc562, hQ562, l562, y562, z562⟩, st562⟩ := Jvm.LawKit.callS X556 hx (y := mn0) hown (mvT hZ (hVV 1 _ rfl)) (mvT hZ (hVV 2 _ rfl)) (mvT hZ (hVV 3 _ rfl)) (mvT hZ (hVV 4 _ rfl)) (by decide) (backOf (W := 0) (rm1_o l Z a0 hw [] b522 (6 : Int32) MM k522 (6 : Int32) ([(.int (own_b MM (0 : Int32))), (.int (own_b MM (1 : Int32))), (.int (own_b MM (2 : Int32))), (.int (own_b MM (3 : Int32))), (.int (own_b MM (4 : Int32))), (.int (own_b MM (5 : Int32)))]) T556.heap n0 z560 V561 hq563) hZ (hVV 4 _ rfl) (hVV 3 _ rfl) (by decide) (by decide)) (g := (mkF m 75 #[.val (.int p0_0), .val (.int p0_1), .val (.int (6 : Int32)), .val (.int (63 : Int32)), .val (.int MM), .val (.ref b522), .unset, .unset, .unset] [(.int MM), (.int (6 : Int32)), (.ref b522)])) rfl (by rw [hml]; rfl) (argsL := [(.ref b522), (.int (6 : Int32)), (.int MM)]) (rest := []) (lenOf pd_0 rfl) rfl (by show 2 * 0 + _ ≤ _; exact Nat.le_of_eq rfl) (hb hby at_75) (fun _ _ => ⟨rfl, rfl, (by decide : 1 + 0 ≤ _), (by decide : 6 + 0 ≤ _)⟩)
    dsimp only [Pt.U, Pt.locs, Pt.cells, Pt.slots] at X562 l562 y562 z562 st562 hQ562
    subst l562 y562 z562
    obtain ⟨rfl, N562q, e562⟩ := hQ562
    have N564 := Fr.app N558 N562q
    have pre565 : ∀ t, Steps p.tables e below (T562.setTop (mkF m 78 #[.val (.int p0_0), .val (.int p0_1), .val (.int (6 : Int32)), .val (.int (63 : Int32)), .val (.int MM), .val (.ref b522), .unset, .unset, .unset] [])) t → Steps p.tables e below (s₁.setTop (entryFrame m #[(.int p0_0), (.int p0_1)] maxLocals)) t := fun t k => pre559 t (by
      show Steps p.tables e below (T556.setTop (mkF m 69 #[.val (.int p0_0), .val (.int p0_1), .val (.int (6 : Int32)), .val (.int (63 : Int32)), .val (.int MM), .val (.ref b522), .unset, .unset, .unset] [])) _
      refine XS.aload X556.here hx rfl (hb hby at_69) rfl rfl ?_
      refine XS.bipush X556.here hx rfl (hb hby at_71) ?_
      refine XS.iload X556.here hx rfl (hb hby at_73) rfl ?_
      show Steps p.tables e below (T556.setTop (mkF m 75 #[.val (.int p0_0), .val (.int p0_1), .val (.int (6 : Int32)), .val (.int (63 : Int32)), .val (.int MM), .val (.ref b522), .unset, .unset, .unset] [(.int MM), (.int (6 : Int32)), (.ref b522)])) _
      refine st562 _ ?_
      exact k)
    obtain ⟨_, _, ⟨T566, L566, k566, n566⟩, -, X566, ⟨Lc566, hQ566, l566, y566, z566⟩, st566⟩ := Jvm.LawKit.callS X562 hx (y := mn2) hown (mvT hZ (hVV 5 _ rfl)) (mvT hZ (hVV 6 _ rfl)) (mvT hZ (hVV 7 _ rfl)) (mvT hZ (hVV 8 _ rfl)) (by decide) (backOf (W := 0) (rm2_6 l Z a0 hw [] b522 k522 (own_b MM (0 : Int32)) (own_b MM (1 : Int32)) (own_b MM (2 : Int32)) (own_b MM (3 : Int32)) (own_b MM (4 : Int32)) (own_b MM (5 : Int32)) T556.heap n0 z560 V561 gz522) hZ (hVV 8 _ rfl) (hVV 7 _ rfl) (by decide) (by decide)) (g := (mkF m 80 #[.val (.int p0_0), .val (.int p0_1), .val (.int (6 : Int32)), .val (.int (63 : Int32)), .val (.int MM), .val (.ref b522), .unset, .unset, .unset] [(.ref b522)])) rfl (by rw [hml]; rfl) (argsL := [(.ref b522)]) (rest := []) (lenOf pd_1 rfl) rfl (by show 2 * 0 + _ ≤ _; exact Nat.le_of_eq rfl) (hb hby at_80) (fun _ _ => ⟨rfl, e562, (by decide : 1 + 0 ≤ _), (by decide : 6 + 0 ≤ _)⟩)
    dsimp only [Pt.U, Pt.locs, Pt.cells, Pt.slots] at X566 l566 y566 z566 st566 hQ566
    subst l566 y566 z566
    obtain ⟨rfl, N566q, K566, r566_0⟩ := hQ566
    have N567 := Fr.app N564 N566q
    have pre568 : ∀ t, Steps p.tables e below (T566.setTop (mkF m 83 #[.val (.int p0_0), .val (.int p0_1), .val (.int (6 : Int32)), .val (.int (63 : Int32)), .val (.int MM), .val (.ref b522), .unset, .unset, .unset] [(.int (bI (((own_b MM (0 : Int32)) = (0 : Int32)) ∨ (((own_b MM (1 : Int32)) = (0 : Int32)) ∨ (((own_b MM (2 : Int32)) = (0 : Int32)) ∨ (((own_b MM (3 : Int32)) = (0 : Int32)) ∨ (((own_b MM (4 : Int32)) = (0 : Int32)) ∨ ((own_b MM (5 : Int32)) = (0 : Int32)))))))))])) t → Steps p.tables e below (s₁.setTop (entryFrame m #[(.int p0_0), (.int p0_1)] maxLocals)) t := fun t k => pre565 t (by
      show Steps p.tables e below (T562.setTop (mkF m 78 #[.val (.int p0_0), .val (.int p0_1), .val (.int (6 : Int32)), .val (.int (63 : Int32)), .val (.int MM), .val (.ref b522), .unset, .unset, .unset] [])) _
      refine XS.aload X562.here hx rfl (hb hby at_78) rfl rfl ?_
      show Steps p.tables e below (T562.setTop (mkF m 80 #[.val (.int p0_0), .val (.int p0_1), .val (.int (6 : Int32)), .val (.int (63 : Int32)), .val (.int MM), .val (.ref b522), .unset, .unset, .unset] [(.ref b522)])) _
      refine st566 _ ?_
      exact k)
    have z569 := Nat.le_trans z560 K566.1
    have pre570 : ∀ t, Steps p.tables e below (T566.setTop (mkF m 85 #[.val (.int p0_0), .val (.int p0_1), .val (.int (6 : Int32)), .val (.int (63 : Int32)), .val (.int MM), .val (.ref b522), .val (.int (bI (((own_b MM (0 : Int32)) = (0 : Int32)) ∨ (((own_b MM (1 : Int32)) = (0 : Int32)) ∨ (((own_b MM (2 : Int32)) = (0 : Int32)) ∨ (((own_b MM (3 : Int32)) = (0 : Int32)) ∨ (((own_b MM (4 : Int32)) = (0 : Int32)) ∨ ((own_b MM (5 : Int32)) = (0 : Int32))))))))), .unset, .unset] [])) t → Steps p.tables e below (s₁.setTop (entryFrame m #[(.int p0_0), (.int p0_1)] maxLocals)) t := fun t k => pre568 t (by
      show Steps p.tables e below (T566.setTop (mkF m 83 #[.val (.int p0_0), .val (.int p0_1), .val (.int (6 : Int32)), .val (.int (63 : Int32)), .val (.int MM), .val (.ref b522), .unset, .unset, .unset] [(.int (bI (((own_b MM (0 : Int32)) = (0 : Int32)) ∨ (((own_b MM (1 : Int32)) = (0 : Int32)) ∨ (((own_b MM (2 : Int32)) = (0 : Int32)) ∨ (((own_b MM (3 : Int32)) = (0 : Int32)) ∨ (((own_b MM (4 : Int32)) = (0 : Int32)) ∨ ((own_b MM (5 : Int32)) = (0 : Int32)))))))))])) _
      refine XS.istore X566.here hx rfl (hb hby at_83) rfl (l' := #[.val (.int p0_0), .val (.int p0_1), .val (.int (6 : Int32)), .val (.int (63 : Int32)), .val (.int MM), .val (.ref b522), .val (.int (bI (((own_b MM (0 : Int32)) = (0 : Int32)) ∨ (((own_b MM (1 : Int32)) = (0 : Int32)) ∨ (((own_b MM (2 : Int32)) = (0 : Int32)) ∨ (((own_b MM (3 : Int32)) = (0 : Int32)) ∨ (((own_b MM (4 : Int32)) = (0 : Int32)) ∨ ((own_b MM (5 : Int32)) = (0 : Int32))))))))), .unset, .unset]) rfl ?_
      exact k)
    obtain ⟨RR, hRR⟩ : ∃ z : Int32, z = (bI (((own_b MM (0 : Int32)) = (0 : Int32)) ∨ (((own_b MM (1 : Int32)) = (0 : Int32)) ∨ (((own_b MM (2 : Int32)) = (0 : Int32)) ∨ (((own_b MM (3 : Int32)) = (0 : Int32)) ∨ (((own_b MM (4 : Int32)) = (0 : Int32)) ∨ ((own_b MM (5 : Int32)) = (0 : Int32)))))))) := ⟨_, rfl⟩
    have pre571 : ∀ t, Steps p.tables e below (T566.setTop (mkF m 85 #[.val (.int p0_0), .val (.int p0_1), .val (.int (6 : Int32)), .val (.int (63 : Int32)), .val (.int MM), .val (.ref b522), .val (.int RR), .unset, .unset] [])) t → Steps p.tables e below (s₁.setTop (entryFrame m #[(.int p0_0), (.int p0_1)] maxLocals)) t := fun t k => pre570 t (castTop (by rw [hRR]) k)
    obtain ⟨G0, hG0⟩ : ∃ z : Int32, z = (bI ((own_b MM (0 : Int32)) = (0 : Int32))) := ⟨_, rfl⟩
    obtain ⟨G1, hG1⟩ : ∃ z : Int32, z = (if (own_b MM (0 : Int32)) = (0 : Int32) then (own_b MM (1 : Int32)) else (bI ((own_b MM (1 : Int32)) = (0 : Int32)))) := ⟨_, rfl⟩
    obtain ⟨G2, hG2⟩ : ∃ z : Int32, z = (if (own_b MM (0 : Int32)) = (0 : Int32) then (own_b MM (2 : Int32)) else (if (own_b MM (1 : Int32)) = (0 : Int32) then (own_b MM (2 : Int32)) else (bI ((own_b MM (2 : Int32)) = (0 : Int32))))) := ⟨_, rfl⟩
    obtain ⟨G3, hG3⟩ : ∃ z : Int32, z = (if (own_b MM (0 : Int32)) = (0 : Int32) then (own_b MM (3 : Int32)) else (if (own_b MM (1 : Int32)) = (0 : Int32) then (own_b MM (3 : Int32)) else (if (own_b MM (2 : Int32)) = (0 : Int32) then (own_b MM (3 : Int32)) else (bI ((own_b MM (3 : Int32)) = (0 : Int32)))))) := ⟨_, rfl⟩
    obtain ⟨G4, hG4⟩ : ∃ z : Int32, z = (if (own_b MM (0 : Int32)) = (0 : Int32) then (own_b MM (4 : Int32)) else (if (own_b MM (1 : Int32)) = (0 : Int32) then (own_b MM (4 : Int32)) else (if (own_b MM (2 : Int32)) = (0 : Int32) then (own_b MM (4 : Int32)) else (if (own_b MM (3 : Int32)) = (0 : Int32) then (own_b MM (4 : Int32)) else (bI ((own_b MM (4 : Int32)) = (0 : Int32))))))) := ⟨_, rfl⟩
    obtain ⟨G5, hG5⟩ : ∃ z : Int32, z = (if (own_b MM (0 : Int32)) = (0 : Int32) then (own_b MM (5 : Int32)) else (if (own_b MM (1 : Int32)) = (0 : Int32) then (own_b MM (5 : Int32)) else (if (own_b MM (2 : Int32)) = (0 : Int32) then (own_b MM (5 : Int32)) else (if (own_b MM (3 : Int32)) = (0 : Int32) then (own_b MM (5 : Int32)) else (if (own_b MM (4 : Int32)) = (0 : Int32) then (own_b MM (5 : Int32)) else (bI ((own_b MM (5 : Int32)) = (0 : Int32)))))))) := ⟨_, rfl⟩
    have V572 : Arv Z T566.heap b522 k522 .boolean (6 : Int32) [(.int G0), (.int G1), (.int G2), (.int G3), (.int G4), (.int G5)] (.int (0 : Int32)) := by rw [hG0, hG1, hG2, hG3, hG4, hG5]; exact r566_0
    have hq574 : (0 : Int32) < (6 : Int32) := by
      decide
    obtain ⟨_, _, ⟨T573, L573, k573, n573⟩, -, X573, ⟨Lc573, hQ573, l573, y573, z573⟩, st573⟩ := Jvm.LawKit.callS X566 hx (y := mn1) hown (mvT hZ (hVV 9 _ rfl)) (mvT hZ (hVV 10 _ rfl)) (mvT hZ (hVV 3 _ rfl)) (mvT hZ (hVV 11 _ rfl)) (by decide) (backOf (W := 0) (rm3_i l Z a0 hw [] b522 (0 : Int32) k522 (6 : Int32) ([(.int G0), (.int G1), (.int G2), (.int G3), (.int G4), (.int G5)]) G0 T566.heap n0 z569 V572 (by decide) (by rfl) hq574) hZ (hVV 11 _ rfl) (hVV 3 _ rfl) (by decide) (by decide)) (g := (mkF m 96 #[.val (.int p0_0), .val (.int p0_1), .val (.int (6 : Int32)), .val (.int (63 : Int32)), .val (.int MM), .val (.ref b522), .val (.int RR), .val (.int ((MM + (1 : Int32)) &&& (63 : Int32))), .unset] [(.int (0 : Int32)), (.ref b522)])) rfl (by rw [hml]; rfl) (argsL := [(.ref b522), (.int (0 : Int32))]) (rest := []) (lenOf pd_2 rfl) rfl (by show 2 * 0 + _ ≤ _; exact Nat.le_of_eq rfl) (hb hby at_96) (fun _ _ => ⟨rfl, rfl, (by decide : 1 + 0 ≤ _), (by decide : 6 + 0 ≤ _)⟩)
    dsimp only [Pt.U, Pt.locs, Pt.cells, Pt.slots] at X573 l573 y573 z573 st573 hQ573
    subst l573 y573 z573
    obtain ⟨rfl, N573q, e573⟩ := hQ573
    have N575 := Fr.app N567 N573q
    have pre576 : ∀ t, Steps p.tables e below (T573.setTop (mkF m 99 #[.val (.int p0_0), .val (.int p0_1), .val (.int (6 : Int32)), .val (.int (63 : Int32)), .val (.int MM), .val (.ref b522), .val (.int RR), .val (.int ((MM + (1 : Int32)) &&& (63 : Int32))), .unset] [(.int (if G0 = (0 : Int32) then (0 : Int32) else ((1 : Int32) <<< ((0 : Int32) &&& 31))))])) t → Steps p.tables e below (s₁.setTop (entryFrame m #[(.int p0_0), (.int p0_1)] maxLocals)) t := fun t k => pre571 t (by
      show Steps p.tables e below (T566.setTop (mkF m 85 #[.val (.int p0_0), .val (.int p0_1), .val (.int (6 : Int32)), .val (.int (63 : Int32)), .val (.int MM), .val (.ref b522), .val (.int RR), .unset, .unset] [])) _
      refine XS.iload X566.here hx rfl (hb hby at_85) rfl ?_
      refine XS.iconst X566.here hx rfl (hb hby at_87) ?_
      refine XS.iadd X566.here hx rfl (hb hby at_88) rfl ?_
      refine XS.iloadN X566.here hx rfl (hb hby at_89) rfl ?_
      refine XS.iand X566.here hx rfl (hb hby at_90) rfl ?_
      show Steps p.tables e below (T566.setTop (mkF m 91 #[.val (.int p0_0), .val (.int p0_1), .val (.int (6 : Int32)), .val (.int (63 : Int32)), .val (.int MM), .val (.ref b522), .val (.int RR), .unset, .unset] [(.int ((MM + (1 : Int32)) &&& (63 : Int32)))])) _
      refine XS.istore X566.here hx rfl (hb hby at_91) rfl (l' := #[.val (.int p0_0), .val (.int p0_1), .val (.int (6 : Int32)), .val (.int (63 : Int32)), .val (.int MM), .val (.ref b522), .val (.int RR), .val (.int ((MM + (1 : Int32)) &&& (63 : Int32))), .unset]) rfl ?_
      show Steps p.tables e below (T566.setTop (mkF m 93 #[.val (.int p0_0), .val (.int p0_1), .val (.int (6 : Int32)), .val (.int (63 : Int32)), .val (.int MM), .val (.ref b522), .val (.int RR), .val (.int ((MM + (1 : Int32)) &&& (63 : Int32))), .unset] [])) _
      refine XS.aload X566.here hx rfl (hb hby at_93) rfl rfl ?_
      refine XS.iconst X566.here hx rfl (hb hby at_95) ?_
      show Steps p.tables e below (T566.setTop (mkF m 96 #[.val (.int p0_0), .val (.int p0_1), .val (.int (6 : Int32)), .val (.int (63 : Int32)), .val (.int MM), .val (.ref b522), .val (.int RR), .val (.int ((MM + (1 : Int32)) &&& (63 : Int32))), .unset] [(.int (0 : Int32)), (.ref b522)])) _
      refine st573 _ ?_
      exact k)
    have hq578 : (1 : Int32) < (6 : Int32) := by
      decide
    obtain ⟨_, _, ⟨T577, L577, k577, n577⟩, -, X577, ⟨Lc577, hQ577, l577, y577, z577⟩, st577⟩ := Jvm.LawKit.callS X573 hx (y := mn1) hown (mvT hZ (hVV 9 _ rfl)) (mvT hZ (hVV 10 _ rfl)) (mvT hZ (hVV 3 _ rfl)) (mvT hZ (hVV 11 _ rfl)) (by decide) (backOf (W := 1) (rm3_i l Z a0 hw [] b522 (1 : Int32) k522 (6 : Int32) ([(.int G0), (.int G1), (.int G2), (.int G3), (.int G4), (.int G5)]) G1 T566.heap n0 z569 V572 (by decide) (by rfl) hq578) hZ (hVV 11 _ rfl) (hVV 3 _ rfl) (by decide) (by decide)) (g := (mkF m 102 #[.val (.int p0_0), .val (.int p0_1), .val (.int (6 : Int32)), .val (.int (63 : Int32)), .val (.int MM), .val (.ref b522), .val (.int RR), .val (.int ((MM + (1 : Int32)) &&& (63 : Int32))), .unset] [(.int (1 : Int32)), (.ref b522), (.int (if G0 = (0 : Int32) then (0 : Int32) else ((1 : Int32) <<< ((0 : Int32) &&& 31))))])) rfl (by rw [hml]; rfl) (argsL := [(.ref b522), (.int (1 : Int32))]) (rest := [(.int (if G0 = (0 : Int32) then (0 : Int32) else ((1 : Int32) <<< ((0 : Int32) &&& 31))))]) (lenOf pd_2 rfl) rfl (by show 2 * 0 + _ ≤ _; exact Nat.le_of_eq rfl) (hb hby at_102) (fun _ _ => ⟨rfl, e573, (by decide : 1 + 0 ≤ _), (by decide : 6 + 0 ≤ _)⟩)
    dsimp only [Pt.U, Pt.locs, Pt.cells, Pt.slots] at X577 l577 y577 z577 st577 hQ577
    subst l577 y577 z577
    obtain ⟨rfl, N577q, e577⟩ := hQ577
    have N579 := Fr.app N575 N577q
    have pre580 : ∀ t, Steps p.tables e below (T577.setTop (mkF m 105 #[.val (.int p0_0), .val (.int p0_1), .val (.int (6 : Int32)), .val (.int (63 : Int32)), .val (.int MM), .val (.ref b522), .val (.int RR), .val (.int ((MM + (1 : Int32)) &&& (63 : Int32))), .unset] [(.int (if G1 = (0 : Int32) then (0 : Int32) else ((1 : Int32) <<< ((1 : Int32) &&& 31)))), (.int (if G0 = (0 : Int32) then (0 : Int32) else ((1 : Int32) <<< ((0 : Int32) &&& 31))))])) t → Steps p.tables e below (s₁.setTop (entryFrame m #[(.int p0_0), (.int p0_1)] maxLocals)) t := fun t k => pre576 t (by
      show Steps p.tables e below (T573.setTop (mkF m 99 #[.val (.int p0_0), .val (.int p0_1), .val (.int (6 : Int32)), .val (.int (63 : Int32)), .val (.int MM), .val (.ref b522), .val (.int RR), .val (.int ((MM + (1 : Int32)) &&& (63 : Int32))), .unset] [(.int (if G0 = (0 : Int32) then (0 : Int32) else ((1 : Int32) <<< ((0 : Int32) &&& 31))))])) _
      refine XS.aload X573.here hx rfl (hb hby at_99) rfl rfl ?_
      refine XS.iconst X573.here hx rfl (hb hby at_101) ?_
      show Steps p.tables e below (T573.setTop (mkF m 102 #[.val (.int p0_0), .val (.int p0_1), .val (.int (6 : Int32)), .val (.int (63 : Int32)), .val (.int MM), .val (.ref b522), .val (.int RR), .val (.int ((MM + (1 : Int32)) &&& (63 : Int32))), .unset] [(.int (1 : Int32)), (.ref b522), (.int (if G0 = (0 : Int32) then (0 : Int32) else ((1 : Int32) <<< ((0 : Int32) &&& 31))))])) _
      refine st577 _ ?_
      exact k)
    have hq582 : (2 : Int32) < (6 : Int32) := by
      decide
    obtain ⟨_, _, ⟨T581, L581, k581, n581⟩, -, X581, ⟨Lc581, hQ581, l581, y581, z581⟩, st581⟩ := Jvm.LawKit.callS X577 hx (y := mn1) hown (mvT hZ (hVV 9 _ rfl)) (mvT hZ (hVV 10 _ rfl)) (mvT hZ (hVV 3 _ rfl)) (mvT hZ (hVV 11 _ rfl)) (by decide) (backOf (W := 1) (rm3_i l Z a0 hw [] b522 (2 : Int32) k522 (6 : Int32) ([(.int G0), (.int G1), (.int G2), (.int G3), (.int G4), (.int G5)]) G2 T566.heap n0 z569 V572 (by decide) (by rfl) hq582) hZ (hVV 11 _ rfl) (hVV 3 _ rfl) (by decide) (by decide)) (g := (mkF m 109 #[.val (.int p0_0), .val (.int p0_1), .val (.int (6 : Int32)), .val (.int (63 : Int32)), .val (.int MM), .val (.ref b522), .val (.int RR), .val (.int ((MM + (1 : Int32)) &&& (63 : Int32))), .unset] [(.int (2 : Int32)), (.ref b522), (.int ((if G0 = (0 : Int32) then (0 : Int32) else ((1 : Int32) <<< ((0 : Int32) &&& 31))) ||| (if G1 = (0 : Int32) then (0 : Int32) else ((1 : Int32) <<< ((1 : Int32) &&& 31)))))])) rfl (by rw [hml]; rfl) (argsL := [(.ref b522), (.int (2 : Int32))]) (rest := [(.int ((if G0 = (0 : Int32) then (0 : Int32) else ((1 : Int32) <<< ((0 : Int32) &&& 31))) ||| (if G1 = (0 : Int32) then (0 : Int32) else ((1 : Int32) <<< ((1 : Int32) &&& 31)))))]) (lenOf pd_2 rfl) rfl (by show 2 * 0 + _ ≤ _; exact Nat.le_of_eq rfl) (hb hby at_109) (fun _ _ => ⟨rfl, e577, (by decide : 1 + 0 ≤ _), (by decide : 6 + 0 ≤ _)⟩)
    dsimp only [Pt.U, Pt.locs, Pt.cells, Pt.slots] at X581 l581 y581 z581 st581 hQ581
    subst l581 y581 z581
    obtain ⟨rfl, N581q, e581⟩ := hQ581
    have N583 := Fr.app N579 N581q
    have pre584 : ∀ t, Steps p.tables e below (T581.setTop (mkF m 112 #[.val (.int p0_0), .val (.int p0_1), .val (.int (6 : Int32)), .val (.int (63 : Int32)), .val (.int MM), .val (.ref b522), .val (.int RR), .val (.int ((MM + (1 : Int32)) &&& (63 : Int32))), .unset] [(.int (if G2 = (0 : Int32) then (0 : Int32) else ((1 : Int32) <<< ((2 : Int32) &&& 31)))), (.int ((if G0 = (0 : Int32) then (0 : Int32) else ((1 : Int32) <<< ((0 : Int32) &&& 31))) ||| (if G1 = (0 : Int32) then (0 : Int32) else ((1 : Int32) <<< ((1 : Int32) &&& 31)))))])) t → Steps p.tables e below (s₁.setTop (entryFrame m #[(.int p0_0), (.int p0_1)] maxLocals)) t := fun t k => pre580 t (by
      show Steps p.tables e below (T577.setTop (mkF m 105 #[.val (.int p0_0), .val (.int p0_1), .val (.int (6 : Int32)), .val (.int (63 : Int32)), .val (.int MM), .val (.ref b522), .val (.int RR), .val (.int ((MM + (1 : Int32)) &&& (63 : Int32))), .unset] [(.int (if G1 = (0 : Int32) then (0 : Int32) else ((1 : Int32) <<< ((1 : Int32) &&& 31)))), (.int (if G0 = (0 : Int32) then (0 : Int32) else ((1 : Int32) <<< ((0 : Int32) &&& 31))))])) _
      refine XS.ior X577.here hx rfl (hb hby at_105) rfl ?_
      refine XS.aload X577.here hx rfl (hb hby at_106) rfl rfl ?_
      refine XS.iconst X577.here hx rfl (hb hby at_108) ?_
      show Steps p.tables e below (T577.setTop (mkF m 109 #[.val (.int p0_0), .val (.int p0_1), .val (.int (6 : Int32)), .val (.int (63 : Int32)), .val (.int MM), .val (.ref b522), .val (.int RR), .val (.int ((MM + (1 : Int32)) &&& (63 : Int32))), .unset] [(.int (2 : Int32)), (.ref b522), (.int ((if G0 = (0 : Int32) then (0 : Int32) else ((1 : Int32) <<< ((0 : Int32) &&& 31))) ||| (if G1 = (0 : Int32) then (0 : Int32) else ((1 : Int32) <<< ((1 : Int32) &&& 31)))))])) _
      refine st581 _ ?_
      exact k)
    have hq586 : (3 : Int32) < (6 : Int32) := by
      decide
    obtain ⟨_, _, ⟨T585, L585, k585, n585⟩, -, X585, ⟨Lc585, hQ585, l585, y585, z585⟩, st585⟩ := Jvm.LawKit.callS X581 hx (y := mn1) hown (mvT hZ (hVV 9 _ rfl)) (mvT hZ (hVV 10 _ rfl)) (mvT hZ (hVV 3 _ rfl)) (mvT hZ (hVV 11 _ rfl)) (by decide) (backOf (W := 1) (rm3_i l Z a0 hw [] b522 (3 : Int32) k522 (6 : Int32) ([(.int G0), (.int G1), (.int G2), (.int G3), (.int G4), (.int G5)]) G3 T566.heap n0 z569 V572 (by decide) (by rfl) hq586) hZ (hVV 11 _ rfl) (hVV 3 _ rfl) (by decide) (by decide)) (g := (mkF m 116 #[.val (.int p0_0), .val (.int p0_1), .val (.int (6 : Int32)), .val (.int (63 : Int32)), .val (.int MM), .val (.ref b522), .val (.int RR), .val (.int ((MM + (1 : Int32)) &&& (63 : Int32))), .unset] [(.int (3 : Int32)), (.ref b522), (.int (((if G0 = (0 : Int32) then (0 : Int32) else ((1 : Int32) <<< ((0 : Int32) &&& 31))) ||| (if G1 = (0 : Int32) then (0 : Int32) else ((1 : Int32) <<< ((1 : Int32) &&& 31)))) ||| (if G2 = (0 : Int32) then (0 : Int32) else ((1 : Int32) <<< ((2 : Int32) &&& 31)))))])) rfl (by rw [hml]; rfl) (argsL := [(.ref b522), (.int (3 : Int32))]) (rest := [(.int (((if G0 = (0 : Int32) then (0 : Int32) else ((1 : Int32) <<< ((0 : Int32) &&& 31))) ||| (if G1 = (0 : Int32) then (0 : Int32) else ((1 : Int32) <<< ((1 : Int32) &&& 31)))) ||| (if G2 = (0 : Int32) then (0 : Int32) else ((1 : Int32) <<< ((2 : Int32) &&& 31)))))]) (lenOf pd_2 rfl) rfl (by show 2 * 0 + _ ≤ _; exact Nat.le_of_eq rfl) (hb hby at_116) (fun _ _ => ⟨rfl, e581, (by decide : 1 + 0 ≤ _), (by decide : 6 + 0 ≤ _)⟩)
    dsimp only [Pt.U, Pt.locs, Pt.cells, Pt.slots] at X585 l585 y585 z585 st585 hQ585
    subst l585 y585 z585
    obtain ⟨rfl, N585q, e585⟩ := hQ585
    have N587 := Fr.app N583 N585q
    have pre588 : ∀ t, Steps p.tables e below (T585.setTop (mkF m 119 #[.val (.int p0_0), .val (.int p0_1), .val (.int (6 : Int32)), .val (.int (63 : Int32)), .val (.int MM), .val (.ref b522), .val (.int RR), .val (.int ((MM + (1 : Int32)) &&& (63 : Int32))), .unset] [(.int (if G3 = (0 : Int32) then (0 : Int32) else ((1 : Int32) <<< ((3 : Int32) &&& 31)))), (.int (((if G0 = (0 : Int32) then (0 : Int32) else ((1 : Int32) <<< ((0 : Int32) &&& 31))) ||| (if G1 = (0 : Int32) then (0 : Int32) else ((1 : Int32) <<< ((1 : Int32) &&& 31)))) ||| (if G2 = (0 : Int32) then (0 : Int32) else ((1 : Int32) <<< ((2 : Int32) &&& 31)))))])) t → Steps p.tables e below (s₁.setTop (entryFrame m #[(.int p0_0), (.int p0_1)] maxLocals)) t := fun t k => pre584 t (by
      show Steps p.tables e below (T581.setTop (mkF m 112 #[.val (.int p0_0), .val (.int p0_1), .val (.int (6 : Int32)), .val (.int (63 : Int32)), .val (.int MM), .val (.ref b522), .val (.int RR), .val (.int ((MM + (1 : Int32)) &&& (63 : Int32))), .unset] [(.int (if G2 = (0 : Int32) then (0 : Int32) else ((1 : Int32) <<< ((2 : Int32) &&& 31)))), (.int ((if G0 = (0 : Int32) then (0 : Int32) else ((1 : Int32) <<< ((0 : Int32) &&& 31))) ||| (if G1 = (0 : Int32) then (0 : Int32) else ((1 : Int32) <<< ((1 : Int32) &&& 31)))))])) _
      refine XS.ior X581.here hx rfl (hb hby at_112) rfl ?_
      refine XS.aload X581.here hx rfl (hb hby at_113) rfl rfl ?_
      refine XS.iconst X581.here hx rfl (hb hby at_115) ?_
      show Steps p.tables e below (T581.setTop (mkF m 116 #[.val (.int p0_0), .val (.int p0_1), .val (.int (6 : Int32)), .val (.int (63 : Int32)), .val (.int MM), .val (.ref b522), .val (.int RR), .val (.int ((MM + (1 : Int32)) &&& (63 : Int32))), .unset] [(.int (3 : Int32)), (.ref b522), (.int (((if G0 = (0 : Int32) then (0 : Int32) else ((1 : Int32) <<< ((0 : Int32) &&& 31))) ||| (if G1 = (0 : Int32) then (0 : Int32) else ((1 : Int32) <<< ((1 : Int32) &&& 31)))) ||| (if G2 = (0 : Int32) then (0 : Int32) else ((1 : Int32) <<< ((2 : Int32) &&& 31)))))])) _
      refine st585 _ ?_
      exact k)
    have hq590 : (4 : Int32) < (6 : Int32) := by
      decide
    obtain ⟨_, _, ⟨T589, L589, k589, n589⟩, -, X589, ⟨Lc589, hQ589, l589, y589, z589⟩, st589⟩ := Jvm.LawKit.callS X585 hx (y := mn1) hown (mvT hZ (hVV 9 _ rfl)) (mvT hZ (hVV 10 _ rfl)) (mvT hZ (hVV 3 _ rfl)) (mvT hZ (hVV 11 _ rfl)) (by decide) (backOf (W := 1) (rm3_i l Z a0 hw [] b522 (4 : Int32) k522 (6 : Int32) ([(.int G0), (.int G1), (.int G2), (.int G3), (.int G4), (.int G5)]) G4 T566.heap n0 z569 V572 (by decide) (by rfl) hq590) hZ (hVV 11 _ rfl) (hVV 3 _ rfl) (by decide) (by decide)) (g := (mkF m 123 #[.val (.int p0_0), .val (.int p0_1), .val (.int (6 : Int32)), .val (.int (63 : Int32)), .val (.int MM), .val (.ref b522), .val (.int RR), .val (.int ((MM + (1 : Int32)) &&& (63 : Int32))), .unset] [(.int (4 : Int32)), (.ref b522), (.int ((((if G0 = (0 : Int32) then (0 : Int32) else ((1 : Int32) <<< ((0 : Int32) &&& 31))) ||| (if G1 = (0 : Int32) then (0 : Int32) else ((1 : Int32) <<< ((1 : Int32) &&& 31)))) ||| (if G2 = (0 : Int32) then (0 : Int32) else ((1 : Int32) <<< ((2 : Int32) &&& 31)))) ||| (if G3 = (0 : Int32) then (0 : Int32) else ((1 : Int32) <<< ((3 : Int32) &&& 31)))))])) rfl (by rw [hml]; rfl) (argsL := [(.ref b522), (.int (4 : Int32))]) (rest := [(.int ((((if G0 = (0 : Int32) then (0 : Int32) else ((1 : Int32) <<< ((0 : Int32) &&& 31))) ||| (if G1 = (0 : Int32) then (0 : Int32) else ((1 : Int32) <<< ((1 : Int32) &&& 31)))) ||| (if G2 = (0 : Int32) then (0 : Int32) else ((1 : Int32) <<< ((2 : Int32) &&& 31)))) ||| (if G3 = (0 : Int32) then (0 : Int32) else ((1 : Int32) <<< ((3 : Int32) &&& 31)))))]) (lenOf pd_2 rfl) rfl (by show 2 * 0 + _ ≤ _; exact Nat.le_of_eq rfl) (hb hby at_123) (fun _ _ => ⟨rfl, e585, (by decide : 1 + 0 ≤ _), (by decide : 6 + 0 ≤ _)⟩)
    dsimp only [Pt.U, Pt.locs, Pt.cells, Pt.slots] at X589 l589 y589 z589 st589 hQ589
    subst l589 y589 z589
    obtain ⟨rfl, N589q, e589⟩ := hQ589
    have N591 := Fr.app N587 N589q
    have pre592 : ∀ t, Steps p.tables e below (T589.setTop (mkF m 126 #[.val (.int p0_0), .val (.int p0_1), .val (.int (6 : Int32)), .val (.int (63 : Int32)), .val (.int MM), .val (.ref b522), .val (.int RR), .val (.int ((MM + (1 : Int32)) &&& (63 : Int32))), .unset] [(.int (if G4 = (0 : Int32) then (0 : Int32) else ((1 : Int32) <<< ((4 : Int32) &&& 31)))), (.int ((((if G0 = (0 : Int32) then (0 : Int32) else ((1 : Int32) <<< ((0 : Int32) &&& 31))) ||| (if G1 = (0 : Int32) then (0 : Int32) else ((1 : Int32) <<< ((1 : Int32) &&& 31)))) ||| (if G2 = (0 : Int32) then (0 : Int32) else ((1 : Int32) <<< ((2 : Int32) &&& 31)))) ||| (if G3 = (0 : Int32) then (0 : Int32) else ((1 : Int32) <<< ((3 : Int32) &&& 31)))))])) t → Steps p.tables e below (s₁.setTop (entryFrame m #[(.int p0_0), (.int p0_1)] maxLocals)) t := fun t k => pre588 t (by
      show Steps p.tables e below (T585.setTop (mkF m 119 #[.val (.int p0_0), .val (.int p0_1), .val (.int (6 : Int32)), .val (.int (63 : Int32)), .val (.int MM), .val (.ref b522), .val (.int RR), .val (.int ((MM + (1 : Int32)) &&& (63 : Int32))), .unset] [(.int (if G3 = (0 : Int32) then (0 : Int32) else ((1 : Int32) <<< ((3 : Int32) &&& 31)))), (.int (((if G0 = (0 : Int32) then (0 : Int32) else ((1 : Int32) <<< ((0 : Int32) &&& 31))) ||| (if G1 = (0 : Int32) then (0 : Int32) else ((1 : Int32) <<< ((1 : Int32) &&& 31)))) ||| (if G2 = (0 : Int32) then (0 : Int32) else ((1 : Int32) <<< ((2 : Int32) &&& 31)))))])) _
      refine XS.ior X585.here hx rfl (hb hby at_119) rfl ?_
      refine XS.aload X585.here hx rfl (hb hby at_120) rfl rfl ?_
      refine XS.iconst X585.here hx rfl (hb hby at_122) ?_
      show Steps p.tables e below (T585.setTop (mkF m 123 #[.val (.int p0_0), .val (.int p0_1), .val (.int (6 : Int32)), .val (.int (63 : Int32)), .val (.int MM), .val (.ref b522), .val (.int RR), .val (.int ((MM + (1 : Int32)) &&& (63 : Int32))), .unset] [(.int (4 : Int32)), (.ref b522), (.int ((((if G0 = (0 : Int32) then (0 : Int32) else ((1 : Int32) <<< ((0 : Int32) &&& 31))) ||| (if G1 = (0 : Int32) then (0 : Int32) else ((1 : Int32) <<< ((1 : Int32) &&& 31)))) ||| (if G2 = (0 : Int32) then (0 : Int32) else ((1 : Int32) <<< ((2 : Int32) &&& 31)))) ||| (if G3 = (0 : Int32) then (0 : Int32) else ((1 : Int32) <<< ((3 : Int32) &&& 31)))))])) _
      refine st589 _ ?_
      exact k)
    have hq594 : (5 : Int32) < (6 : Int32) := by
      decide
    obtain ⟨_, _, ⟨T593, L593, k593, n593⟩, -, X593, ⟨Lc593, hQ593, l593, y593, z593⟩, st593⟩ := Jvm.LawKit.callS X589 hx (y := mn1) hown (mvT hZ (hVV 9 _ rfl)) (mvT hZ (hVV 10 _ rfl)) (mvT hZ (hVV 3 _ rfl)) (mvT hZ (hVV 11 _ rfl)) (by decide) (backOf (W := 1) (rm3_i l Z a0 hw [] b522 (5 : Int32) k522 (6 : Int32) ([(.int G0), (.int G1), (.int G2), (.int G3), (.int G4), (.int G5)]) G5 T566.heap n0 z569 V572 (by decide) (by rfl) hq594) hZ (hVV 11 _ rfl) (hVV 3 _ rfl) (by decide) (by decide)) (g := (mkF m 130 #[.val (.int p0_0), .val (.int p0_1), .val (.int (6 : Int32)), .val (.int (63 : Int32)), .val (.int MM), .val (.ref b522), .val (.int RR), .val (.int ((MM + (1 : Int32)) &&& (63 : Int32))), .unset] [(.int (5 : Int32)), (.ref b522), (.int (((((if G0 = (0 : Int32) then (0 : Int32) else ((1 : Int32) <<< ((0 : Int32) &&& 31))) ||| (if G1 = (0 : Int32) then (0 : Int32) else ((1 : Int32) <<< ((1 : Int32) &&& 31)))) ||| (if G2 = (0 : Int32) then (0 : Int32) else ((1 : Int32) <<< ((2 : Int32) &&& 31)))) ||| (if G3 = (0 : Int32) then (0 : Int32) else ((1 : Int32) <<< ((3 : Int32) &&& 31)))) ||| (if G4 = (0 : Int32) then (0 : Int32) else ((1 : Int32) <<< ((4 : Int32) &&& 31)))))])) rfl (by rw [hml]; rfl) (argsL := [(.ref b522), (.int (5 : Int32))]) (rest := [(.int (((((if G0 = (0 : Int32) then (0 : Int32) else ((1 : Int32) <<< ((0 : Int32) &&& 31))) ||| (if G1 = (0 : Int32) then (0 : Int32) else ((1 : Int32) <<< ((1 : Int32) &&& 31)))) ||| (if G2 = (0 : Int32) then (0 : Int32) else ((1 : Int32) <<< ((2 : Int32) &&& 31)))) ||| (if G3 = (0 : Int32) then (0 : Int32) else ((1 : Int32) <<< ((3 : Int32) &&& 31)))) ||| (if G4 = (0 : Int32) then (0 : Int32) else ((1 : Int32) <<< ((4 : Int32) &&& 31)))))]) (lenOf pd_2 rfl) rfl (by show 2 * 0 + _ ≤ _; exact Nat.le_of_eq rfl) (hb hby at_130) (fun _ _ => ⟨rfl, e589, (by decide : 1 + 0 ≤ _), (by decide : 6 + 0 ≤ _)⟩)
    dsimp only [Pt.U, Pt.locs, Pt.cells, Pt.slots] at X593 l593 y593 z593 st593 hQ593
    subst l593 y593 z593
    obtain ⟨rfl, N593q, e593⟩ := hQ593
    have N595 := Fr.app N591 N593q
    have pre596 : ∀ t, Steps p.tables e below (T593.setTop (mkF m 133 #[.val (.int p0_0), .val (.int p0_1), .val (.int (6 : Int32)), .val (.int (63 : Int32)), .val (.int MM), .val (.ref b522), .val (.int RR), .val (.int ((MM + (1 : Int32)) &&& (63 : Int32))), .unset] [(.int (if G5 = (0 : Int32) then (0 : Int32) else ((1 : Int32) <<< ((5 : Int32) &&& 31)))), (.int (((((if G0 = (0 : Int32) then (0 : Int32) else ((1 : Int32) <<< ((0 : Int32) &&& 31))) ||| (if G1 = (0 : Int32) then (0 : Int32) else ((1 : Int32) <<< ((1 : Int32) &&& 31)))) ||| (if G2 = (0 : Int32) then (0 : Int32) else ((1 : Int32) <<< ((2 : Int32) &&& 31)))) ||| (if G3 = (0 : Int32) then (0 : Int32) else ((1 : Int32) <<< ((3 : Int32) &&& 31)))) ||| (if G4 = (0 : Int32) then (0 : Int32) else ((1 : Int32) <<< ((4 : Int32) &&& 31)))))])) t → Steps p.tables e below (s₁.setTop (entryFrame m #[(.int p0_0), (.int p0_1)] maxLocals)) t := fun t k => pre592 t (by
      show Steps p.tables e below (T589.setTop (mkF m 126 #[.val (.int p0_0), .val (.int p0_1), .val (.int (6 : Int32)), .val (.int (63 : Int32)), .val (.int MM), .val (.ref b522), .val (.int RR), .val (.int ((MM + (1 : Int32)) &&& (63 : Int32))), .unset] [(.int (if G4 = (0 : Int32) then (0 : Int32) else ((1 : Int32) <<< ((4 : Int32) &&& 31)))), (.int ((((if G0 = (0 : Int32) then (0 : Int32) else ((1 : Int32) <<< ((0 : Int32) &&& 31))) ||| (if G1 = (0 : Int32) then (0 : Int32) else ((1 : Int32) <<< ((1 : Int32) &&& 31)))) ||| (if G2 = (0 : Int32) then (0 : Int32) else ((1 : Int32) <<< ((2 : Int32) &&& 31)))) ||| (if G3 = (0 : Int32) then (0 : Int32) else ((1 : Int32) <<< ((3 : Int32) &&& 31)))))])) _
      refine XS.ior X589.here hx rfl (hb hby at_126) rfl ?_
      refine XS.aload X589.here hx rfl (hb hby at_127) rfl rfl ?_
      refine XS.iconst X589.here hx rfl (hb hby at_129) ?_
      show Steps p.tables e below (T589.setTop (mkF m 130 #[.val (.int p0_0), .val (.int p0_1), .val (.int (6 : Int32)), .val (.int (63 : Int32)), .val (.int MM), .val (.ref b522), .val (.int RR), .val (.int ((MM + (1 : Int32)) &&& (63 : Int32))), .unset] [(.int (5 : Int32)), (.ref b522), (.int (((((if G0 = (0 : Int32) then (0 : Int32) else ((1 : Int32) <<< ((0 : Int32) &&& 31))) ||| (if G1 = (0 : Int32) then (0 : Int32) else ((1 : Int32) <<< ((1 : Int32) &&& 31)))) ||| (if G2 = (0 : Int32) then (0 : Int32) else ((1 : Int32) <<< ((2 : Int32) &&& 31)))) ||| (if G3 = (0 : Int32) then (0 : Int32) else ((1 : Int32) <<< ((3 : Int32) &&& 31)))) ||| (if G4 = (0 : Int32) then (0 : Int32) else ((1 : Int32) <<< ((4 : Int32) &&& 31)))))])) _
      refine st593 _ ?_
      exact k)
    have hq598 : ¬ ((6 : Int32) < (6 : Int32)) := by
      decide
    obtain ⟨_, _, ⟨T597, L597, k597, n597⟩, -, X597, ⟨Lc597, hQ597, l597, y597, z597⟩, st597⟩ := Jvm.LawKit.callS X593 hx (y := mn1) hown (mvT hZ (hVV 9 _ rfl)) (mvT hZ (hVV 10 _ rfl)) (mvT hZ (hVV 3 _ rfl)) (mvT hZ (hVV 11 _ rfl)) (by decide) (backOf (W := 1) (rm3_o l Z a0 hw [] b522 (6 : Int32) k522 (6 : Int32) ([(.int G0), (.int G1), (.int G2), (.int G3), (.int G4), (.int G5)]) T566.heap n0 z569 V572 hq598) hZ (hVV 11 _ rfl) (hVV 3 _ rfl) (by decide) (by decide)) (g := (mkF m 138 #[.val (.int p0_0), .val (.int p0_1), .val (.int (6 : Int32)), .val (.int (63 : Int32)), .val (.int MM), .val (.ref b522), .val (.int RR), .val (.int ((MM + (1 : Int32)) &&& (63 : Int32))), .unset] [(.int (6 : Int32)), (.ref b522), (.int ((((((if G0 = (0 : Int32) then (0 : Int32) else ((1 : Int32) <<< ((0 : Int32) &&& 31))) ||| (if G1 = (0 : Int32) then (0 : Int32) else ((1 : Int32) <<< ((1 : Int32) &&& 31)))) ||| (if G2 = (0 : Int32) then (0 : Int32) else ((1 : Int32) <<< ((2 : Int32) &&& 31)))) ||| (if G3 = (0 : Int32) then (0 : Int32) else ((1 : Int32) <<< ((3 : Int32) &&& 31)))) ||| (if G4 = (0 : Int32) then (0 : Int32) else ((1 : Int32) <<< ((4 : Int32) &&& 31)))) ||| (if G5 = (0 : Int32) then (0 : Int32) else ((1 : Int32) <<< ((5 : Int32) &&& 31)))))])) rfl (by rw [hml]; rfl) (argsL := [(.ref b522), (.int (6 : Int32))]) (rest := [(.int ((((((if G0 = (0 : Int32) then (0 : Int32) else ((1 : Int32) <<< ((0 : Int32) &&& 31))) ||| (if G1 = (0 : Int32) then (0 : Int32) else ((1 : Int32) <<< ((1 : Int32) &&& 31)))) ||| (if G2 = (0 : Int32) then (0 : Int32) else ((1 : Int32) <<< ((2 : Int32) &&& 31)))) ||| (if G3 = (0 : Int32) then (0 : Int32) else ((1 : Int32) <<< ((3 : Int32) &&& 31)))) ||| (if G4 = (0 : Int32) then (0 : Int32) else ((1 : Int32) <<< ((4 : Int32) &&& 31)))) ||| (if G5 = (0 : Int32) then (0 : Int32) else ((1 : Int32) <<< ((5 : Int32) &&& 31)))))]) (lenOf pd_2 rfl) rfl (by show 2 * 0 + _ ≤ _; exact Nat.le_of_eq rfl) (hb hby at_138) (fun _ _ => ⟨rfl, e593, (by decide : 1 + 0 ≤ _), (by decide : 6 + 0 ≤ _)⟩)
    dsimp only [Pt.U, Pt.locs, Pt.cells, Pt.slots] at X597 l597 y597 z597 st597 hQ597
    subst l597 y597 z597
    obtain ⟨rfl, N597q, e597⟩ := hQ597
    have N599 := Fr.app N595 N597q
    have pre600 : ∀ t, Steps p.tables e below (T597.setTop (mkF m 141 #[.val (.int p0_0), .val (.int p0_1), .val (.int (6 : Int32)), .val (.int (63 : Int32)), .val (.int MM), .val (.ref b522), .val (.int RR), .val (.int ((MM + (1 : Int32)) &&& (63 : Int32))), .unset] [(.int (0 : Int32)), (.int ((((((if G0 = (0 : Int32) then (0 : Int32) else ((1 : Int32) <<< ((0 : Int32) &&& 31))) ||| (if G1 = (0 : Int32) then (0 : Int32) else ((1 : Int32) <<< ((1 : Int32) &&& 31)))) ||| (if G2 = (0 : Int32) then (0 : Int32) else ((1 : Int32) <<< ((2 : Int32) &&& 31)))) ||| (if G3 = (0 : Int32) then (0 : Int32) else ((1 : Int32) <<< ((3 : Int32) &&& 31)))) ||| (if G4 = (0 : Int32) then (0 : Int32) else ((1 : Int32) <<< ((4 : Int32) &&& 31)))) ||| (if G5 = (0 : Int32) then (0 : Int32) else ((1 : Int32) <<< ((5 : Int32) &&& 31)))))])) t → Steps p.tables e below (s₁.setTop (entryFrame m #[(.int p0_0), (.int p0_1)] maxLocals)) t := fun t k => pre596 t (by
      show Steps p.tables e below (T593.setTop (mkF m 133 #[.val (.int p0_0), .val (.int p0_1), .val (.int (6 : Int32)), .val (.int (63 : Int32)), .val (.int MM), .val (.ref b522), .val (.int RR), .val (.int ((MM + (1 : Int32)) &&& (63 : Int32))), .unset] [(.int (if G5 = (0 : Int32) then (0 : Int32) else ((1 : Int32) <<< ((5 : Int32) &&& 31)))), (.int (((((if G0 = (0 : Int32) then (0 : Int32) else ((1 : Int32) <<< ((0 : Int32) &&& 31))) ||| (if G1 = (0 : Int32) then (0 : Int32) else ((1 : Int32) <<< ((1 : Int32) &&& 31)))) ||| (if G2 = (0 : Int32) then (0 : Int32) else ((1 : Int32) <<< ((2 : Int32) &&& 31)))) ||| (if G3 = (0 : Int32) then (0 : Int32) else ((1 : Int32) <<< ((3 : Int32) &&& 31)))) ||| (if G4 = (0 : Int32) then (0 : Int32) else ((1 : Int32) <<< ((4 : Int32) &&& 31)))))])) _
      refine XS.ior X593.here hx rfl (hb hby at_133) rfl ?_
      refine XS.aload X593.here hx rfl (hb hby at_134) rfl rfl ?_
      refine XS.bipush X593.here hx rfl (hb hby at_136) ?_
      show Steps p.tables e below (T593.setTop (mkF m 138 #[.val (.int p0_0), .val (.int p0_1), .val (.int (6 : Int32)), .val (.int (63 : Int32)), .val (.int MM), .val (.ref b522), .val (.int RR), .val (.int ((MM + (1 : Int32)) &&& (63 : Int32))), .unset] [(.int (6 : Int32)), (.ref b522), (.int ((((((if G0 = (0 : Int32) then (0 : Int32) else ((1 : Int32) <<< ((0 : Int32) &&& 31))) ||| (if G1 = (0 : Int32) then (0 : Int32) else ((1 : Int32) <<< ((1 : Int32) &&& 31)))) ||| (if G2 = (0 : Int32) then (0 : Int32) else ((1 : Int32) <<< ((2 : Int32) &&& 31)))) ||| (if G3 = (0 : Int32) then (0 : Int32) else ((1 : Int32) <<< ((3 : Int32) &&& 31)))) ||| (if G4 = (0 : Int32) then (0 : Int32) else ((1 : Int32) <<< ((4 : Int32) &&& 31)))) ||| (if G5 = (0 : Int32) then (0 : Int32) else ((1 : Int32) <<< ((5 : Int32) &&& 31)))))])) _
      refine st597 _ ?_
      exact k)
    obtain ⟨cl601, Ar601, q601, S601, N601, H601, G601⟩ := id V572
    have pre603 : ∀ t, Steps p.tables e below (T597.setTop (mkF m 156 #[.val (.int p0_0), .val (.int p0_1), .val (.int (6 : Int32)), .val (.int (63 : Int32)), .val (.int MM), .val (.ref b522), .val (.int RR), .val (.int ((MM + (1 : Int32)) &&& (63 : Int32))), .val (.int (((((((if G0 = (0 : Int32) then (0 : Int32) else ((1 : Int32) <<< ((0 : Int32) &&& 31))) ||| (if G1 = (0 : Int32) then (0 : Int32) else ((1 : Int32) <<< ((1 : Int32) &&& 31)))) ||| (if G2 = (0 : Int32) then (0 : Int32) else ((1 : Int32) <<< ((2 : Int32) &&& 31)))) ||| (if G3 = (0 : Int32) then (0 : Int32) else ((1 : Int32) <<< ((3 : Int32) &&& 31)))) ||| (if G4 = (0 : Int32) then (0 : Int32) else ((1 : Int32) <<< ((4 : Int32) &&& 31)))) ||| (if G5 = (0 : Int32) then (0 : Int32) else ((1 : Int32) <<< ((5 : Int32) &&& 31)))) ||| (0 : Int32)))] [(.int (63 : Int32)), (.int MM), (.int RR)])) t → Steps p.tables e below (s₁.setTop (entryFrame m #[(.int p0_0), (.int p0_1)] maxLocals)) t := fun t k => pre600 t (by
      show Steps p.tables e below (T597.setTop (mkF m 141 #[.val (.int p0_0), .val (.int p0_1), .val (.int (6 : Int32)), .val (.int (63 : Int32)), .val (.int MM), .val (.ref b522), .val (.int RR), .val (.int ((MM + (1 : Int32)) &&& (63 : Int32))), .unset] [(.int (0 : Int32)), (.int ((((((if G0 = (0 : Int32) then (0 : Int32) else ((1 : Int32) <<< ((0 : Int32) &&& 31))) ||| (if G1 = (0 : Int32) then (0 : Int32) else ((1 : Int32) <<< ((1 : Int32) &&& 31)))) ||| (if G2 = (0 : Int32) then (0 : Int32) else ((1 : Int32) <<< ((2 : Int32) &&& 31)))) ||| (if G3 = (0 : Int32) then (0 : Int32) else ((1 : Int32) <<< ((3 : Int32) &&& 31)))) ||| (if G4 = (0 : Int32) then (0 : Int32) else ((1 : Int32) <<< ((4 : Int32) &&& 31)))) ||| (if G5 = (0 : Int32) then (0 : Int32) else ((1 : Int32) <<< ((5 : Int32) &&& 31)))))])) _
      refine XS.ior X597.here hx rfl (hb hby at_141) rfl ?_
      show Steps p.tables e below (T597.setTop (mkF m 142 #[.val (.int p0_0), .val (.int p0_1), .val (.int (6 : Int32)), .val (.int (63 : Int32)), .val (.int MM), .val (.ref b522), .val (.int RR), .val (.int ((MM + (1 : Int32)) &&& (63 : Int32))), .unset] [(.int (((((((if G0 = (0 : Int32) then (0 : Int32) else ((1 : Int32) <<< ((0 : Int32) &&& 31))) ||| (if G1 = (0 : Int32) then (0 : Int32) else ((1 : Int32) <<< ((1 : Int32) &&& 31)))) ||| (if G2 = (0 : Int32) then (0 : Int32) else ((1 : Int32) <<< ((2 : Int32) &&& 31)))) ||| (if G3 = (0 : Int32) then (0 : Int32) else ((1 : Int32) <<< ((3 : Int32) &&& 31)))) ||| (if G4 = (0 : Int32) then (0 : Int32) else ((1 : Int32) <<< ((4 : Int32) &&& 31)))) ||| (if G5 = (0 : Int32) then (0 : Int32) else ((1 : Int32) <<< ((5 : Int32) &&& 31)))) ||| (0 : Int32)))])) _
      refine XS.istore X597.here hx rfl (hb hby at_142) rfl (l' := #[.val (.int p0_0), .val (.int p0_1), .val (.int (6 : Int32)), .val (.int (63 : Int32)), .val (.int MM), .val (.ref b522), .val (.int RR), .val (.int ((MM + (1 : Int32)) &&& (63 : Int32))), .val (.int (((((((if G0 = (0 : Int32) then (0 : Int32) else ((1 : Int32) <<< ((0 : Int32) &&& 31))) ||| (if G1 = (0 : Int32) then (0 : Int32) else ((1 : Int32) <<< ((1 : Int32) &&& 31)))) ||| (if G2 = (0 : Int32) then (0 : Int32) else ((1 : Int32) <<< ((2 : Int32) &&& 31)))) ||| (if G3 = (0 : Int32) then (0 : Int32) else ((1 : Int32) <<< ((3 : Int32) &&& 31)))) ||| (if G4 = (0 : Int32) then (0 : Int32) else ((1 : Int32) <<< ((4 : Int32) &&& 31)))) ||| (if G5 = (0 : Int32) then (0 : Int32) else ((1 : Int32) <<< ((5 : Int32) &&& 31)))) ||| (0 : Int32)))]) rfl ?_
      show Steps p.tables e below (T597.setTop (mkF m 144 #[.val (.int p0_0), .val (.int p0_1), .val (.int (6 : Int32)), .val (.int (63 : Int32)), .val (.int MM), .val (.ref b522), .val (.int RR), .val (.int ((MM + (1 : Int32)) &&& (63 : Int32))), .val (.int (((((((if G0 = (0 : Int32) then (0 : Int32) else ((1 : Int32) <<< ((0 : Int32) &&& 31))) ||| (if G1 = (0 : Int32) then (0 : Int32) else ((1 : Int32) <<< ((1 : Int32) &&& 31)))) ||| (if G2 = (0 : Int32) then (0 : Int32) else ((1 : Int32) <<< ((2 : Int32) &&& 31)))) ||| (if G3 = (0 : Int32) then (0 : Int32) else ((1 : Int32) <<< ((3 : Int32) &&& 31)))) ||| (if G4 = (0 : Int32) then (0 : Int32) else ((1 : Int32) <<< ((4 : Int32) &&& 31)))) ||| (if G5 = (0 : Int32) then (0 : Int32) else ((1 : Int32) <<< ((5 : Int32) &&& 31)))) ||| (0 : Int32)))] [])) _
      refine XS.aload X597.here hx rfl (hb hby at_144) rfl rfl ?_
      show Steps p.tables e below (T597.setTop (mkF m 146 #[.val (.int p0_0), .val (.int p0_1), .val (.int (6 : Int32)), .val (.int (63 : Int32)), .val (.int MM), .val (.ref b522), .val (.int RR), .val (.int ((MM + (1 : Int32)) &&& (63 : Int32))), .val (.int (((((((if G0 = (0 : Int32) then (0 : Int32) else ((1 : Int32) <<< ((0 : Int32) &&& 31))) ||| (if G1 = (0 : Int32) then (0 : Int32) else ((1 : Int32) <<< ((1 : Int32) &&& 31)))) ||| (if G2 = (0 : Int32) then (0 : Int32) else ((1 : Int32) <<< ((2 : Int32) &&& 31)))) ||| (if G3 = (0 : Int32) then (0 : Int32) else ((1 : Int32) <<< ((3 : Int32) &&& 31)))) ||| (if G4 = (0 : Int32) then (0 : Int32) else ((1 : Int32) <<< ((4 : Int32) &&& 31)))) ||| (if G5 = (0 : Int32) then (0 : Int32) else ((1 : Int32) <<< ((5 : Int32) &&& 31)))) ||| (0 : Int32)))] [(.ref b522)])) _
      refine X597.arraylength hx (by rw [e597]; exact Ar601.1) (State.isArrayOf_alike hZ.alike Ar601.2.1) (g := (mkF m 146 #[.val (.int p0_0), .val (.int p0_1), .val (.int (6 : Int32)), .val (.int (63 : Int32)), .val (.int MM), .val (.ref b522), .val (.int RR), .val (.int ((MM + (1 : Int32)) &&& (63 : Int32))), .val (.int (((((((if G0 = (0 : Int32) then (0 : Int32) else ((1 : Int32) <<< ((0 : Int32) &&& 31))) ||| (if G1 = (0 : Int32) then (0 : Int32) else ((1 : Int32) <<< ((1 : Int32) &&& 31)))) ||| (if G2 = (0 : Int32) then (0 : Int32) else ((1 : Int32) <<< ((2 : Int32) &&& 31)))) ||| (if G3 = (0 : Int32) then (0 : Int32) else ((1 : Int32) <<< ((3 : Int32) &&& 31)))) ||| (if G4 = (0 : Int32) then (0 : Int32) else ((1 : Int32) <<< ((4 : Int32) &&& 31)))) ||| (if G5 = (0 : Int32) then (0 : Int32) else ((1 : Int32) <<< ((5 : Int32) &&& 31)))) ||| (0 : Int32)))] [(.ref b522)])) rfl rfl (hb hby at_146) _ ?_
      rw [len_of S601 N601]
      show Steps p.tables e below (T597.setTop (mkF m 147 #[.val (.int p0_0), .val (.int p0_1), .val (.int (6 : Int32)), .val (.int (63 : Int32)), .val (.int MM), .val (.ref b522), .val (.int RR), .val (.int ((MM + (1 : Int32)) &&& (63 : Int32))), .val (.int (((((((if G0 = (0 : Int32) then (0 : Int32) else ((1 : Int32) <<< ((0 : Int32) &&& 31))) ||| (if G1 = (0 : Int32) then (0 : Int32) else ((1 : Int32) <<< ((1 : Int32) &&& 31)))) ||| (if G2 = (0 : Int32) then (0 : Int32) else ((1 : Int32) <<< ((2 : Int32) &&& 31)))) ||| (if G3 = (0 : Int32) then (0 : Int32) else ((1 : Int32) <<< ((3 : Int32) &&& 31)))) ||| (if G4 = (0 : Int32) then (0 : Int32) else ((1 : Int32) <<< ((4 : Int32) &&& 31)))) ||| (if G5 = (0 : Int32) then (0 : Int32) else ((1 : Int32) <<< ((5 : Int32) &&& 31)))) ||| (0 : Int32)))] [(.int (6 : Int32))])) _
      refine XS.iloadN X597.here hx rfl (hb hby at_147) rfl ?_
      show Steps p.tables e below (T597.setTop (mkF m 148 #[.val (.int p0_0), .val (.int p0_1), .val (.int (6 : Int32)), .val (.int (63 : Int32)), .val (.int MM), .val (.ref b522), .val (.int RR), .val (.int ((MM + (1 : Int32)) &&& (63 : Int32))), .val (.int (((((((if G0 = (0 : Int32) then (0 : Int32) else ((1 : Int32) <<< ((0 : Int32) &&& 31))) ||| (if G1 = (0 : Int32) then (0 : Int32) else ((1 : Int32) <<< ((1 : Int32) &&& 31)))) ||| (if G2 = (0 : Int32) then (0 : Int32) else ((1 : Int32) <<< ((2 : Int32) &&& 31)))) ||| (if G3 = (0 : Int32) then (0 : Int32) else ((1 : Int32) <<< ((3 : Int32) &&& 31)))) ||| (if G4 = (0 : Int32) then (0 : Int32) else ((1 : Int32) <<< ((4 : Int32) &&& 31)))) ||| (if G5 = (0 : Int32) then (0 : Int32) else ((1 : Int32) <<< ((5 : Int32) &&& 31)))) ||| (0 : Int32)))] [(.int (6 : Int32)), (.int (6 : Int32))])) _
      refine XS.icmpNo X597.here hx rfl (hb hby at_148) rfl (teq (by decide : (6 : Int32) = (6 : Int32))).2 ?_
      show Steps p.tables e below (T597.setTop (mkF m 151 #[.val (.int p0_0), .val (.int p0_1), .val (.int (6 : Int32)), .val (.int (63 : Int32)), .val (.int MM), .val (.ref b522), .val (.int RR), .val (.int ((MM + (1 : Int32)) &&& (63 : Int32))), .val (.int (((((((if G0 = (0 : Int32) then (0 : Int32) else ((1 : Int32) <<< ((0 : Int32) &&& 31))) ||| (if G1 = (0 : Int32) then (0 : Int32) else ((1 : Int32) <<< ((1 : Int32) &&& 31)))) ||| (if G2 = (0 : Int32) then (0 : Int32) else ((1 : Int32) <<< ((2 : Int32) &&& 31)))) ||| (if G3 = (0 : Int32) then (0 : Int32) else ((1 : Int32) <<< ((3 : Int32) &&& 31)))) ||| (if G4 = (0 : Int32) then (0 : Int32) else ((1 : Int32) <<< ((4 : Int32) &&& 31)))) ||| (if G5 = (0 : Int32) then (0 : Int32) else ((1 : Int32) <<< ((5 : Int32) &&& 31)))) ||| (0 : Int32)))] [])) _
      refine XS.iload X597.here hx rfl (hb hby at_151) rfl ?_
      refine XS.iload X597.here hx rfl (hb hby at_153) rfl ?_
      refine XS.iloadN X597.here hx rfl (hb hby at_155) rfl ?_
      exact k)
    have pre604 : ∀ t, Steps p.tables e below (T597.setTop (mkF m 164 #[.val (.int p0_0), .val (.int p0_1), .val (.int (6 : Int32)), .val (.int (63 : Int32)), .val (.int MM), .val (.ref b522), .val (.int RR), .val (.int ((MM + (1 : Int32)) &&& (63 : Int32))), .val (.int (((((((if G0 = (0 : Int32) then (0 : Int32) else ((1 : Int32) <<< ((0 : Int32) &&& 31))) ||| (if G1 = (0 : Int32) then (0 : Int32) else ((1 : Int32) <<< ((1 : Int32) &&& 31)))) ||| (if G2 = (0 : Int32) then (0 : Int32) else ((1 : Int32) <<< ((2 : Int32) &&& 31)))) ||| (if G3 = (0 : Int32) then (0 : Int32) else ((1 : Int32) <<< ((3 : Int32) &&& 31)))) ||| (if G4 = (0 : Int32) then (0 : Int32) else ((1 : Int32) <<< ((4 : Int32) &&& 31)))) ||| (if G5 = (0 : Int32) then (0 : Int32) else ((1 : Int32) <<< ((5 : Int32) &&& 31)))) ||| (0 : Int32)))] [(.int (bI (¬ (MM = (63 : Int32))))), (.int RR)])) t → Steps p.tables e below (s₁.setTop (entryFrame m #[(.int p0_0), (.int p0_1)] maxLocals)) t := fun t k => pre603 t (by
      by_cases hc602 : MM = (63 : Int32)
      · show Steps p.tables e below (T597.setTop (mkF m 156 #[.val (.int p0_0), .val (.int p0_1), .val (.int (6 : Int32)), .val (.int (63 : Int32)), .val (.int MM), .val (.ref b522), .val (.int RR), .val (.int ((MM + (1 : Int32)) &&& (63 : Int32))), .val (.int (((((((if G0 = (0 : Int32) then (0 : Int32) else ((1 : Int32) <<< ((0 : Int32) &&& 31))) ||| (if G1 = (0 : Int32) then (0 : Int32) else ((1 : Int32) <<< ((1 : Int32) &&& 31)))) ||| (if G2 = (0 : Int32) then (0 : Int32) else ((1 : Int32) <<< ((2 : Int32) &&& 31)))) ||| (if G3 = (0 : Int32) then (0 : Int32) else ((1 : Int32) <<< ((3 : Int32) &&& 31)))) ||| (if G4 = (0 : Int32) then (0 : Int32) else ((1 : Int32) <<< ((4 : Int32) &&& 31)))) ||| (if G5 = (0 : Int32) then (0 : Int32) else ((1 : Int32) <<< ((5 : Int32) &&& 31)))) ||| (0 : Int32)))] [(.int (63 : Int32)), (.int MM), (.int RR)])) _
        refine XS.icmpYes X597.here hx rfl (pc0 := 156) (pc' := 163) rfl (hb hby at_156) rfl (teq hc602).1 (by decide) (by decide) ?_
        show Steps p.tables e below (T597.setTop (mkF m 163 #[.val (.int p0_0), .val (.int p0_1), .val (.int (6 : Int32)), .val (.int (63 : Int32)), .val (.int MM), .val (.ref b522), .val (.int RR), .val (.int ((MM + (1 : Int32)) &&& (63 : Int32))), .val (.int (((((((if G0 = (0 : Int32) then (0 : Int32) else ((1 : Int32) <<< ((0 : Int32) &&& 31))) ||| (if G1 = (0 : Int32) then (0 : Int32) else ((1 : Int32) <<< ((1 : Int32) &&& 31)))) ||| (if G2 = (0 : Int32) then (0 : Int32) else ((1 : Int32) <<< ((2 : Int32) &&& 31)))) ||| (if G3 = (0 : Int32) then (0 : Int32) else ((1 : Int32) <<< ((3 : Int32) &&& 31)))) ||| (if G4 = (0 : Int32) then (0 : Int32) else ((1 : Int32) <<< ((4 : Int32) &&& 31)))) ||| (if G5 = (0 : Int32) then (0 : Int32) else ((1 : Int32) <<< ((5 : Int32) &&& 31)))) ||| (0 : Int32)))] [(.int RR)])) _
        refine XS.iconst X597.here hx rfl (hb hby at_163) ?_
        have q605 : (bI (¬ (MM = (63 : Int32)))) = (0 : Int32) := (bI_f (fun q => q hc602))
        exact castTop (g := (mkF m 164 #[.val (.int p0_0), .val (.int p0_1), .val (.int (6 : Int32)), .val (.int (63 : Int32)), .val (.int MM), .val (.ref b522), .val (.int RR), .val (.int ((MM + (1 : Int32)) &&& (63 : Int32))), .val (.int (((((((if G0 = (0 : Int32) then (0 : Int32) else ((1 : Int32) <<< ((0 : Int32) &&& 31))) ||| (if G1 = (0 : Int32) then (0 : Int32) else ((1 : Int32) <<< ((1 : Int32) &&& 31)))) ||| (if G2 = (0 : Int32) then (0 : Int32) else ((1 : Int32) <<< ((2 : Int32) &&& 31)))) ||| (if G3 = (0 : Int32) then (0 : Int32) else ((1 : Int32) <<< ((3 : Int32) &&& 31)))) ||| (if G4 = (0 : Int32) then (0 : Int32) else ((1 : Int32) <<< ((4 : Int32) &&& 31)))) ||| (if G5 = (0 : Int32) then (0 : Int32) else ((1 : Int32) <<< ((5 : Int32) &&& 31)))) ||| (0 : Int32)))] [(.int (0 : Int32)), (.int RR)])) (g' := (mkF m 164 #[.val (.int p0_0), .val (.int p0_1), .val (.int (6 : Int32)), .val (.int (63 : Int32)), .val (.int MM), .val (.ref b522), .val (.int RR), .val (.int ((MM + (1 : Int32)) &&& (63 : Int32))), .val (.int (((((((if G0 = (0 : Int32) then (0 : Int32) else ((1 : Int32) <<< ((0 : Int32) &&& 31))) ||| (if G1 = (0 : Int32) then (0 : Int32) else ((1 : Int32) <<< ((1 : Int32) &&& 31)))) ||| (if G2 = (0 : Int32) then (0 : Int32) else ((1 : Int32) <<< ((2 : Int32) &&& 31)))) ||| (if G3 = (0 : Int32) then (0 : Int32) else ((1 : Int32) <<< ((3 : Int32) &&& 31)))) ||| (if G4 = (0 : Int32) then (0 : Int32) else ((1 : Int32) <<< ((4 : Int32) &&& 31)))) ||| (if G5 = (0 : Int32) then (0 : Int32) else ((1 : Int32) <<< ((5 : Int32) &&& 31)))) ||| (0 : Int32)))] [(.int (bI (¬ (MM = (63 : Int32))))), (.int RR)])) (by simp only [q605]) k
      · show Steps p.tables e below (T597.setTop (mkF m 156 #[.val (.int p0_0), .val (.int p0_1), .val (.int (6 : Int32)), .val (.int (63 : Int32)), .val (.int MM), .val (.ref b522), .val (.int RR), .val (.int ((MM + (1 : Int32)) &&& (63 : Int32))), .val (.int (((((((if G0 = (0 : Int32) then (0 : Int32) else ((1 : Int32) <<< ((0 : Int32) &&& 31))) ||| (if G1 = (0 : Int32) then (0 : Int32) else ((1 : Int32) <<< ((1 : Int32) &&& 31)))) ||| (if G2 = (0 : Int32) then (0 : Int32) else ((1 : Int32) <<< ((2 : Int32) &&& 31)))) ||| (if G3 = (0 : Int32) then (0 : Int32) else ((1 : Int32) <<< ((3 : Int32) &&& 31)))) ||| (if G4 = (0 : Int32) then (0 : Int32) else ((1 : Int32) <<< ((4 : Int32) &&& 31)))) ||| (if G5 = (0 : Int32) then (0 : Int32) else ((1 : Int32) <<< ((5 : Int32) &&& 31)))) ||| (0 : Int32)))] [(.int (63 : Int32)), (.int MM), (.int RR)])) _
        refine XS.icmpNo X597.here hx rfl (hb hby at_156) rfl (feq hc602).1 ?_
        show Steps p.tables e below (T597.setTop (mkF m 159 #[.val (.int p0_0), .val (.int p0_1), .val (.int (6 : Int32)), .val (.int (63 : Int32)), .val (.int MM), .val (.ref b522), .val (.int RR), .val (.int ((MM + (1 : Int32)) &&& (63 : Int32))), .val (.int (((((((if G0 = (0 : Int32) then (0 : Int32) else ((1 : Int32) <<< ((0 : Int32) &&& 31))) ||| (if G1 = (0 : Int32) then (0 : Int32) else ((1 : Int32) <<< ((1 : Int32) &&& 31)))) ||| (if G2 = (0 : Int32) then (0 : Int32) else ((1 : Int32) <<< ((2 : Int32) &&& 31)))) ||| (if G3 = (0 : Int32) then (0 : Int32) else ((1 : Int32) <<< ((3 : Int32) &&& 31)))) ||| (if G4 = (0 : Int32) then (0 : Int32) else ((1 : Int32) <<< ((4 : Int32) &&& 31)))) ||| (if G5 = (0 : Int32) then (0 : Int32) else ((1 : Int32) <<< ((5 : Int32) &&& 31)))) ||| (0 : Int32)))] [(.int RR)])) _
        refine XS.iconst X597.here hx rfl (hb hby at_159) ?_
        show Steps p.tables e below (T597.setTop (mkF m 160 #[.val (.int p0_0), .val (.int p0_1), .val (.int (6 : Int32)), .val (.int (63 : Int32)), .val (.int MM), .val (.ref b522), .val (.int RR), .val (.int ((MM + (1 : Int32)) &&& (63 : Int32))), .val (.int (((((((if G0 = (0 : Int32) then (0 : Int32) else ((1 : Int32) <<< ((0 : Int32) &&& 31))) ||| (if G1 = (0 : Int32) then (0 : Int32) else ((1 : Int32) <<< ((1 : Int32) &&& 31)))) ||| (if G2 = (0 : Int32) then (0 : Int32) else ((1 : Int32) <<< ((2 : Int32) &&& 31)))) ||| (if G3 = (0 : Int32) then (0 : Int32) else ((1 : Int32) <<< ((3 : Int32) &&& 31)))) ||| (if G4 = (0 : Int32) then (0 : Int32) else ((1 : Int32) <<< ((4 : Int32) &&& 31)))) ||| (if G5 = (0 : Int32) then (0 : Int32) else ((1 : Int32) <<< ((5 : Int32) &&& 31)))) ||| (0 : Int32)))] [(.int (1 : Int32)), (.int RR)])) _
        refine XS.goto X597.here hx rfl (pc0 := 160) (pc' := 164) rfl (hb hby at_160) (by decide) (by decide) ?_
        have q606 : (bI (¬ (MM = (63 : Int32)))) = (1 : Int32) := (bI_t hc602)
        exact castTop (g := (mkF m 164 #[.val (.int p0_0), .val (.int p0_1), .val (.int (6 : Int32)), .val (.int (63 : Int32)), .val (.int MM), .val (.ref b522), .val (.int RR), .val (.int ((MM + (1 : Int32)) &&& (63 : Int32))), .val (.int (((((((if G0 = (0 : Int32) then (0 : Int32) else ((1 : Int32) <<< ((0 : Int32) &&& 31))) ||| (if G1 = (0 : Int32) then (0 : Int32) else ((1 : Int32) <<< ((1 : Int32) &&& 31)))) ||| (if G2 = (0 : Int32) then (0 : Int32) else ((1 : Int32) <<< ((2 : Int32) &&& 31)))) ||| (if G3 = (0 : Int32) then (0 : Int32) else ((1 : Int32) <<< ((3 : Int32) &&& 31)))) ||| (if G4 = (0 : Int32) then (0 : Int32) else ((1 : Int32) <<< ((4 : Int32) &&& 31)))) ||| (if G5 = (0 : Int32) then (0 : Int32) else ((1 : Int32) <<< ((5 : Int32) &&& 31)))) ||| (0 : Int32)))] [(.int (1 : Int32)), (.int RR)])) (g' := (mkF m 164 #[.val (.int p0_0), .val (.int p0_1), .val (.int (6 : Int32)), .val (.int (63 : Int32)), .val (.int MM), .val (.ref b522), .val (.int RR), .val (.int ((MM + (1 : Int32)) &&& (63 : Int32))), .val (.int (((((((if G0 = (0 : Int32) then (0 : Int32) else ((1 : Int32) <<< ((0 : Int32) &&& 31))) ||| (if G1 = (0 : Int32) then (0 : Int32) else ((1 : Int32) <<< ((1 : Int32) &&& 31)))) ||| (if G2 = (0 : Int32) then (0 : Int32) else ((1 : Int32) <<< ((2 : Int32) &&& 31)))) ||| (if G3 = (0 : Int32) then (0 : Int32) else ((1 : Int32) <<< ((3 : Int32) &&& 31)))) ||| (if G4 = (0 : Int32) then (0 : Int32) else ((1 : Int32) <<< ((4 : Int32) &&& 31)))) ||| (if G5 = (0 : Int32) then (0 : Int32) else ((1 : Int32) <<< ((5 : Int32) &&& 31)))) ||| (0 : Int32)))] [(.int (bI (¬ (MM = (63 : Int32))))), (.int RR)])) (by simp only [q606]) k)
    have hd607 : RR = (bI (¬ (MM = (63 : Int32)))) := by
      rw [hRR]
      exact own_fin (P := fun y : Int32 => (bI (((own_b y (0 : Int32)) = (0 : Int32)) ∨ (((own_b y (1 : Int32)) = (0 : Int32)) ∨ (((own_b y (2 : Int32)) = (0 : Int32)) ∨ (((own_b y (3 : Int32)) = (0 : Int32)) ∨ (((own_b y (4 : Int32)) = (0 : Int32)) ∨ ((own_b y (5 : Int32)) = (0 : Int32)))))))) = (bI (¬ (y = (63 : Int32))))) own_r_6 MM hM.1 hM.2
    have hd608 : (((((((if G0 = (0 : Int32) then (0 : Int32) else ((1 : Int32) <<< ((0 : Int32) &&& 31))) ||| (if G1 = (0 : Int32) then (0 : Int32) else ((1 : Int32) <<< ((1 : Int32) &&& 31)))) ||| (if G2 = (0 : Int32) then (0 : Int32) else ((1 : Int32) <<< ((2 : Int32) &&& 31)))) ||| (if G3 = (0 : Int32) then (0 : Int32) else ((1 : Int32) <<< ((3 : Int32) &&& 31)))) ||| (if G4 = (0 : Int32) then (0 : Int32) else ((1 : Int32) <<< ((4 : Int32) &&& 31)))) ||| (if G5 = (0 : Int32) then (0 : Int32) else ((1 : Int32) <<< ((5 : Int32) &&& 31)))) ||| (0 : Int32)) = ((MM + (1 : Int32)) &&& (63 : Int32)) := by
      rw [hG0, hG1, hG2, hG3, hG4, hG5]
      exact own_fin (P := fun y : Int32 => (((((((if (bI ((own_b y (0 : Int32)) = (0 : Int32))) = (0 : Int32) then (0 : Int32) else ((1 : Int32) <<< ((0 : Int32) &&& 31))) ||| (if (if (own_b y (0 : Int32)) = (0 : Int32) then (own_b y (1 : Int32)) else (bI ((own_b y (1 : Int32)) = (0 : Int32)))) = (0 : Int32) then (0 : Int32) else ((1 : Int32) <<< ((1 : Int32) &&& 31)))) ||| (if (if (own_b y (0 : Int32)) = (0 : Int32) then (own_b y (2 : Int32)) else (if (own_b y (1 : Int32)) = (0 : Int32) then (own_b y (2 : Int32)) else (bI ((own_b y (2 : Int32)) = (0 : Int32))))) = (0 : Int32) then (0 : Int32) else ((1 : Int32) <<< ((2 : Int32) &&& 31)))) ||| (if (if (own_b y (0 : Int32)) = (0 : Int32) then (own_b y (3 : Int32)) else (if (own_b y (1 : Int32)) = (0 : Int32) then (own_b y (3 : Int32)) else (if (own_b y (2 : Int32)) = (0 : Int32) then (own_b y (3 : Int32)) else (bI ((own_b y (3 : Int32)) = (0 : Int32)))))) = (0 : Int32) then (0 : Int32) else ((1 : Int32) <<< ((3 : Int32) &&& 31)))) ||| (if (if (own_b y (0 : Int32)) = (0 : Int32) then (own_b y (4 : Int32)) else (if (own_b y (1 : Int32)) = (0 : Int32) then (own_b y (4 : Int32)) else (if (own_b y (2 : Int32)) = (0 : Int32) then (own_b y (4 : Int32)) else (if (own_b y (3 : Int32)) = (0 : Int32) then (own_b y (4 : Int32)) else (bI ((own_b y (4 : Int32)) = (0 : Int32))))))) = (0 : Int32) then (0 : Int32) else ((1 : Int32) <<< ((4 : Int32) &&& 31)))) ||| (if (if (own_b y (0 : Int32)) = (0 : Int32) then (own_b y (5 : Int32)) else (if (own_b y (1 : Int32)) = (0 : Int32) then (own_b y (5 : Int32)) else (if (own_b y (2 : Int32)) = (0 : Int32) then (own_b y (5 : Int32)) else (if (own_b y (3 : Int32)) = (0 : Int32) then (own_b y (5 : Int32)) else (if (own_b y (4 : Int32)) = (0 : Int32) then (own_b y (5 : Int32)) else (bI ((own_b y (5 : Int32)) = (0 : Int32)))))))) = (0 : Int32) then (0 : Int32) else ((1 : Int32) <<< ((5 : Int32) &&& 31)))) ||| (0 : Int32)) = ((y + (1 : Int32)) &&& (63 : Int32))) own_g_6 MM hM.1 hM.2
    obtain ⟨fs, hr, hrun, hended, hW, hsame⟩ := X597.leave (v := some (.int (1 : Int32))) (fun h => by rw [Bd.returns] at h; cases h)
    refine ⟨_, _, pre604 _ ?_, hrun, hended, _, _, rfl, ?_, ⟨_, rfl⟩, hW, hsame.mono (by decide) (by decide)⟩
    · show Steps p.tables e below (T597.setTop (mkF m 164 #[.val (.int p0_0), .val (.int p0_1), .val (.int (6 : Int32)), .val (.int (63 : Int32)), .val (.int MM), .val (.ref b522), .val (.int RR), .val (.int ((MM + (1 : Int32)) &&& (63 : Int32))), .val (.int (((((((if G0 = (0 : Int32) then (0 : Int32) else ((1 : Int32) <<< ((0 : Int32) &&& 31))) ||| (if G1 = (0 : Int32) then (0 : Int32) else ((1 : Int32) <<< ((1 : Int32) &&& 31)))) ||| (if G2 = (0 : Int32) then (0 : Int32) else ((1 : Int32) <<< ((2 : Int32) &&& 31)))) ||| (if G3 = (0 : Int32) then (0 : Int32) else ((1 : Int32) <<< ((3 : Int32) &&& 31)))) ||| (if G4 = (0 : Int32) then (0 : Int32) else ((1 : Int32) <<< ((4 : Int32) &&& 31)))) ||| (if G5 = (0 : Int32) then (0 : Int32) else ((1 : Int32) <<< ((5 : Int32) &&& 31)))) ||| (0 : Int32)))] [(.int (bI (¬ (MM = (63 : Int32))))), (.int RR)])) _
      refine XS.icmpNo X597.here hx rfl (hb hby at_164) rfl (teq hd607).2 ?_
      show Steps p.tables e below (T597.setTop (mkF m 167 #[.val (.int p0_0), .val (.int p0_1), .val (.int (6 : Int32)), .val (.int (63 : Int32)), .val (.int MM), .val (.ref b522), .val (.int RR), .val (.int ((MM + (1 : Int32)) &&& (63 : Int32))), .val (.int (((((((if G0 = (0 : Int32) then (0 : Int32) else ((1 : Int32) <<< ((0 : Int32) &&& 31))) ||| (if G1 = (0 : Int32) then (0 : Int32) else ((1 : Int32) <<< ((1 : Int32) &&& 31)))) ||| (if G2 = (0 : Int32) then (0 : Int32) else ((1 : Int32) <<< ((2 : Int32) &&& 31)))) ||| (if G3 = (0 : Int32) then (0 : Int32) else ((1 : Int32) <<< ((3 : Int32) &&& 31)))) ||| (if G4 = (0 : Int32) then (0 : Int32) else ((1 : Int32) <<< ((4 : Int32) &&& 31)))) ||| (if G5 = (0 : Int32) then (0 : Int32) else ((1 : Int32) <<< ((5 : Int32) &&& 31)))) ||| (0 : Int32)))] [])) _
      refine XS.iload X597.here hx rfl (hb hby at_167) rfl ?_
      refine XS.iload X597.here hx rfl (hb hby at_169) rfl ?_
      show Steps p.tables e below (T597.setTop (mkF m 171 #[.val (.int p0_0), .val (.int p0_1), .val (.int (6 : Int32)), .val (.int (63 : Int32)), .val (.int MM), .val (.ref b522), .val (.int RR), .val (.int ((MM + (1 : Int32)) &&& (63 : Int32))), .val (.int (((((((if G0 = (0 : Int32) then (0 : Int32) else ((1 : Int32) <<< ((0 : Int32) &&& 31))) ||| (if G1 = (0 : Int32) then (0 : Int32) else ((1 : Int32) <<< ((1 : Int32) &&& 31)))) ||| (if G2 = (0 : Int32) then (0 : Int32) else ((1 : Int32) <<< ((2 : Int32) &&& 31)))) ||| (if G3 = (0 : Int32) then (0 : Int32) else ((1 : Int32) <<< ((3 : Int32) &&& 31)))) ||| (if G4 = (0 : Int32) then (0 : Int32) else ((1 : Int32) <<< ((4 : Int32) &&& 31)))) ||| (if G5 = (0 : Int32) then (0 : Int32) else ((1 : Int32) <<< ((5 : Int32) &&& 31)))) ||| (0 : Int32)))] [(.int ((MM + (1 : Int32)) &&& (63 : Int32))), (.int (((((((if G0 = (0 : Int32) then (0 : Int32) else ((1 : Int32) <<< ((0 : Int32) &&& 31))) ||| (if G1 = (0 : Int32) then (0 : Int32) else ((1 : Int32) <<< ((1 : Int32) &&& 31)))) ||| (if G2 = (0 : Int32) then (0 : Int32) else ((1 : Int32) <<< ((2 : Int32) &&& 31)))) ||| (if G3 = (0 : Int32) then (0 : Int32) else ((1 : Int32) <<< ((3 : Int32) &&& 31)))) ||| (if G4 = (0 : Int32) then (0 : Int32) else ((1 : Int32) <<< ((4 : Int32) &&& 31)))) ||| (if G5 = (0 : Int32) then (0 : Int32) else ((1 : Int32) <<< ((5 : Int32) &&& 31)))) ||| (0 : Int32)))])) _
      refine XS.icmpNo X597.here hx rfl (hb hby at_171) rfl (teq hd608).2 ?_
      show Steps p.tables e below (T597.setTop (mkF m 174 #[.val (.int p0_0), .val (.int p0_1), .val (.int (6 : Int32)), .val (.int (63 : Int32)), .val (.int MM), .val (.ref b522), .val (.int RR), .val (.int ((MM + (1 : Int32)) &&& (63 : Int32))), .val (.int (((((((if G0 = (0 : Int32) then (0 : Int32) else ((1 : Int32) <<< ((0 : Int32) &&& 31))) ||| (if G1 = (0 : Int32) then (0 : Int32) else ((1 : Int32) <<< ((1 : Int32) &&& 31)))) ||| (if G2 = (0 : Int32) then (0 : Int32) else ((1 : Int32) <<< ((2 : Int32) &&& 31)))) ||| (if G3 = (0 : Int32) then (0 : Int32) else ((1 : Int32) <<< ((3 : Int32) &&& 31)))) ||| (if G4 = (0 : Int32) then (0 : Int32) else ((1 : Int32) <<< ((4 : Int32) &&& 31)))) ||| (if G5 = (0 : Int32) then (0 : Int32) else ((1 : Int32) <<< ((5 : Int32) &&& 31)))) ||| (0 : Int32)))] [])) _
      refine XS.iconst X597.here hx rfl (hb hby at_174) ?_
      refine XS.goto X597.here hx rfl (pc0 := 175) (pc' := 179) rfl (hb hby at_175) (by decide) (by decide) ?_
      show Steps p.tables e below (T597.setTop (mkF m 179 #[.val (.int p0_0), .val (.int p0_1), .val (.int (6 : Int32)), .val (.int (63 : Int32)), .val (.int MM), .val (.ref b522), .val (.int RR), .val (.int ((MM + (1 : Int32)) &&& (63 : Int32))), .val (.int (((((((if G0 = (0 : Int32) then (0 : Int32) else ((1 : Int32) <<< ((0 : Int32) &&& 31))) ||| (if G1 = (0 : Int32) then (0 : Int32) else ((1 : Int32) <<< ((1 : Int32) &&& 31)))) ||| (if G2 = (0 : Int32) then (0 : Int32) else ((1 : Int32) <<< ((2 : Int32) &&& 31)))) ||| (if G3 = (0 : Int32) then (0 : Int32) else ((1 : Int32) <<< ((3 : Int32) &&& 31)))) ||| (if G4 = (0 : Int32) then (0 : Int32) else ((1 : Int32) <<< ((4 : Int32) &&& 31)))) ||| (if G5 = (0 : Int32) then (0 : Int32) else ((1 : Int32) <<< ((5 : Int32) &&& 31)))) ||| (0 : Int32)))] [(.int (1 : Int32))])) _
      exact retN X597 hx (t := .boolean) Bd.returns (by simp) (hb hby at_179) hr
    · show Q0 Z p0_0 p0_1 h0 n0 _ T597.heap _
      rw [e597]
      exact ⟨rfl, N599⟩
  have pre609 : ∀ t, Steps p.tables e below (s₁.setTop (mkF m 5 #[.val (.int p0_0), .val (.int p0_1), .val (.int (7 : Int32)), .unset, .unset, .unset, .unset, .unset, .unset] [])) t → Steps p.tables e below (s₁.setTop (entryFrame m #[(.int p0_0), (.int p0_1)] maxLocals)) t := fun t k => pre1 t (castTop (by rw [hk]) k)
  have pre610 : ∀ t, Steps p.tables e below (s₁.setTop (mkF m 11 #[.val (.int p0_0), .val (.int p0_1), .val (.int (7 : Int32)), .val (.int (((1 : Int32) <<< ((7 : Int32) &&& 31)) - (1 : Int32))), .unset, .unset, .unset, .unset, .unset] [])) t → Steps p.tables e below (s₁.setTop (entryFrame m #[(.int p0_0), (.int p0_1)] maxLocals)) t := fun t k => pre609 t (by
    show Steps p.tables e below (s₁.setTop (mkF m 5 #[.val (.int p0_0), .val (.int p0_1), .val (.int (7 : Int32)), .unset, .unset, .unset, .unset, .unset, .unset] [])) _
    refine XS.iconst X0.here hx rfl (hb hby at_5) ?_
    refine XS.iloadN X0.here hx rfl (hb hby at_6) rfl ?_
    show Steps p.tables e below (s₁.setTop (mkF m 7 #[.val (.int p0_0), .val (.int p0_1), .val (.int (7 : Int32)), .unset, .unset, .unset, .unset, .unset, .unset] [(.int (7 : Int32)), (.int (1 : Int32))])) _
    refine XS.ishl X0.here hx rfl (hb hby at_7) rfl ?_
    show Steps p.tables e below (s₁.setTop (mkF m 8 #[.val (.int p0_0), .val (.int p0_1), .val (.int (7 : Int32)), .unset, .unset, .unset, .unset, .unset, .unset] [(.int ((1 : Int32) <<< ((7 : Int32) &&& 31)))])) _
    refine XS.iconst X0.here hx rfl (hb hby at_8) ?_
    refine XS.isub X0.here hx rfl (hb hby at_9) rfl ?_
    show Steps p.tables e below (s₁.setTop (mkF m 10 #[.val (.int p0_0), .val (.int p0_1), .val (.int (7 : Int32)), .unset, .unset, .unset, .unset, .unset, .unset] [(.int (((1 : Int32) <<< ((7 : Int32) &&& 31)) - (1 : Int32)))])) _
    refine XS.istoreN X0.here hx rfl (hb hby at_10) rfl (l' := #[.val (.int p0_0), .val (.int p0_1), .val (.int (7 : Int32)), .val (.int (((1 : Int32) <<< ((7 : Int32) &&& 31)) - (1 : Int32))), .unset, .unset, .unset, .unset, .unset]) rfl ?_
    exact k)
  have hl611 : (((1 : Int32) <<< ((7 : Int32) &&& 31)) - (1 : Int32)) = (127 : Int32) := by
    decide
  have pre612 : ∀ t, Steps p.tables e below (s₁.setTop (mkF m 11 #[.val (.int p0_0), .val (.int p0_1), .val (.int (7 : Int32)), .val (.int (127 : Int32)), .unset, .unset, .unset, .unset, .unset] [])) t → Steps p.tables e below (s₁.setTop (entryFrame m #[(.int p0_0), (.int p0_1)] maxLocals)) t := fun t k => pre610 t (castTop (by rw [hl611]) k)
  have pre613 : ∀ t, Steps p.tables e below (s₁.setTop (mkF m 16 #[.val (.int p0_0), .val (.int p0_1), .val (.int (7 : Int32)), .val (.int (127 : Int32)), .val (.int (p0_1 &&& (127 : Int32))), .unset, .unset, .unset, .unset] [])) t → Steps p.tables e below (s₁.setTop (entryFrame m #[(.int p0_0), (.int p0_1)] maxLocals)) t := fun t k => pre612 t (by
    show Steps p.tables e below (s₁.setTop (mkF m 11 #[.val (.int p0_0), .val (.int p0_1), .val (.int (7 : Int32)), .val (.int (127 : Int32)), .unset, .unset, .unset, .unset, .unset] [])) _
    refine XS.iloadN X0.here hx rfl (hb hby at_11) rfl ?_
    refine XS.iloadN X0.here hx rfl (hb hby at_12) rfl ?_
    refine XS.iand X0.here hx rfl (hb hby at_13) rfl ?_
    show Steps p.tables e below (s₁.setTop (mkF m 14 #[.val (.int p0_0), .val (.int p0_1), .val (.int (7 : Int32)), .val (.int (127 : Int32)), .unset, .unset, .unset, .unset, .unset] [(.int (p0_1 &&& (127 : Int32)))])) _
    refine XS.istore X0.here hx rfl (hb hby at_14) rfl (l' := #[.val (.int p0_0), .val (.int p0_1), .val (.int (7 : Int32)), .val (.int (127 : Int32)), .val (.int (p0_1 &&& (127 : Int32))), .unset, .unset, .unset, .unset]) rfl ?_
    exact k)
  obtain ⟨MM, hMM⟩ : ∃ z : Int32, z = (p0_1 &&& (127 : Int32)) := ⟨_, rfl⟩
  have pre614 : ∀ t, Steps p.tables e below (s₁.setTop (mkF m 16 #[.val (.int p0_0), .val (.int p0_1), .val (.int (7 : Int32)), .val (.int (127 : Int32)), .val (.int MM), .unset, .unset, .unset, .unset] [])) t → Steps p.tables e below (s₁.setTop (entryFrame m #[(.int p0_0), (.int p0_1)] maxLocals)) t := fun t k => pre613 t (castTop (by rw [hMM]) k)
  have hM : 0 ≤ MM.toInt ∧ MM.toInt < (128 : Nat) := by
    rw [hMM]
    have e := c_mask p0_1 (127 : Int32) 7 (by decide) (by decide)
    omega
  obtain ⟨T615, h615, k615, X615, e615, E615, A615, st615⟩ := newP X0 hx hZ (hVV 0 _ rfl) e0 (g := (mkF m 17 #[.val (.int p0_0), .val (.int p0_1), .val (.int (7 : Int32)), .val (.int (127 : Int32)), .val (.int MM), .unset, .unset, .unset, .unset] [(.int (7 : Int32))])) rfl (hb hby at_17) rfl (by decide) (cap := 7) (by decide) (by decide) (by decide) (by decide)
  obtain ⟨b615, g615⟩ : ∃ z, z = h0.size := ⟨_, rfl⟩
  rw [← g615] at A615 st615
  have gz615 : n0 ≤ b615 := Nat.le_trans Z0 (Nat.le_of_eq g615.symm)
  have pre616 : ∀ t, Steps p.tables e below (T615.setTop (mkF m 19 #[.val (.int p0_0), .val (.int p0_1), .val (.int (7 : Int32)), .val (.int (127 : Int32)), .val (.int MM), .unset, .unset, .unset, .unset] [(.ref b615)])) t → Steps p.tables e below (s₁.setTop (entryFrame m #[(.int p0_0), (.int p0_1)] maxLocals)) t := fun t k => pre614 t (by
    show Steps p.tables e below (s₁.setTop (mkF m 16 #[.val (.int p0_0), .val (.int p0_1), .val (.int (7 : Int32)), .val (.int (127 : Int32)), .val (.int MM), .unset, .unset, .unset, .unset] [])) _
    refine XS.iloadN X0.here hx rfl (hb hby at_16) rfl ?_
    show Steps p.tables e below (s₁.setTop (mkF m 17 #[.val (.int p0_0), .val (.int p0_1), .val (.int (7 : Int32)), .val (.int (127 : Int32)), .val (.int MM), .unset, .unset, .unset, .unset] [(.int (7 : Int32))])) _
    refine st615 _ ?_
    exact k)
  have z617 := Nat.le_trans Z0 E615.1
  have V618 : Arv Z h615 b615 k615 .boolean (7 : Int32) [(.int (0 : Int32)), (.int (0 : Int32)), (.int (0 : Int32)), (.int (0 : Int32)), (.int (0 : Int32)), (.int (0 : Int32)), (.int (0 : Int32))] (.int (0 : Int32)) := (Arv.new A615 (by decide)).pad (pad_rep [] (.int (0 : Int32)) 7)
  have hq620 : (0 : Int32) < (7 : Int32) := by
    decide
  obtain ⟨_, _, ⟨T619, L619, k619, n619⟩, -, X619, ⟨Lc619, hQ619, l619, y619, z619⟩, st619⟩ := Jvm.LawKit.callS X615 hx (y := mn0) hown (mvT hZ (hVV 1 _ rfl)) (mvT hZ (hVV 2 _ rfl)) (mvT hZ (hVV 3 _ rfl)) (mvT hZ (hVV 4 _ rfl)) (by decide) (backOf (W := 0) (rm1_i l Z a0 hw [] b615 (0 : Int32) MM k615 (7 : Int32) ([(.int (0 : Int32)), (.int (0 : Int32)), (.int (0 : Int32)), (.int (0 : Int32)), (.int (0 : Int32)), (.int (0 : Int32)), (.int (0 : Int32))]) h615 n0 z617 V618 (by decide) (Nat.le_of_ble_eq_true rfl) hq620 gz615) hZ (hVV 4 _ rfl) (hVV 3 _ rfl) (by decide) (by decide)) (g := (mkF m 26 #[.val (.int p0_0), .val (.int p0_1), .val (.int (7 : Int32)), .val (.int (127 : Int32)), .val (.int MM), .val (.ref b615), .unset, .unset, .unset] [(.int MM), (.int (0 : Int32)), (.ref b615)])) rfl (by rw [hml]; rfl) (argsL := [(.ref b615), (.int (0 : Int32)), (.int MM)]) (rest := []) (lenOf pd_0 rfl) rfl (by show 2 * 0 + _ ≤ _; exact Nat.le_of_eq rfl) (hb hby at_26) (fun _ _ => ⟨rfl, e615, (by decide : 1 + 0 ≤ _), (by decide : 7 + 0 ≤ _)⟩)
  dsimp only [Pt.U, Pt.locs, Pt.cells, Pt.slots] at X619 l619 y619 z619 st619 hQ619
  subst l619 y619 z619
  obtain ⟨rfl, N619q, K619, r619_0⟩ := hQ619
  have N621 := Fr.app N0 N619q
  have pre622 : ∀ t, Steps p.tables e below (T619.setTop (mkF m 29 #[.val (.int p0_0), .val (.int p0_1), .val (.int (7 : Int32)), .val (.int (127 : Int32)), .val (.int MM), .val (.ref b615), .unset, .unset, .unset] [])) t → Steps p.tables e below (s₁.setTop (entryFrame m #[(.int p0_0), (.int p0_1)] maxLocals)) t := fun t k => pre616 t (by
    show Steps p.tables e below (T615.setTop (mkF m 19 #[.val (.int p0_0), .val (.int p0_1), .val (.int (7 : Int32)), .val (.int (127 : Int32)), .val (.int MM), .unset, .unset, .unset, .unset] [(.ref b615)])) _
    refine XS.astore X615.here hx rfl (hb hby at_19) rfl rfl (l' := #[.val (.int p0_0), .val (.int p0_1), .val (.int (7 : Int32)), .val (.int (127 : Int32)), .val (.int MM), .val (.ref b615), .unset, .unset, .unset]) rfl ?_
    show Steps p.tables e below (T615.setTop (mkF m 21 #[.val (.int p0_0), .val (.int p0_1), .val (.int (7 : Int32)), .val (.int (127 : Int32)), .val (.int MM), .val (.ref b615), .unset, .unset, .unset] [])) _
    refine XS.aload X615.here hx rfl (hb hby at_21) rfl rfl ?_
    refine XS.iconst X615.here hx rfl (hb hby at_23) ?_
    refine XS.iload X615.here hx rfl (hb hby at_24) rfl ?_
    show Steps p.tables e below (T615.setTop (mkF m 26 #[.val (.int p0_0), .val (.int p0_1), .val (.int (7 : Int32)), .val (.int (127 : Int32)), .val (.int MM), .val (.ref b615), .unset, .unset, .unset] [(.int MM), (.int (0 : Int32)), (.ref b615)])) _
    refine st619 _ ?_
    exact k)
  have z623 := Nat.le_trans z617 K619.1
  have V624 : Arv Z T619.heap b615 k615 .boolean (7 : Int32) [(.int (own_b MM (0 : Int32))), (.int (0 : Int32)), (.int (0 : Int32)), (.int (0 : Int32)), (.int (0 : Int32)), (.int (0 : Int32)), (.int (0 : Int32))] (.int (0 : Int32)) := r619_0
  have hq626 : (1 : Int32) < (7 : Int32) := by
    decide
  obtain ⟨_, _, ⟨T625, L625, k625, n625⟩, -, X625, ⟨Lc625, hQ625, l625, y625, z625⟩, st625⟩ := Jvm.LawKit.callS X619 hx (y := mn0) hown (mvT hZ (hVV 1 _ rfl)) (mvT hZ (hVV 2 _ rfl)) (mvT hZ (hVV 3 _ rfl)) (mvT hZ (hVV 4 _ rfl)) (by decide) (backOf (W := 0) (rm1_i l Z a0 hw [] b615 (1 : Int32) MM k615 (7 : Int32) ([(.int (own_b MM (0 : Int32))), (.int (0 : Int32)), (.int (0 : Int32)), (.int (0 : Int32)), (.int (0 : Int32)), (.int (0 : Int32)), (.int (0 : Int32))]) T619.heap n0 z623 V624 (by decide) (Nat.le_of_ble_eq_true rfl) hq626 gz615) hZ (hVV 4 _ rfl) (hVV 3 _ rfl) (by decide) (by decide)) (g := (mkF m 34 #[.val (.int p0_0), .val (.int p0_1), .val (.int (7 : Int32)), .val (.int (127 : Int32)), .val (.int MM), .val (.ref b615), .unset, .unset, .unset] [(.int MM), (.int (1 : Int32)), (.ref b615)])) rfl (by rw [hml]; rfl) (argsL := [(.ref b615), (.int (1 : Int32)), (.int MM)]) (rest := []) (lenOf pd_0 rfl) rfl (by show 2 * 0 + _ ≤ _; exact Nat.le_of_eq rfl) (hb hby at_34) (fun _ _ => ⟨rfl, rfl, (by decide : 1 + 0 ≤ _), (by decide : 7 + 0 ≤ _)⟩)
  dsimp only [Pt.U, Pt.locs, Pt.cells, Pt.slots] at X625 l625 y625 z625 st625 hQ625
  subst l625 y625 z625
  obtain ⟨rfl, N625q, K625, r625_0⟩ := hQ625
  have N627 := Fr.app N621 N625q
  have pre628 : ∀ t, Steps p.tables e below (T625.setTop (mkF m 37 #[.val (.int p0_0), .val (.int p0_1), .val (.int (7 : Int32)), .val (.int (127 : Int32)), .val (.int MM), .val (.ref b615), .unset, .unset, .unset] [])) t → Steps p.tables e below (s₁.setTop (entryFrame m #[(.int p0_0), (.int p0_1)] maxLocals)) t := fun t k => pre622 t (by
    show Steps p.tables e below (T619.setTop (mkF m 29 #[.val (.int p0_0), .val (.int p0_1), .val (.int (7 : Int32)), .val (.int (127 : Int32)), .val (.int MM), .val (.ref b615), .unset, .unset, .unset] [])) _
    refine XS.aload X619.here hx rfl (hb hby at_29) rfl rfl ?_
    refine XS.iconst X619.here hx rfl (hb hby at_31) ?_
    refine XS.iload X619.here hx rfl (hb hby at_32) rfl ?_
    show Steps p.tables e below (T619.setTop (mkF m 34 #[.val (.int p0_0), .val (.int p0_1), .val (.int (7 : Int32)), .val (.int (127 : Int32)), .val (.int MM), .val (.ref b615), .unset, .unset, .unset] [(.int MM), (.int (1 : Int32)), (.ref b615)])) _
    refine st625 _ ?_
    exact k)
  have z629 := Nat.le_trans z623 K625.1
  have V630 : Arv Z T625.heap b615 k615 .boolean (7 : Int32) [(.int (own_b MM (0 : Int32))), (.int (own_b MM (1 : Int32))), (.int (0 : Int32)), (.int (0 : Int32)), (.int (0 : Int32)), (.int (0 : Int32)), (.int (0 : Int32))] (.int (0 : Int32)) := r625_0
  have hq632 : (2 : Int32) < (7 : Int32) := by
    decide
  obtain ⟨_, _, ⟨T631, L631, k631, n631⟩, -, X631, ⟨Lc631, hQ631, l631, y631, z631⟩, st631⟩ := Jvm.LawKit.callS X625 hx (y := mn0) hown (mvT hZ (hVV 1 _ rfl)) (mvT hZ (hVV 2 _ rfl)) (mvT hZ (hVV 3 _ rfl)) (mvT hZ (hVV 4 _ rfl)) (by decide) (backOf (W := 0) (rm1_i l Z a0 hw [] b615 (2 : Int32) MM k615 (7 : Int32) ([(.int (own_b MM (0 : Int32))), (.int (own_b MM (1 : Int32))), (.int (0 : Int32)), (.int (0 : Int32)), (.int (0 : Int32)), (.int (0 : Int32)), (.int (0 : Int32))]) T625.heap n0 z629 V630 (by decide) (Nat.le_of_ble_eq_true rfl) hq632 gz615) hZ (hVV 4 _ rfl) (hVV 3 _ rfl) (by decide) (by decide)) (g := (mkF m 42 #[.val (.int p0_0), .val (.int p0_1), .val (.int (7 : Int32)), .val (.int (127 : Int32)), .val (.int MM), .val (.ref b615), .unset, .unset, .unset] [(.int MM), (.int (2 : Int32)), (.ref b615)])) rfl (by rw [hml]; rfl) (argsL := [(.ref b615), (.int (2 : Int32)), (.int MM)]) (rest := []) (lenOf pd_0 rfl) rfl (by show 2 * 0 + _ ≤ _; exact Nat.le_of_eq rfl) (hb hby at_42) (fun _ _ => ⟨rfl, rfl, (by decide : 1 + 0 ≤ _), (by decide : 7 + 0 ≤ _)⟩)
  dsimp only [Pt.U, Pt.locs, Pt.cells, Pt.slots] at X631 l631 y631 z631 st631 hQ631
  subst l631 y631 z631
  obtain ⟨rfl, N631q, K631, r631_0⟩ := hQ631
  have N633 := Fr.app N627 N631q
  have pre634 : ∀ t, Steps p.tables e below (T631.setTop (mkF m 45 #[.val (.int p0_0), .val (.int p0_1), .val (.int (7 : Int32)), .val (.int (127 : Int32)), .val (.int MM), .val (.ref b615), .unset, .unset, .unset] [])) t → Steps p.tables e below (s₁.setTop (entryFrame m #[(.int p0_0), (.int p0_1)] maxLocals)) t := fun t k => pre628 t (by
    show Steps p.tables e below (T625.setTop (mkF m 37 #[.val (.int p0_0), .val (.int p0_1), .val (.int (7 : Int32)), .val (.int (127 : Int32)), .val (.int MM), .val (.ref b615), .unset, .unset, .unset] [])) _
    refine XS.aload X625.here hx rfl (hb hby at_37) rfl rfl ?_
    refine XS.iconst X625.here hx rfl (hb hby at_39) ?_
    refine XS.iload X625.here hx rfl (hb hby at_40) rfl ?_
    show Steps p.tables e below (T625.setTop (mkF m 42 #[.val (.int p0_0), .val (.int p0_1), .val (.int (7 : Int32)), .val (.int (127 : Int32)), .val (.int MM), .val (.ref b615), .unset, .unset, .unset] [(.int MM), (.int (2 : Int32)), (.ref b615)])) _
    refine st631 _ ?_
    exact k)
  have z635 := Nat.le_trans z629 K631.1
  have V636 : Arv Z T631.heap b615 k615 .boolean (7 : Int32) [(.int (own_b MM (0 : Int32))), (.int (own_b MM (1 : Int32))), (.int (own_b MM (2 : Int32))), (.int (0 : Int32)), (.int (0 : Int32)), (.int (0 : Int32)), (.int (0 : Int32))] (.int (0 : Int32)) := r631_0
  have hq638 : (3 : Int32) < (7 : Int32) := by
    decide
  obtain ⟨_, _, ⟨T637, L637, k637, n637⟩, -, X637, ⟨Lc637, hQ637, l637, y637, z637⟩, st637⟩ := Jvm.LawKit.callS X631 hx (y := mn0) hown (mvT hZ (hVV 1 _ rfl)) (mvT hZ (hVV 2 _ rfl)) (mvT hZ (hVV 3 _ rfl)) (mvT hZ (hVV 4 _ rfl)) (by decide) (backOf (W := 0) (rm1_i l Z a0 hw [] b615 (3 : Int32) MM k615 (7 : Int32) ([(.int (own_b MM (0 : Int32))), (.int (own_b MM (1 : Int32))), (.int (own_b MM (2 : Int32))), (.int (0 : Int32)), (.int (0 : Int32)), (.int (0 : Int32)), (.int (0 : Int32))]) T631.heap n0 z635 V636 (by decide) (Nat.le_of_ble_eq_true rfl) hq638 gz615) hZ (hVV 4 _ rfl) (hVV 3 _ rfl) (by decide) (by decide)) (g := (mkF m 50 #[.val (.int p0_0), .val (.int p0_1), .val (.int (7 : Int32)), .val (.int (127 : Int32)), .val (.int MM), .val (.ref b615), .unset, .unset, .unset] [(.int MM), (.int (3 : Int32)), (.ref b615)])) rfl (by rw [hml]; rfl) (argsL := [(.ref b615), (.int (3 : Int32)), (.int MM)]) (rest := []) (lenOf pd_0 rfl) rfl (by show 2 * 0 + _ ≤ _; exact Nat.le_of_eq rfl) (hb hby at_50) (fun _ _ => ⟨rfl, rfl, (by decide : 1 + 0 ≤ _), (by decide : 7 + 0 ≤ _)⟩)
  dsimp only [Pt.U, Pt.locs, Pt.cells, Pt.slots] at X637 l637 y637 z637 st637 hQ637
  subst l637 y637 z637
  obtain ⟨rfl, N637q, K637, r637_0⟩ := hQ637
  have N639 := Fr.app N633 N637q
  have pre640 : ∀ t, Steps p.tables e below (T637.setTop (mkF m 53 #[.val (.int p0_0), .val (.int p0_1), .val (.int (7 : Int32)), .val (.int (127 : Int32)), .val (.int MM), .val (.ref b615), .unset, .unset, .unset] [])) t → Steps p.tables e below (s₁.setTop (entryFrame m #[(.int p0_0), (.int p0_1)] maxLocals)) t := fun t k => pre634 t (by
    show Steps p.tables e below (T631.setTop (mkF m 45 #[.val (.int p0_0), .val (.int p0_1), .val (.int (7 : Int32)), .val (.int (127 : Int32)), .val (.int MM), .val (.ref b615), .unset, .unset, .unset] [])) _
    refine XS.aload X631.here hx rfl (hb hby at_45) rfl rfl ?_
    refine XS.iconst X631.here hx rfl (hb hby at_47) ?_
    refine XS.iload X631.here hx rfl (hb hby at_48) rfl ?_
    show Steps p.tables e below (T631.setTop (mkF m 50 #[.val (.int p0_0), .val (.int p0_1), .val (.int (7 : Int32)), .val (.int (127 : Int32)), .val (.int MM), .val (.ref b615), .unset, .unset, .unset] [(.int MM), (.int (3 : Int32)), (.ref b615)])) _
    refine st637 _ ?_
    exact k)
  have z641 := Nat.le_trans z635 K637.1
  have V642 : Arv Z T637.heap b615 k615 .boolean (7 : Int32) [(.int (own_b MM (0 : Int32))), (.int (own_b MM (1 : Int32))), (.int (own_b MM (2 : Int32))), (.int (own_b MM (3 : Int32))), (.int (0 : Int32)), (.int (0 : Int32)), (.int (0 : Int32))] (.int (0 : Int32)) := r637_0
  have hq644 : (4 : Int32) < (7 : Int32) := by
    decide
  obtain ⟨_, _, ⟨T643, L643, k643, n643⟩, -, X643, ⟨Lc643, hQ643, l643, y643, z643⟩, st643⟩ := Jvm.LawKit.callS X637 hx (y := mn0) hown (mvT hZ (hVV 1 _ rfl)) (mvT hZ (hVV 2 _ rfl)) (mvT hZ (hVV 3 _ rfl)) (mvT hZ (hVV 4 _ rfl)) (by decide) (backOf (W := 0) (rm1_i l Z a0 hw [] b615 (4 : Int32) MM k615 (7 : Int32) ([(.int (own_b MM (0 : Int32))), (.int (own_b MM (1 : Int32))), (.int (own_b MM (2 : Int32))), (.int (own_b MM (3 : Int32))), (.int (0 : Int32)), (.int (0 : Int32)), (.int (0 : Int32))]) T637.heap n0 z641 V642 (by decide) (Nat.le_of_ble_eq_true rfl) hq644 gz615) hZ (hVV 4 _ rfl) (hVV 3 _ rfl) (by decide) (by decide)) (g := (mkF m 58 #[.val (.int p0_0), .val (.int p0_1), .val (.int (7 : Int32)), .val (.int (127 : Int32)), .val (.int MM), .val (.ref b615), .unset, .unset, .unset] [(.int MM), (.int (4 : Int32)), (.ref b615)])) rfl (by rw [hml]; rfl) (argsL := [(.ref b615), (.int (4 : Int32)), (.int MM)]) (rest := []) (lenOf pd_0 rfl) rfl (by show 2 * 0 + _ ≤ _; exact Nat.le_of_eq rfl) (hb hby at_58) (fun _ _ => ⟨rfl, rfl, (by decide : 1 + 0 ≤ _), (by decide : 7 + 0 ≤ _)⟩)
  dsimp only [Pt.U, Pt.locs, Pt.cells, Pt.slots] at X643 l643 y643 z643 st643 hQ643
  subst l643 y643 z643
  obtain ⟨rfl, N643q, K643, r643_0⟩ := hQ643
  have N645 := Fr.app N639 N643q
  have pre646 : ∀ t, Steps p.tables e below (T643.setTop (mkF m 61 #[.val (.int p0_0), .val (.int p0_1), .val (.int (7 : Int32)), .val (.int (127 : Int32)), .val (.int MM), .val (.ref b615), .unset, .unset, .unset] [])) t → Steps p.tables e below (s₁.setTop (entryFrame m #[(.int p0_0), (.int p0_1)] maxLocals)) t := fun t k => pre640 t (by
    show Steps p.tables e below (T637.setTop (mkF m 53 #[.val (.int p0_0), .val (.int p0_1), .val (.int (7 : Int32)), .val (.int (127 : Int32)), .val (.int MM), .val (.ref b615), .unset, .unset, .unset] [])) _
    refine XS.aload X637.here hx rfl (hb hby at_53) rfl rfl ?_
    refine XS.iconst X637.here hx rfl (hb hby at_55) ?_
    refine XS.iload X637.here hx rfl (hb hby at_56) rfl ?_
    show Steps p.tables e below (T637.setTop (mkF m 58 #[.val (.int p0_0), .val (.int p0_1), .val (.int (7 : Int32)), .val (.int (127 : Int32)), .val (.int MM), .val (.ref b615), .unset, .unset, .unset] [(.int MM), (.int (4 : Int32)), (.ref b615)])) _
    refine st643 _ ?_
    exact k)
  have z647 := Nat.le_trans z641 K643.1
  have V648 : Arv Z T643.heap b615 k615 .boolean (7 : Int32) [(.int (own_b MM (0 : Int32))), (.int (own_b MM (1 : Int32))), (.int (own_b MM (2 : Int32))), (.int (own_b MM (3 : Int32))), (.int (own_b MM (4 : Int32))), (.int (0 : Int32)), (.int (0 : Int32))] (.int (0 : Int32)) := r643_0
  have hq650 : (5 : Int32) < (7 : Int32) := by
    decide
  obtain ⟨_, _, ⟨T649, L649, k649, n649⟩, -, X649, ⟨Lc649, hQ649, l649, y649, z649⟩, st649⟩ := Jvm.LawKit.callS X643 hx (y := mn0) hown (mvT hZ (hVV 1 _ rfl)) (mvT hZ (hVV 2 _ rfl)) (mvT hZ (hVV 3 _ rfl)) (mvT hZ (hVV 4 _ rfl)) (by decide) (backOf (W := 0) (rm1_i l Z a0 hw [] b615 (5 : Int32) MM k615 (7 : Int32) ([(.int (own_b MM (0 : Int32))), (.int (own_b MM (1 : Int32))), (.int (own_b MM (2 : Int32))), (.int (own_b MM (3 : Int32))), (.int (own_b MM (4 : Int32))), (.int (0 : Int32)), (.int (0 : Int32))]) T643.heap n0 z647 V648 (by decide) (Nat.le_of_ble_eq_true rfl) hq650 gz615) hZ (hVV 4 _ rfl) (hVV 3 _ rfl) (by decide) (by decide)) (g := (mkF m 66 #[.val (.int p0_0), .val (.int p0_1), .val (.int (7 : Int32)), .val (.int (127 : Int32)), .val (.int MM), .val (.ref b615), .unset, .unset, .unset] [(.int MM), (.int (5 : Int32)), (.ref b615)])) rfl (by rw [hml]; rfl) (argsL := [(.ref b615), (.int (5 : Int32)), (.int MM)]) (rest := []) (lenOf pd_0 rfl) rfl (by show 2 * 0 + _ ≤ _; exact Nat.le_of_eq rfl) (hb hby at_66) (fun _ _ => ⟨rfl, rfl, (by decide : 1 + 0 ≤ _), (by decide : 7 + 0 ≤ _)⟩)
  dsimp only [Pt.U, Pt.locs, Pt.cells, Pt.slots] at X649 l649 y649 z649 st649 hQ649
  subst l649 y649 z649
  obtain ⟨rfl, N649q, K649, r649_0⟩ := hQ649
  have N651 := Fr.app N645 N649q
  have pre652 : ∀ t, Steps p.tables e below (T649.setTop (mkF m 69 #[.val (.int p0_0), .val (.int p0_1), .val (.int (7 : Int32)), .val (.int (127 : Int32)), .val (.int MM), .val (.ref b615), .unset, .unset, .unset] [])) t → Steps p.tables e below (s₁.setTop (entryFrame m #[(.int p0_0), (.int p0_1)] maxLocals)) t := fun t k => pre646 t (by
    show Steps p.tables e below (T643.setTop (mkF m 61 #[.val (.int p0_0), .val (.int p0_1), .val (.int (7 : Int32)), .val (.int (127 : Int32)), .val (.int MM), .val (.ref b615), .unset, .unset, .unset] [])) _
    refine XS.aload X643.here hx rfl (hb hby at_61) rfl rfl ?_
    refine XS.iconst X643.here hx rfl (hb hby at_63) ?_
    refine XS.iload X643.here hx rfl (hb hby at_64) rfl ?_
    show Steps p.tables e below (T643.setTop (mkF m 66 #[.val (.int p0_0), .val (.int p0_1), .val (.int (7 : Int32)), .val (.int (127 : Int32)), .val (.int MM), .val (.ref b615), .unset, .unset, .unset] [(.int MM), (.int (5 : Int32)), (.ref b615)])) _
    refine st649 _ ?_
    exact k)
  have z653 := Nat.le_trans z647 K649.1
  have V654 : Arv Z T649.heap b615 k615 .boolean (7 : Int32) [(.int (own_b MM (0 : Int32))), (.int (own_b MM (1 : Int32))), (.int (own_b MM (2 : Int32))), (.int (own_b MM (3 : Int32))), (.int (own_b MM (4 : Int32))), (.int (own_b MM (5 : Int32))), (.int (0 : Int32))] (.int (0 : Int32)) := r649_0
  have hq656 : (6 : Int32) < (7 : Int32) := by
    decide
  obtain ⟨_, _, ⟨T655, L655, k655, n655⟩, -, X655, ⟨Lc655, hQ655, l655, y655, z655⟩, st655⟩ := Jvm.LawKit.callS X649 hx (y := mn0) hown (mvT hZ (hVV 1 _ rfl)) (mvT hZ (hVV 2 _ rfl)) (mvT hZ (hVV 3 _ rfl)) (mvT hZ (hVV 4 _ rfl)) (by decide) (backOf (W := 0) (rm1_i l Z a0 hw [] b615 (6 : Int32) MM k615 (7 : Int32) ([(.int (own_b MM (0 : Int32))), (.int (own_b MM (1 : Int32))), (.int (own_b MM (2 : Int32))), (.int (own_b MM (3 : Int32))), (.int (own_b MM (4 : Int32))), (.int (own_b MM (5 : Int32))), (.int (0 : Int32))]) T649.heap n0 z653 V654 (by decide) (Nat.le_of_ble_eq_true rfl) hq656 gz615) hZ (hVV 4 _ rfl) (hVV 3 _ rfl) (by decide) (by decide)) (g := (mkF m 75 #[.val (.int p0_0), .val (.int p0_1), .val (.int (7 : Int32)), .val (.int (127 : Int32)), .val (.int MM), .val (.ref b615), .unset, .unset, .unset] [(.int MM), (.int (6 : Int32)), (.ref b615)])) rfl (by rw [hml]; rfl) (argsL := [(.ref b615), (.int (6 : Int32)), (.int MM)]) (rest := []) (lenOf pd_0 rfl) rfl (by show 2 * 0 + _ ≤ _; exact Nat.le_of_eq rfl) (hb hby at_75) (fun _ _ => ⟨rfl, rfl, (by decide : 1 + 0 ≤ _), (by decide : 7 + 0 ≤ _)⟩)
  dsimp only [Pt.U, Pt.locs, Pt.cells, Pt.slots] at X655 l655 y655 z655 st655 hQ655
  subst l655 y655 z655
  obtain ⟨rfl, N655q, K655, r655_0⟩ := hQ655
  have N657 := Fr.app N651 N655q
  have pre658 : ∀ t, Steps p.tables e below (T655.setTop (mkF m 78 #[.val (.int p0_0), .val (.int p0_1), .val (.int (7 : Int32)), .val (.int (127 : Int32)), .val (.int MM), .val (.ref b615), .unset, .unset, .unset] [])) t → Steps p.tables e below (s₁.setTop (entryFrame m #[(.int p0_0), (.int p0_1)] maxLocals)) t := fun t k => pre652 t (by
    show Steps p.tables e below (T649.setTop (mkF m 69 #[.val (.int p0_0), .val (.int p0_1), .val (.int (7 : Int32)), .val (.int (127 : Int32)), .val (.int MM), .val (.ref b615), .unset, .unset, .unset] [])) _
    refine XS.aload X649.here hx rfl (hb hby at_69) rfl rfl ?_
    refine XS.bipush X649.here hx rfl (hb hby at_71) ?_
    refine XS.iload X649.here hx rfl (hb hby at_73) rfl ?_
    show Steps p.tables e below (T649.setTop (mkF m 75 #[.val (.int p0_0), .val (.int p0_1), .val (.int (7 : Int32)), .val (.int (127 : Int32)), .val (.int MM), .val (.ref b615), .unset, .unset, .unset] [(.int MM), (.int (6 : Int32)), (.ref b615)])) _
    refine st655 _ ?_
    exact k)
  have z659 := Nat.le_trans z653 K655.1
  have V660 : Arv Z T655.heap b615 k615 .boolean (7 : Int32) [(.int (own_b MM (0 : Int32))), (.int (own_b MM (1 : Int32))), (.int (own_b MM (2 : Int32))), (.int (own_b MM (3 : Int32))), (.int (own_b MM (4 : Int32))), (.int (own_b MM (5 : Int32))), (.int (own_b MM (6 : Int32)))] (.int (0 : Int32)) := r655_0
  obtain ⟨_, _, ⟨T661, L661, k661, n661⟩, -, X661, ⟨Lc661, hQ661, l661, y661, z661⟩, st661⟩ := Jvm.LawKit.callS X655 hx (y := mn2) hown (mvT hZ (hVV 5 _ rfl)) (mvT hZ (hVV 6 _ rfl)) (mvT hZ (hVV 7 _ rfl)) (mvT hZ (hVV 8 _ rfl)) (by decide) (backOf (W := 0) (rm2_7 l Z a0 hw [] b615 k615 (own_b MM (0 : Int32)) (own_b MM (1 : Int32)) (own_b MM (2 : Int32)) (own_b MM (3 : Int32)) (own_b MM (4 : Int32)) (own_b MM (5 : Int32)) (own_b MM (6 : Int32)) T655.heap n0 z659 V660 gz615) hZ (hVV 8 _ rfl) (hVV 7 _ rfl) (by decide) (by decide)) (g := (mkF m 80 #[.val (.int p0_0), .val (.int p0_1), .val (.int (7 : Int32)), .val (.int (127 : Int32)), .val (.int MM), .val (.ref b615), .unset, .unset, .unset] [(.ref b615)])) rfl (by rw [hml]; rfl) (argsL := [(.ref b615)]) (rest := []) (lenOf pd_1 rfl) rfl (by show 2 * 0 + _ ≤ _; exact Nat.le_of_eq rfl) (hb hby at_80) (fun _ _ => ⟨rfl, rfl, (by decide : 1 + 0 ≤ _), (by decide : 7 + 0 ≤ _)⟩)
  dsimp only [Pt.U, Pt.locs, Pt.cells, Pt.slots] at X661 l661 y661 z661 st661 hQ661
  subst l661 y661 z661
  obtain ⟨rfl, N661q, K661, r661_0⟩ := hQ661
  have N662 := Fr.app N657 N661q
  have pre663 : ∀ t, Steps p.tables e below (T661.setTop (mkF m 83 #[.val (.int p0_0), .val (.int p0_1), .val (.int (7 : Int32)), .val (.int (127 : Int32)), .val (.int MM), .val (.ref b615), .unset, .unset, .unset] [(.int (bI (((own_b MM (0 : Int32)) = (0 : Int32)) ∨ (((own_b MM (1 : Int32)) = (0 : Int32)) ∨ (((own_b MM (2 : Int32)) = (0 : Int32)) ∨ (((own_b MM (3 : Int32)) = (0 : Int32)) ∨ (((own_b MM (4 : Int32)) = (0 : Int32)) ∨ (((own_b MM (5 : Int32)) = (0 : Int32)) ∨ ((own_b MM (6 : Int32)) = (0 : Int32))))))))))])) t → Steps p.tables e below (s₁.setTop (entryFrame m #[(.int p0_0), (.int p0_1)] maxLocals)) t := fun t k => pre658 t (by
    show Steps p.tables e below (T655.setTop (mkF m 78 #[.val (.int p0_0), .val (.int p0_1), .val (.int (7 : Int32)), .val (.int (127 : Int32)), .val (.int MM), .val (.ref b615), .unset, .unset, .unset] [])) _
    refine XS.aload X655.here hx rfl (hb hby at_78) rfl rfl ?_
    show Steps p.tables e below (T655.setTop (mkF m 80 #[.val (.int p0_0), .val (.int p0_1), .val (.int (7 : Int32)), .val (.int (127 : Int32)), .val (.int MM), .val (.ref b615), .unset, .unset, .unset] [(.ref b615)])) _
    refine st661 _ ?_
    exact k)
  have z664 := Nat.le_trans z659 K661.1
  have pre665 : ∀ t, Steps p.tables e below (T661.setTop (mkF m 85 #[.val (.int p0_0), .val (.int p0_1), .val (.int (7 : Int32)), .val (.int (127 : Int32)), .val (.int MM), .val (.ref b615), .val (.int (bI (((own_b MM (0 : Int32)) = (0 : Int32)) ∨ (((own_b MM (1 : Int32)) = (0 : Int32)) ∨ (((own_b MM (2 : Int32)) = (0 : Int32)) ∨ (((own_b MM (3 : Int32)) = (0 : Int32)) ∨ (((own_b MM (4 : Int32)) = (0 : Int32)) ∨ (((own_b MM (5 : Int32)) = (0 : Int32)) ∨ ((own_b MM (6 : Int32)) = (0 : Int32)))))))))), .unset, .unset] [])) t → Steps p.tables e below (s₁.setTop (entryFrame m #[(.int p0_0), (.int p0_1)] maxLocals)) t := fun t k => pre663 t (by
    show Steps p.tables e below (T661.setTop (mkF m 83 #[.val (.int p0_0), .val (.int p0_1), .val (.int (7 : Int32)), .val (.int (127 : Int32)), .val (.int MM), .val (.ref b615), .unset, .unset, .unset] [(.int (bI (((own_b MM (0 : Int32)) = (0 : Int32)) ∨ (((own_b MM (1 : Int32)) = (0 : Int32)) ∨ (((own_b MM (2 : Int32)) = (0 : Int32)) ∨ (((own_b MM (3 : Int32)) = (0 : Int32)) ∨ (((own_b MM (4 : Int32)) = (0 : Int32)) ∨ (((own_b MM (5 : Int32)) = (0 : Int32)) ∨ ((own_b MM (6 : Int32)) = (0 : Int32))))))))))])) _
    refine XS.istore X661.here hx rfl (hb hby at_83) rfl (l' := #[.val (.int p0_0), .val (.int p0_1), .val (.int (7 : Int32)), .val (.int (127 : Int32)), .val (.int MM), .val (.ref b615), .val (.int (bI (((own_b MM (0 : Int32)) = (0 : Int32)) ∨ (((own_b MM (1 : Int32)) = (0 : Int32)) ∨ (((own_b MM (2 : Int32)) = (0 : Int32)) ∨ (((own_b MM (3 : Int32)) = (0 : Int32)) ∨ (((own_b MM (4 : Int32)) = (0 : Int32)) ∨ (((own_b MM (5 : Int32)) = (0 : Int32)) ∨ ((own_b MM (6 : Int32)) = (0 : Int32)))))))))), .unset, .unset]) rfl ?_
    exact k)
  obtain ⟨RR, hRR⟩ : ∃ z : Int32, z = (bI (((own_b MM (0 : Int32)) = (0 : Int32)) ∨ (((own_b MM (1 : Int32)) = (0 : Int32)) ∨ (((own_b MM (2 : Int32)) = (0 : Int32)) ∨ (((own_b MM (3 : Int32)) = (0 : Int32)) ∨ (((own_b MM (4 : Int32)) = (0 : Int32)) ∨ (((own_b MM (5 : Int32)) = (0 : Int32)) ∨ ((own_b MM (6 : Int32)) = (0 : Int32))))))))) := ⟨_, rfl⟩
  have pre666 : ∀ t, Steps p.tables e below (T661.setTop (mkF m 85 #[.val (.int p0_0), .val (.int p0_1), .val (.int (7 : Int32)), .val (.int (127 : Int32)), .val (.int MM), .val (.ref b615), .val (.int RR), .unset, .unset] [])) t → Steps p.tables e below (s₁.setTop (entryFrame m #[(.int p0_0), (.int p0_1)] maxLocals)) t := fun t k => pre665 t (castTop (by rw [hRR]) k)
  obtain ⟨G0, hG0⟩ : ∃ z : Int32, z = (bI ((own_b MM (0 : Int32)) = (0 : Int32))) := ⟨_, rfl⟩
  obtain ⟨G1, hG1⟩ : ∃ z : Int32, z = (if (own_b MM (0 : Int32)) = (0 : Int32) then (own_b MM (1 : Int32)) else (bI ((own_b MM (1 : Int32)) = (0 : Int32)))) := ⟨_, rfl⟩
  obtain ⟨G2, hG2⟩ : ∃ z : Int32, z = (if (own_b MM (0 : Int32)) = (0 : Int32) then (own_b MM (2 : Int32)) else (if (own_b MM (1 : Int32)) = (0 : Int32) then (own_b MM (2 : Int32)) else (bI ((own_b MM (2 : Int32)) = (0 : Int32))))) := ⟨_, rfl⟩
  obtain ⟨G3, hG3⟩ : ∃ z : Int32, z = (if (own_b MM (0 : Int32)) = (0 : Int32) then (own_b MM (3 : Int32)) else (if (own_b MM (1 : Int32)) = (0 : Int32) then (own_b MM (3 : Int32)) else (if (own_b MM (2 : Int32)) = (0 : Int32) then (own_b MM (3 : Int32)) else (bI ((own_b MM (3 : Int32)) = (0 : Int32)))))) := ⟨_, rfl⟩
  obtain ⟨G4, hG4⟩ : ∃ z : Int32, z = (if (own_b MM (0 : Int32)) = (0 : Int32) then (own_b MM (4 : Int32)) else (if (own_b MM (1 : Int32)) = (0 : Int32) then (own_b MM (4 : Int32)) else (if (own_b MM (2 : Int32)) = (0 : Int32) then (own_b MM (4 : Int32)) else (if (own_b MM (3 : Int32)) = (0 : Int32) then (own_b MM (4 : Int32)) else (bI ((own_b MM (4 : Int32)) = (0 : Int32))))))) := ⟨_, rfl⟩
  obtain ⟨G5, hG5⟩ : ∃ z : Int32, z = (if (own_b MM (0 : Int32)) = (0 : Int32) then (own_b MM (5 : Int32)) else (if (own_b MM (1 : Int32)) = (0 : Int32) then (own_b MM (5 : Int32)) else (if (own_b MM (2 : Int32)) = (0 : Int32) then (own_b MM (5 : Int32)) else (if (own_b MM (3 : Int32)) = (0 : Int32) then (own_b MM (5 : Int32)) else (if (own_b MM (4 : Int32)) = (0 : Int32) then (own_b MM (5 : Int32)) else (bI ((own_b MM (5 : Int32)) = (0 : Int32)))))))) := ⟨_, rfl⟩
  obtain ⟨G6, hG6⟩ : ∃ z : Int32, z = (if (own_b MM (0 : Int32)) = (0 : Int32) then (own_b MM (6 : Int32)) else (if (own_b MM (1 : Int32)) = (0 : Int32) then (own_b MM (6 : Int32)) else (if (own_b MM (2 : Int32)) = (0 : Int32) then (own_b MM (6 : Int32)) else (if (own_b MM (3 : Int32)) = (0 : Int32) then (own_b MM (6 : Int32)) else (if (own_b MM (4 : Int32)) = (0 : Int32) then (own_b MM (6 : Int32)) else (if (own_b MM (5 : Int32)) = (0 : Int32) then (own_b MM (6 : Int32)) else (bI ((own_b MM (6 : Int32)) = (0 : Int32))))))))) := ⟨_, rfl⟩
  have V667 : Arv Z T661.heap b615 k615 .boolean (7 : Int32) [(.int G0), (.int G1), (.int G2), (.int G3), (.int G4), (.int G5), (.int G6)] (.int (0 : Int32)) := by rw [hG0, hG1, hG2, hG3, hG4, hG5, hG6]; exact r661_0
  have hq669 : (0 : Int32) < (7 : Int32) := by
    decide
  obtain ⟨_, _, ⟨T668, L668, k668, n668⟩, -, X668, ⟨Lc668, hQ668, l668, y668, z668⟩, st668⟩ := Jvm.LawKit.callS X661 hx (y := mn1) hown (mvT hZ (hVV 9 _ rfl)) (mvT hZ (hVV 10 _ rfl)) (mvT hZ (hVV 3 _ rfl)) (mvT hZ (hVV 11 _ rfl)) (by decide) (backOf (W := 0) (rm3_i l Z a0 hw [] b615 (0 : Int32) k615 (7 : Int32) ([(.int G0), (.int G1), (.int G2), (.int G3), (.int G4), (.int G5), (.int G6)]) G0 T661.heap n0 z664 V667 (by decide) (by rfl) hq669) hZ (hVV 11 _ rfl) (hVV 3 _ rfl) (by decide) (by decide)) (g := (mkF m 96 #[.val (.int p0_0), .val (.int p0_1), .val (.int (7 : Int32)), .val (.int (127 : Int32)), .val (.int MM), .val (.ref b615), .val (.int RR), .val (.int ((MM + (1 : Int32)) &&& (127 : Int32))), .unset] [(.int (0 : Int32)), (.ref b615)])) rfl (by rw [hml]; rfl) (argsL := [(.ref b615), (.int (0 : Int32))]) (rest := []) (lenOf pd_2 rfl) rfl (by show 2 * 0 + _ ≤ _; exact Nat.le_of_eq rfl) (hb hby at_96) (fun _ _ => ⟨rfl, rfl, (by decide : 1 + 0 ≤ _), (by decide : 7 + 0 ≤ _)⟩)
  dsimp only [Pt.U, Pt.locs, Pt.cells, Pt.slots] at X668 l668 y668 z668 st668 hQ668
  subst l668 y668 z668
  obtain ⟨rfl, N668q, e668⟩ := hQ668
  have N670 := Fr.app N662 N668q
  have pre671 : ∀ t, Steps p.tables e below (T668.setTop (mkF m 99 #[.val (.int p0_0), .val (.int p0_1), .val (.int (7 : Int32)), .val (.int (127 : Int32)), .val (.int MM), .val (.ref b615), .val (.int RR), .val (.int ((MM + (1 : Int32)) &&& (127 : Int32))), .unset] [(.int (if G0 = (0 : Int32) then (0 : Int32) else ((1 : Int32) <<< ((0 : Int32) &&& 31))))])) t → Steps p.tables e below (s₁.setTop (entryFrame m #[(.int p0_0), (.int p0_1)] maxLocals)) t := fun t k => pre666 t (by
    show Steps p.tables e below (T661.setTop (mkF m 85 #[.val (.int p0_0), .val (.int p0_1), .val (.int (7 : Int32)), .val (.int (127 : Int32)), .val (.int MM), .val (.ref b615), .val (.int RR), .unset, .unset] [])) _
    refine XS.iload X661.here hx rfl (hb hby at_85) rfl ?_
    refine XS.iconst X661.here hx rfl (hb hby at_87) ?_
    refine XS.iadd X661.here hx rfl (hb hby at_88) rfl ?_
    refine XS.iloadN X661.here hx rfl (hb hby at_89) rfl ?_
    refine XS.iand X661.here hx rfl (hb hby at_90) rfl ?_
    show Steps p.tables e below (T661.setTop (mkF m 91 #[.val (.int p0_0), .val (.int p0_1), .val (.int (7 : Int32)), .val (.int (127 : Int32)), .val (.int MM), .val (.ref b615), .val (.int RR), .unset, .unset] [(.int ((MM + (1 : Int32)) &&& (127 : Int32)))])) _
    refine XS.istore X661.here hx rfl (hb hby at_91) rfl (l' := #[.val (.int p0_0), .val (.int p0_1), .val (.int (7 : Int32)), .val (.int (127 : Int32)), .val (.int MM), .val (.ref b615), .val (.int RR), .val (.int ((MM + (1 : Int32)) &&& (127 : Int32))), .unset]) rfl ?_
    show Steps p.tables e below (T661.setTop (mkF m 93 #[.val (.int p0_0), .val (.int p0_1), .val (.int (7 : Int32)), .val (.int (127 : Int32)), .val (.int MM), .val (.ref b615), .val (.int RR), .val (.int ((MM + (1 : Int32)) &&& (127 : Int32))), .unset] [])) _
    refine XS.aload X661.here hx rfl (hb hby at_93) rfl rfl ?_
    refine XS.iconst X661.here hx rfl (hb hby at_95) ?_
    show Steps p.tables e below (T661.setTop (mkF m 96 #[.val (.int p0_0), .val (.int p0_1), .val (.int (7 : Int32)), .val (.int (127 : Int32)), .val (.int MM), .val (.ref b615), .val (.int RR), .val (.int ((MM + (1 : Int32)) &&& (127 : Int32))), .unset] [(.int (0 : Int32)), (.ref b615)])) _
    refine st668 _ ?_
    exact k)
  have hq673 : (1 : Int32) < (7 : Int32) := by
    decide
  obtain ⟨_, _, ⟨T672, L672, k672, n672⟩, -, X672, ⟨Lc672, hQ672, l672, y672, z672⟩, st672⟩ := Jvm.LawKit.callS X668 hx (y := mn1) hown (mvT hZ (hVV 9 _ rfl)) (mvT hZ (hVV 10 _ rfl)) (mvT hZ (hVV 3 _ rfl)) (mvT hZ (hVV 11 _ rfl)) (by decide) (backOf (W := 1) (rm3_i l Z a0 hw [] b615 (1 : Int32) k615 (7 : Int32) ([(.int G0), (.int G1), (.int G2), (.int G3), (.int G4), (.int G5), (.int G6)]) G1 T661.heap n0 z664 V667 (by decide) (by rfl) hq673) hZ (hVV 11 _ rfl) (hVV 3 _ rfl) (by decide) (by decide)) (g := (mkF m 102 #[.val (.int p0_0), .val (.int p0_1), .val (.int (7 : Int32)), .val (.int (127 : Int32)), .val (.int MM), .val (.ref b615), .val (.int RR), .val (.int ((MM + (1 : Int32)) &&& (127 : Int32))), .unset] [(.int (1 : Int32)), (.ref b615), (.int (if G0 = (0 : Int32) then (0 : Int32) else ((1 : Int32) <<< ((0 : Int32) &&& 31))))])) rfl (by rw [hml]; rfl) (argsL := [(.ref b615), (.int (1 : Int32))]) (rest := [(.int (if G0 = (0 : Int32) then (0 : Int32) else ((1 : Int32) <<< ((0 : Int32) &&& 31))))]) (lenOf pd_2 rfl) rfl (by show 2 * 0 + _ ≤ _; exact Nat.le_of_eq rfl) (hb hby at_102) (fun _ _ => ⟨rfl, e668, (by decide : 1 + 0 ≤ _), (by decide : 7 + 0 ≤ _)⟩)
  dsimp only [Pt.U, Pt.locs, Pt.cells, Pt.slots] at X672 l672 y672 z672 st672 hQ672
  subst l672 y672 z672
  obtain ⟨rfl, N672q, e672⟩ := hQ672
  have N674 := Fr.app N670 N672q
  have pre675 : ∀ t, Steps p.tables e below (T672.setTop (mkF m 105 #[.val (.int p0_0), .val (.int p0_1), .val (.int (7 : Int32)), .val (.int (127 : Int32)), .val (.int MM), .val (.ref b615), .val (.int RR), .val (.int ((MM + (1 : Int32)) &&& (127 : Int32))), .unset] [(.int (if G1 = (0 : Int32) then (0 : Int32) else ((1 : Int32) <<< ((1 : Int32) &&& 31)))), (.int (if G0 = (0 : Int32) then (0 : Int32) else ((1 : Int32) <<< ((0 : Int32) &&& 31))))])) t → Steps p.tables e below (s₁.setTop (entryFrame m #[(.int p0_0), (.int p0_1)] maxLocals)) t := fun t k => pre671 t (by
    show Steps p.tables e below (T668.setTop (mkF m 99 #[.val (.int p0_0), .val (.int p0_1), .val (.int (7 : Int32)), .val (.int (127 : Int32)), .val (.int MM), .val (.ref b615), .val (.int RR), .val (.int ((MM + (1 : Int32)) &&& (127 : Int32))), .unset] [(.int (if G0 = (0 : Int32) then (0 : Int32) else ((1 : Int32) <<< ((0 : Int32) &&& 31))))])) _
    refine XS.aload X668.here hx rfl (hb hby at_99) rfl rfl ?_
    refine XS.iconst X668.here hx rfl (hb hby at_101) ?_
    show Steps p.tables e below (T668.setTop (mkF m 102 #[.val (.int p0_0), .val (.int p0_1), .val (.int (7 : Int32)), .val (.int (127 : Int32)), .val (.int MM), .val (.ref b615), .val (.int RR), .val (.int ((MM + (1 : Int32)) &&& (127 : Int32))), .unset] [(.int (1 : Int32)), (.ref b615), (.int (if G0 = (0 : Int32) then (0 : Int32) else ((1 : Int32) <<< ((0 : Int32) &&& 31))))])) _
    refine st672 _ ?_
    exact k)
  have hq677 : (2 : Int32) < (7 : Int32) := by
    decide
  obtain ⟨_, _, ⟨T676, L676, k676, n676⟩, -, X676, ⟨Lc676, hQ676, l676, y676, z676⟩, st676⟩ := Jvm.LawKit.callS X672 hx (y := mn1) hown (mvT hZ (hVV 9 _ rfl)) (mvT hZ (hVV 10 _ rfl)) (mvT hZ (hVV 3 _ rfl)) (mvT hZ (hVV 11 _ rfl)) (by decide) (backOf (W := 1) (rm3_i l Z a0 hw [] b615 (2 : Int32) k615 (7 : Int32) ([(.int G0), (.int G1), (.int G2), (.int G3), (.int G4), (.int G5), (.int G6)]) G2 T661.heap n0 z664 V667 (by decide) (by rfl) hq677) hZ (hVV 11 _ rfl) (hVV 3 _ rfl) (by decide) (by decide)) (g := (mkF m 109 #[.val (.int p0_0), .val (.int p0_1), .val (.int (7 : Int32)), .val (.int (127 : Int32)), .val (.int MM), .val (.ref b615), .val (.int RR), .val (.int ((MM + (1 : Int32)) &&& (127 : Int32))), .unset] [(.int (2 : Int32)), (.ref b615), (.int ((if G0 = (0 : Int32) then (0 : Int32) else ((1 : Int32) <<< ((0 : Int32) &&& 31))) ||| (if G1 = (0 : Int32) then (0 : Int32) else ((1 : Int32) <<< ((1 : Int32) &&& 31)))))])) rfl (by rw [hml]; rfl) (argsL := [(.ref b615), (.int (2 : Int32))]) (rest := [(.int ((if G0 = (0 : Int32) then (0 : Int32) else ((1 : Int32) <<< ((0 : Int32) &&& 31))) ||| (if G1 = (0 : Int32) then (0 : Int32) else ((1 : Int32) <<< ((1 : Int32) &&& 31)))))]) (lenOf pd_2 rfl) rfl (by show 2 * 0 + _ ≤ _; exact Nat.le_of_eq rfl) (hb hby at_109) (fun _ _ => ⟨rfl, e672, (by decide : 1 + 0 ≤ _), (by decide : 7 + 0 ≤ _)⟩)
  dsimp only [Pt.U, Pt.locs, Pt.cells, Pt.slots] at X676 l676 y676 z676 st676 hQ676
  subst l676 y676 z676
  obtain ⟨rfl, N676q, e676⟩ := hQ676
  have N678 := Fr.app N674 N676q
  have pre679 : ∀ t, Steps p.tables e below (T676.setTop (mkF m 112 #[.val (.int p0_0), .val (.int p0_1), .val (.int (7 : Int32)), .val (.int (127 : Int32)), .val (.int MM), .val (.ref b615), .val (.int RR), .val (.int ((MM + (1 : Int32)) &&& (127 : Int32))), .unset] [(.int (if G2 = (0 : Int32) then (0 : Int32) else ((1 : Int32) <<< ((2 : Int32) &&& 31)))), (.int ((if G0 = (0 : Int32) then (0 : Int32) else ((1 : Int32) <<< ((0 : Int32) &&& 31))) ||| (if G1 = (0 : Int32) then (0 : Int32) else ((1 : Int32) <<< ((1 : Int32) &&& 31)))))])) t → Steps p.tables e below (s₁.setTop (entryFrame m #[(.int p0_0), (.int p0_1)] maxLocals)) t := fun t k => pre675 t (by
    show Steps p.tables e below (T672.setTop (mkF m 105 #[.val (.int p0_0), .val (.int p0_1), .val (.int (7 : Int32)), .val (.int (127 : Int32)), .val (.int MM), .val (.ref b615), .val (.int RR), .val (.int ((MM + (1 : Int32)) &&& (127 : Int32))), .unset] [(.int (if G1 = (0 : Int32) then (0 : Int32) else ((1 : Int32) <<< ((1 : Int32) &&& 31)))), (.int (if G0 = (0 : Int32) then (0 : Int32) else ((1 : Int32) <<< ((0 : Int32) &&& 31))))])) _
    refine XS.ior X672.here hx rfl (hb hby at_105) rfl ?_
    refine XS.aload X672.here hx rfl (hb hby at_106) rfl rfl ?_
    refine XS.iconst X672.here hx rfl (hb hby at_108) ?_
    show Steps p.tables e below (T672.setTop (mkF m 109 #[.val (.int p0_0), .val (.int p0_1), .val (.int (7 : Int32)), .val (.int (127 : Int32)), .val (.int MM), .val (.ref b615), .val (.int RR), .val (.int ((MM + (1 : Int32)) &&& (127 : Int32))), .unset] [(.int (2 : Int32)), (.ref b615), (.int ((if G0 = (0 : Int32) then (0 : Int32) else ((1 : Int32) <<< ((0 : Int32) &&& 31))) ||| (if G1 = (0 : Int32) then (0 : Int32) else ((1 : Int32) <<< ((1 : Int32) &&& 31)))))])) _
    refine st676 _ ?_
    exact k)
  have hq681 : (3 : Int32) < (7 : Int32) := by
    decide
  obtain ⟨_, _, ⟨T680, L680, k680, n680⟩, -, X680, ⟨Lc680, hQ680, l680, y680, z680⟩, st680⟩ := Jvm.LawKit.callS X676 hx (y := mn1) hown (mvT hZ (hVV 9 _ rfl)) (mvT hZ (hVV 10 _ rfl)) (mvT hZ (hVV 3 _ rfl)) (mvT hZ (hVV 11 _ rfl)) (by decide) (backOf (W := 1) (rm3_i l Z a0 hw [] b615 (3 : Int32) k615 (7 : Int32) ([(.int G0), (.int G1), (.int G2), (.int G3), (.int G4), (.int G5), (.int G6)]) G3 T661.heap n0 z664 V667 (by decide) (by rfl) hq681) hZ (hVV 11 _ rfl) (hVV 3 _ rfl) (by decide) (by decide)) (g := (mkF m 116 #[.val (.int p0_0), .val (.int p0_1), .val (.int (7 : Int32)), .val (.int (127 : Int32)), .val (.int MM), .val (.ref b615), .val (.int RR), .val (.int ((MM + (1 : Int32)) &&& (127 : Int32))), .unset] [(.int (3 : Int32)), (.ref b615), (.int (((if G0 = (0 : Int32) then (0 : Int32) else ((1 : Int32) <<< ((0 : Int32) &&& 31))) ||| (if G1 = (0 : Int32) then (0 : Int32) else ((1 : Int32) <<< ((1 : Int32) &&& 31)))) ||| (if G2 = (0 : Int32) then (0 : Int32) else ((1 : Int32) <<< ((2 : Int32) &&& 31)))))])) rfl (by rw [hml]; rfl) (argsL := [(.ref b615), (.int (3 : Int32))]) (rest := [(.int (((if G0 = (0 : Int32) then (0 : Int32) else ((1 : Int32) <<< ((0 : Int32) &&& 31))) ||| (if G1 = (0 : Int32) then (0 : Int32) else ((1 : Int32) <<< ((1 : Int32) &&& 31)))) ||| (if G2 = (0 : Int32) then (0 : Int32) else ((1 : Int32) <<< ((2 : Int32) &&& 31)))))]) (lenOf pd_2 rfl) rfl (by show 2 * 0 + _ ≤ _; exact Nat.le_of_eq rfl) (hb hby at_116) (fun _ _ => ⟨rfl, e676, (by decide : 1 + 0 ≤ _), (by decide : 7 + 0 ≤ _)⟩)
  dsimp only [Pt.U, Pt.locs, Pt.cells, Pt.slots] at X680 l680 y680 z680 st680 hQ680
  subst l680 y680 z680
  obtain ⟨rfl, N680q, e680⟩ := hQ680
  have N682 := Fr.app N678 N680q
  have pre683 : ∀ t, Steps p.tables e below (T680.setTop (mkF m 119 #[.val (.int p0_0), .val (.int p0_1), .val (.int (7 : Int32)), .val (.int (127 : Int32)), .val (.int MM), .val (.ref b615), .val (.int RR), .val (.int ((MM + (1 : Int32)) &&& (127 : Int32))), .unset] [(.int (if G3 = (0 : Int32) then (0 : Int32) else ((1 : Int32) <<< ((3 : Int32) &&& 31)))), (.int (((if G0 = (0 : Int32) then (0 : Int32) else ((1 : Int32) <<< ((0 : Int32) &&& 31))) ||| (if G1 = (0 : Int32) then (0 : Int32) else ((1 : Int32) <<< ((1 : Int32) &&& 31)))) ||| (if G2 = (0 : Int32) then (0 : Int32) else ((1 : Int32) <<< ((2 : Int32) &&& 31)))))])) t → Steps p.tables e below (s₁.setTop (entryFrame m #[(.int p0_0), (.int p0_1)] maxLocals)) t := fun t k => pre679 t (by
    show Steps p.tables e below (T676.setTop (mkF m 112 #[.val (.int p0_0), .val (.int p0_1), .val (.int (7 : Int32)), .val (.int (127 : Int32)), .val (.int MM), .val (.ref b615), .val (.int RR), .val (.int ((MM + (1 : Int32)) &&& (127 : Int32))), .unset] [(.int (if G2 = (0 : Int32) then (0 : Int32) else ((1 : Int32) <<< ((2 : Int32) &&& 31)))), (.int ((if G0 = (0 : Int32) then (0 : Int32) else ((1 : Int32) <<< ((0 : Int32) &&& 31))) ||| (if G1 = (0 : Int32) then (0 : Int32) else ((1 : Int32) <<< ((1 : Int32) &&& 31)))))])) _
    refine XS.ior X676.here hx rfl (hb hby at_112) rfl ?_
    refine XS.aload X676.here hx rfl (hb hby at_113) rfl rfl ?_
    refine XS.iconst X676.here hx rfl (hb hby at_115) ?_
    show Steps p.tables e below (T676.setTop (mkF m 116 #[.val (.int p0_0), .val (.int p0_1), .val (.int (7 : Int32)), .val (.int (127 : Int32)), .val (.int MM), .val (.ref b615), .val (.int RR), .val (.int ((MM + (1 : Int32)) &&& (127 : Int32))), .unset] [(.int (3 : Int32)), (.ref b615), (.int (((if G0 = (0 : Int32) then (0 : Int32) else ((1 : Int32) <<< ((0 : Int32) &&& 31))) ||| (if G1 = (0 : Int32) then (0 : Int32) else ((1 : Int32) <<< ((1 : Int32) &&& 31)))) ||| (if G2 = (0 : Int32) then (0 : Int32) else ((1 : Int32) <<< ((2 : Int32) &&& 31)))))])) _
    refine st680 _ ?_
    exact k)
  have hq685 : (4 : Int32) < (7 : Int32) := by
    decide
  obtain ⟨_, _, ⟨T684, L684, k684, n684⟩, -, X684, ⟨Lc684, hQ684, l684, y684, z684⟩, st684⟩ := Jvm.LawKit.callS X680 hx (y := mn1) hown (mvT hZ (hVV 9 _ rfl)) (mvT hZ (hVV 10 _ rfl)) (mvT hZ (hVV 3 _ rfl)) (mvT hZ (hVV 11 _ rfl)) (by decide) (backOf (W := 1) (rm3_i l Z a0 hw [] b615 (4 : Int32) k615 (7 : Int32) ([(.int G0), (.int G1), (.int G2), (.int G3), (.int G4), (.int G5), (.int G6)]) G4 T661.heap n0 z664 V667 (by decide) (by rfl) hq685) hZ (hVV 11 _ rfl) (hVV 3 _ rfl) (by decide) (by decide)) (g := (mkF m 123 #[.val (.int p0_0), .val (.int p0_1), .val (.int (7 : Int32)), .val (.int (127 : Int32)), .val (.int MM), .val (.ref b615), .val (.int RR), .val (.int ((MM + (1 : Int32)) &&& (127 : Int32))), .unset] [(.int (4 : Int32)), (.ref b615), (.int ((((if G0 = (0 : Int32) then (0 : Int32) else ((1 : Int32) <<< ((0 : Int32) &&& 31))) ||| (if G1 = (0 : Int32) then (0 : Int32) else ((1 : Int32) <<< ((1 : Int32) &&& 31)))) ||| (if G2 = (0 : Int32) then (0 : Int32) else ((1 : Int32) <<< ((2 : Int32) &&& 31)))) ||| (if G3 = (0 : Int32) then (0 : Int32) else ((1 : Int32) <<< ((3 : Int32) &&& 31)))))])) rfl (by rw [hml]; rfl) (argsL := [(.ref b615), (.int (4 : Int32))]) (rest := [(.int ((((if G0 = (0 : Int32) then (0 : Int32) else ((1 : Int32) <<< ((0 : Int32) &&& 31))) ||| (if G1 = (0 : Int32) then (0 : Int32) else ((1 : Int32) <<< ((1 : Int32) &&& 31)))) ||| (if G2 = (0 : Int32) then (0 : Int32) else ((1 : Int32) <<< ((2 : Int32) &&& 31)))) ||| (if G3 = (0 : Int32) then (0 : Int32) else ((1 : Int32) <<< ((3 : Int32) &&& 31)))))]) (lenOf pd_2 rfl) rfl (by show 2 * 0 + _ ≤ _; exact Nat.le_of_eq rfl) (hb hby at_123) (fun _ _ => ⟨rfl, e680, (by decide : 1 + 0 ≤ _), (by decide : 7 + 0 ≤ _)⟩)
  dsimp only [Pt.U, Pt.locs, Pt.cells, Pt.slots] at X684 l684 y684 z684 st684 hQ684
  subst l684 y684 z684
  obtain ⟨rfl, N684q, e684⟩ := hQ684
  have N686 := Fr.app N682 N684q
  have pre687 : ∀ t, Steps p.tables e below (T684.setTop (mkF m 126 #[.val (.int p0_0), .val (.int p0_1), .val (.int (7 : Int32)), .val (.int (127 : Int32)), .val (.int MM), .val (.ref b615), .val (.int RR), .val (.int ((MM + (1 : Int32)) &&& (127 : Int32))), .unset] [(.int (if G4 = (0 : Int32) then (0 : Int32) else ((1 : Int32) <<< ((4 : Int32) &&& 31)))), (.int ((((if G0 = (0 : Int32) then (0 : Int32) else ((1 : Int32) <<< ((0 : Int32) &&& 31))) ||| (if G1 = (0 : Int32) then (0 : Int32) else ((1 : Int32) <<< ((1 : Int32) &&& 31)))) ||| (if G2 = (0 : Int32) then (0 : Int32) else ((1 : Int32) <<< ((2 : Int32) &&& 31)))) ||| (if G3 = (0 : Int32) then (0 : Int32) else ((1 : Int32) <<< ((3 : Int32) &&& 31)))))])) t → Steps p.tables e below (s₁.setTop (entryFrame m #[(.int p0_0), (.int p0_1)] maxLocals)) t := fun t k => pre683 t (by
    show Steps p.tables e below (T680.setTop (mkF m 119 #[.val (.int p0_0), .val (.int p0_1), .val (.int (7 : Int32)), .val (.int (127 : Int32)), .val (.int MM), .val (.ref b615), .val (.int RR), .val (.int ((MM + (1 : Int32)) &&& (127 : Int32))), .unset] [(.int (if G3 = (0 : Int32) then (0 : Int32) else ((1 : Int32) <<< ((3 : Int32) &&& 31)))), (.int (((if G0 = (0 : Int32) then (0 : Int32) else ((1 : Int32) <<< ((0 : Int32) &&& 31))) ||| (if G1 = (0 : Int32) then (0 : Int32) else ((1 : Int32) <<< ((1 : Int32) &&& 31)))) ||| (if G2 = (0 : Int32) then (0 : Int32) else ((1 : Int32) <<< ((2 : Int32) &&& 31)))))])) _
    refine XS.ior X680.here hx rfl (hb hby at_119) rfl ?_
    refine XS.aload X680.here hx rfl (hb hby at_120) rfl rfl ?_
    refine XS.iconst X680.here hx rfl (hb hby at_122) ?_
    show Steps p.tables e below (T680.setTop (mkF m 123 #[.val (.int p0_0), .val (.int p0_1), .val (.int (7 : Int32)), .val (.int (127 : Int32)), .val (.int MM), .val (.ref b615), .val (.int RR), .val (.int ((MM + (1 : Int32)) &&& (127 : Int32))), .unset] [(.int (4 : Int32)), (.ref b615), (.int ((((if G0 = (0 : Int32) then (0 : Int32) else ((1 : Int32) <<< ((0 : Int32) &&& 31))) ||| (if G1 = (0 : Int32) then (0 : Int32) else ((1 : Int32) <<< ((1 : Int32) &&& 31)))) ||| (if G2 = (0 : Int32) then (0 : Int32) else ((1 : Int32) <<< ((2 : Int32) &&& 31)))) ||| (if G3 = (0 : Int32) then (0 : Int32) else ((1 : Int32) <<< ((3 : Int32) &&& 31)))))])) _
    refine st684 _ ?_
    exact k)
  have hq689 : (5 : Int32) < (7 : Int32) := by
    decide
  obtain ⟨_, _, ⟨T688, L688, k688, n688⟩, -, X688, ⟨Lc688, hQ688, l688, y688, z688⟩, st688⟩ := Jvm.LawKit.callS X684 hx (y := mn1) hown (mvT hZ (hVV 9 _ rfl)) (mvT hZ (hVV 10 _ rfl)) (mvT hZ (hVV 3 _ rfl)) (mvT hZ (hVV 11 _ rfl)) (by decide) (backOf (W := 1) (rm3_i l Z a0 hw [] b615 (5 : Int32) k615 (7 : Int32) ([(.int G0), (.int G1), (.int G2), (.int G3), (.int G4), (.int G5), (.int G6)]) G5 T661.heap n0 z664 V667 (by decide) (by rfl) hq689) hZ (hVV 11 _ rfl) (hVV 3 _ rfl) (by decide) (by decide)) (g := (mkF m 130 #[.val (.int p0_0), .val (.int p0_1), .val (.int (7 : Int32)), .val (.int (127 : Int32)), .val (.int MM), .val (.ref b615), .val (.int RR), .val (.int ((MM + (1 : Int32)) &&& (127 : Int32))), .unset] [(.int (5 : Int32)), (.ref b615), (.int (((((if G0 = (0 : Int32) then (0 : Int32) else ((1 : Int32) <<< ((0 : Int32) &&& 31))) ||| (if G1 = (0 : Int32) then (0 : Int32) else ((1 : Int32) <<< ((1 : Int32) &&& 31)))) ||| (if G2 = (0 : Int32) then (0 : Int32) else ((1 : Int32) <<< ((2 : Int32) &&& 31)))) ||| (if G3 = (0 : Int32) then (0 : Int32) else ((1 : Int32) <<< ((3 : Int32) &&& 31)))) ||| (if G4 = (0 : Int32) then (0 : Int32) else ((1 : Int32) <<< ((4 : Int32) &&& 31)))))])) rfl (by rw [hml]; rfl) (argsL := [(.ref b615), (.int (5 : Int32))]) (rest := [(.int (((((if G0 = (0 : Int32) then (0 : Int32) else ((1 : Int32) <<< ((0 : Int32) &&& 31))) ||| (if G1 = (0 : Int32) then (0 : Int32) else ((1 : Int32) <<< ((1 : Int32) &&& 31)))) ||| (if G2 = (0 : Int32) then (0 : Int32) else ((1 : Int32) <<< ((2 : Int32) &&& 31)))) ||| (if G3 = (0 : Int32) then (0 : Int32) else ((1 : Int32) <<< ((3 : Int32) &&& 31)))) ||| (if G4 = (0 : Int32) then (0 : Int32) else ((1 : Int32) <<< ((4 : Int32) &&& 31)))))]) (lenOf pd_2 rfl) rfl (by show 2 * 0 + _ ≤ _; exact Nat.le_of_eq rfl) (hb hby at_130) (fun _ _ => ⟨rfl, e684, (by decide : 1 + 0 ≤ _), (by decide : 7 + 0 ≤ _)⟩)
  dsimp only [Pt.U, Pt.locs, Pt.cells, Pt.slots] at X688 l688 y688 z688 st688 hQ688
  subst l688 y688 z688
  obtain ⟨rfl, N688q, e688⟩ := hQ688
  have N690 := Fr.app N686 N688q
  have pre691 : ∀ t, Steps p.tables e below (T688.setTop (mkF m 133 #[.val (.int p0_0), .val (.int p0_1), .val (.int (7 : Int32)), .val (.int (127 : Int32)), .val (.int MM), .val (.ref b615), .val (.int RR), .val (.int ((MM + (1 : Int32)) &&& (127 : Int32))), .unset] [(.int (if G5 = (0 : Int32) then (0 : Int32) else ((1 : Int32) <<< ((5 : Int32) &&& 31)))), (.int (((((if G0 = (0 : Int32) then (0 : Int32) else ((1 : Int32) <<< ((0 : Int32) &&& 31))) ||| (if G1 = (0 : Int32) then (0 : Int32) else ((1 : Int32) <<< ((1 : Int32) &&& 31)))) ||| (if G2 = (0 : Int32) then (0 : Int32) else ((1 : Int32) <<< ((2 : Int32) &&& 31)))) ||| (if G3 = (0 : Int32) then (0 : Int32) else ((1 : Int32) <<< ((3 : Int32) &&& 31)))) ||| (if G4 = (0 : Int32) then (0 : Int32) else ((1 : Int32) <<< ((4 : Int32) &&& 31)))))])) t → Steps p.tables e below (s₁.setTop (entryFrame m #[(.int p0_0), (.int p0_1)] maxLocals)) t := fun t k => pre687 t (by
    show Steps p.tables e below (T684.setTop (mkF m 126 #[.val (.int p0_0), .val (.int p0_1), .val (.int (7 : Int32)), .val (.int (127 : Int32)), .val (.int MM), .val (.ref b615), .val (.int RR), .val (.int ((MM + (1 : Int32)) &&& (127 : Int32))), .unset] [(.int (if G4 = (0 : Int32) then (0 : Int32) else ((1 : Int32) <<< ((4 : Int32) &&& 31)))), (.int ((((if G0 = (0 : Int32) then (0 : Int32) else ((1 : Int32) <<< ((0 : Int32) &&& 31))) ||| (if G1 = (0 : Int32) then (0 : Int32) else ((1 : Int32) <<< ((1 : Int32) &&& 31)))) ||| (if G2 = (0 : Int32) then (0 : Int32) else ((1 : Int32) <<< ((2 : Int32) &&& 31)))) ||| (if G3 = (0 : Int32) then (0 : Int32) else ((1 : Int32) <<< ((3 : Int32) &&& 31)))))])) _
    refine XS.ior X684.here hx rfl (hb hby at_126) rfl ?_
    refine XS.aload X684.here hx rfl (hb hby at_127) rfl rfl ?_
    refine XS.iconst X684.here hx rfl (hb hby at_129) ?_
    show Steps p.tables e below (T684.setTop (mkF m 130 #[.val (.int p0_0), .val (.int p0_1), .val (.int (7 : Int32)), .val (.int (127 : Int32)), .val (.int MM), .val (.ref b615), .val (.int RR), .val (.int ((MM + (1 : Int32)) &&& (127 : Int32))), .unset] [(.int (5 : Int32)), (.ref b615), (.int (((((if G0 = (0 : Int32) then (0 : Int32) else ((1 : Int32) <<< ((0 : Int32) &&& 31))) ||| (if G1 = (0 : Int32) then (0 : Int32) else ((1 : Int32) <<< ((1 : Int32) &&& 31)))) ||| (if G2 = (0 : Int32) then (0 : Int32) else ((1 : Int32) <<< ((2 : Int32) &&& 31)))) ||| (if G3 = (0 : Int32) then (0 : Int32) else ((1 : Int32) <<< ((3 : Int32) &&& 31)))) ||| (if G4 = (0 : Int32) then (0 : Int32) else ((1 : Int32) <<< ((4 : Int32) &&& 31)))))])) _
    refine st688 _ ?_
    exact k)
  have hq693 : (6 : Int32) < (7 : Int32) := by
    decide
  obtain ⟨_, _, ⟨T692, L692, k692, n692⟩, -, X692, ⟨Lc692, hQ692, l692, y692, z692⟩, st692⟩ := Jvm.LawKit.callS X688 hx (y := mn1) hown (mvT hZ (hVV 9 _ rfl)) (mvT hZ (hVV 10 _ rfl)) (mvT hZ (hVV 3 _ rfl)) (mvT hZ (hVV 11 _ rfl)) (by decide) (backOf (W := 1) (rm3_i l Z a0 hw [] b615 (6 : Int32) k615 (7 : Int32) ([(.int G0), (.int G1), (.int G2), (.int G3), (.int G4), (.int G5), (.int G6)]) G6 T661.heap n0 z664 V667 (by decide) (by rfl) hq693) hZ (hVV 11 _ rfl) (hVV 3 _ rfl) (by decide) (by decide)) (g := (mkF m 138 #[.val (.int p0_0), .val (.int p0_1), .val (.int (7 : Int32)), .val (.int (127 : Int32)), .val (.int MM), .val (.ref b615), .val (.int RR), .val (.int ((MM + (1 : Int32)) &&& (127 : Int32))), .unset] [(.int (6 : Int32)), (.ref b615), (.int ((((((if G0 = (0 : Int32) then (0 : Int32) else ((1 : Int32) <<< ((0 : Int32) &&& 31))) ||| (if G1 = (0 : Int32) then (0 : Int32) else ((1 : Int32) <<< ((1 : Int32) &&& 31)))) ||| (if G2 = (0 : Int32) then (0 : Int32) else ((1 : Int32) <<< ((2 : Int32) &&& 31)))) ||| (if G3 = (0 : Int32) then (0 : Int32) else ((1 : Int32) <<< ((3 : Int32) &&& 31)))) ||| (if G4 = (0 : Int32) then (0 : Int32) else ((1 : Int32) <<< ((4 : Int32) &&& 31)))) ||| (if G5 = (0 : Int32) then (0 : Int32) else ((1 : Int32) <<< ((5 : Int32) &&& 31)))))])) rfl (by rw [hml]; rfl) (argsL := [(.ref b615), (.int (6 : Int32))]) (rest := [(.int ((((((if G0 = (0 : Int32) then (0 : Int32) else ((1 : Int32) <<< ((0 : Int32) &&& 31))) ||| (if G1 = (0 : Int32) then (0 : Int32) else ((1 : Int32) <<< ((1 : Int32) &&& 31)))) ||| (if G2 = (0 : Int32) then (0 : Int32) else ((1 : Int32) <<< ((2 : Int32) &&& 31)))) ||| (if G3 = (0 : Int32) then (0 : Int32) else ((1 : Int32) <<< ((3 : Int32) &&& 31)))) ||| (if G4 = (0 : Int32) then (0 : Int32) else ((1 : Int32) <<< ((4 : Int32) &&& 31)))) ||| (if G5 = (0 : Int32) then (0 : Int32) else ((1 : Int32) <<< ((5 : Int32) &&& 31)))))]) (lenOf pd_2 rfl) rfl (by show 2 * 0 + _ ≤ _; exact Nat.le_of_eq rfl) (hb hby at_138) (fun _ _ => ⟨rfl, e688, (by decide : 1 + 0 ≤ _), (by decide : 7 + 0 ≤ _)⟩)
  dsimp only [Pt.U, Pt.locs, Pt.cells, Pt.slots] at X692 l692 y692 z692 st692 hQ692
  subst l692 y692 z692
  obtain ⟨rfl, N692q, e692⟩ := hQ692
  have N694 := Fr.app N690 N692q
  have pre695 : ∀ t, Steps p.tables e below (T692.setTop (mkF m 141 #[.val (.int p0_0), .val (.int p0_1), .val (.int (7 : Int32)), .val (.int (127 : Int32)), .val (.int MM), .val (.ref b615), .val (.int RR), .val (.int ((MM + (1 : Int32)) &&& (127 : Int32))), .unset] [(.int (if G6 = (0 : Int32) then (0 : Int32) else ((1 : Int32) <<< ((6 : Int32) &&& 31)))), (.int ((((((if G0 = (0 : Int32) then (0 : Int32) else ((1 : Int32) <<< ((0 : Int32) &&& 31))) ||| (if G1 = (0 : Int32) then (0 : Int32) else ((1 : Int32) <<< ((1 : Int32) &&& 31)))) ||| (if G2 = (0 : Int32) then (0 : Int32) else ((1 : Int32) <<< ((2 : Int32) &&& 31)))) ||| (if G3 = (0 : Int32) then (0 : Int32) else ((1 : Int32) <<< ((3 : Int32) &&& 31)))) ||| (if G4 = (0 : Int32) then (0 : Int32) else ((1 : Int32) <<< ((4 : Int32) &&& 31)))) ||| (if G5 = (0 : Int32) then (0 : Int32) else ((1 : Int32) <<< ((5 : Int32) &&& 31)))))])) t → Steps p.tables e below (s₁.setTop (entryFrame m #[(.int p0_0), (.int p0_1)] maxLocals)) t := fun t k => pre691 t (by
    show Steps p.tables e below (T688.setTop (mkF m 133 #[.val (.int p0_0), .val (.int p0_1), .val (.int (7 : Int32)), .val (.int (127 : Int32)), .val (.int MM), .val (.ref b615), .val (.int RR), .val (.int ((MM + (1 : Int32)) &&& (127 : Int32))), .unset] [(.int (if G5 = (0 : Int32) then (0 : Int32) else ((1 : Int32) <<< ((5 : Int32) &&& 31)))), (.int (((((if G0 = (0 : Int32) then (0 : Int32) else ((1 : Int32) <<< ((0 : Int32) &&& 31))) ||| (if G1 = (0 : Int32) then (0 : Int32) else ((1 : Int32) <<< ((1 : Int32) &&& 31)))) ||| (if G2 = (0 : Int32) then (0 : Int32) else ((1 : Int32) <<< ((2 : Int32) &&& 31)))) ||| (if G3 = (0 : Int32) then (0 : Int32) else ((1 : Int32) <<< ((3 : Int32) &&& 31)))) ||| (if G4 = (0 : Int32) then (0 : Int32) else ((1 : Int32) <<< ((4 : Int32) &&& 31)))))])) _
    refine XS.ior X688.here hx rfl (hb hby at_133) rfl ?_
    refine XS.aload X688.here hx rfl (hb hby at_134) rfl rfl ?_
    refine XS.bipush X688.here hx rfl (hb hby at_136) ?_
    show Steps p.tables e below (T688.setTop (mkF m 138 #[.val (.int p0_0), .val (.int p0_1), .val (.int (7 : Int32)), .val (.int (127 : Int32)), .val (.int MM), .val (.ref b615), .val (.int RR), .val (.int ((MM + (1 : Int32)) &&& (127 : Int32))), .unset] [(.int (6 : Int32)), (.ref b615), (.int ((((((if G0 = (0 : Int32) then (0 : Int32) else ((1 : Int32) <<< ((0 : Int32) &&& 31))) ||| (if G1 = (0 : Int32) then (0 : Int32) else ((1 : Int32) <<< ((1 : Int32) &&& 31)))) ||| (if G2 = (0 : Int32) then (0 : Int32) else ((1 : Int32) <<< ((2 : Int32) &&& 31)))) ||| (if G3 = (0 : Int32) then (0 : Int32) else ((1 : Int32) <<< ((3 : Int32) &&& 31)))) ||| (if G4 = (0 : Int32) then (0 : Int32) else ((1 : Int32) <<< ((4 : Int32) &&& 31)))) ||| (if G5 = (0 : Int32) then (0 : Int32) else ((1 : Int32) <<< ((5 : Int32) &&& 31)))))])) _
    refine st692 _ ?_
    exact k)
  obtain ⟨cl696, Ar696, q696, S696, N696, H696, G696⟩ := id V667
  have pre698 : ∀ t, Steps p.tables e below (T692.setTop (mkF m 156 #[.val (.int p0_0), .val (.int p0_1), .val (.int (7 : Int32)), .val (.int (127 : Int32)), .val (.int MM), .val (.ref b615), .val (.int RR), .val (.int ((MM + (1 : Int32)) &&& (127 : Int32))), .val (.int (((((((if G0 = (0 : Int32) then (0 : Int32) else ((1 : Int32) <<< ((0 : Int32) &&& 31))) ||| (if G1 = (0 : Int32) then (0 : Int32) else ((1 : Int32) <<< ((1 : Int32) &&& 31)))) ||| (if G2 = (0 : Int32) then (0 : Int32) else ((1 : Int32) <<< ((2 : Int32) &&& 31)))) ||| (if G3 = (0 : Int32) then (0 : Int32) else ((1 : Int32) <<< ((3 : Int32) &&& 31)))) ||| (if G4 = (0 : Int32) then (0 : Int32) else ((1 : Int32) <<< ((4 : Int32) &&& 31)))) ||| (if G5 = (0 : Int32) then (0 : Int32) else ((1 : Int32) <<< ((5 : Int32) &&& 31)))) ||| (if G6 = (0 : Int32) then (0 : Int32) else ((1 : Int32) <<< ((6 : Int32) &&& 31)))))] [(.int (127 : Int32)), (.int MM), (.int RR)])) t → Steps p.tables e below (s₁.setTop (entryFrame m #[(.int p0_0), (.int p0_1)] maxLocals)) t := fun t k => pre695 t (by
    show Steps p.tables e below (T692.setTop (mkF m 141 #[.val (.int p0_0), .val (.int p0_1), .val (.int (7 : Int32)), .val (.int (127 : Int32)), .val (.int MM), .val (.ref b615), .val (.int RR), .val (.int ((MM + (1 : Int32)) &&& (127 : Int32))), .unset] [(.int (if G6 = (0 : Int32) then (0 : Int32) else ((1 : Int32) <<< ((6 : Int32) &&& 31)))), (.int ((((((if G0 = (0 : Int32) then (0 : Int32) else ((1 : Int32) <<< ((0 : Int32) &&& 31))) ||| (if G1 = (0 : Int32) then (0 : Int32) else ((1 : Int32) <<< ((1 : Int32) &&& 31)))) ||| (if G2 = (0 : Int32) then (0 : Int32) else ((1 : Int32) <<< ((2 : Int32) &&& 31)))) ||| (if G3 = (0 : Int32) then (0 : Int32) else ((1 : Int32) <<< ((3 : Int32) &&& 31)))) ||| (if G4 = (0 : Int32) then (0 : Int32) else ((1 : Int32) <<< ((4 : Int32) &&& 31)))) ||| (if G5 = (0 : Int32) then (0 : Int32) else ((1 : Int32) <<< ((5 : Int32) &&& 31)))))])) _
    refine XS.ior X692.here hx rfl (hb hby at_141) rfl ?_
    show Steps p.tables e below (T692.setTop (mkF m 142 #[.val (.int p0_0), .val (.int p0_1), .val (.int (7 : Int32)), .val (.int (127 : Int32)), .val (.int MM), .val (.ref b615), .val (.int RR), .val (.int ((MM + (1 : Int32)) &&& (127 : Int32))), .unset] [(.int (((((((if G0 = (0 : Int32) then (0 : Int32) else ((1 : Int32) <<< ((0 : Int32) &&& 31))) ||| (if G1 = (0 : Int32) then (0 : Int32) else ((1 : Int32) <<< ((1 : Int32) &&& 31)))) ||| (if G2 = (0 : Int32) then (0 : Int32) else ((1 : Int32) <<< ((2 : Int32) &&& 31)))) ||| (if G3 = (0 : Int32) then (0 : Int32) else ((1 : Int32) <<< ((3 : Int32) &&& 31)))) ||| (if G4 = (0 : Int32) then (0 : Int32) else ((1 : Int32) <<< ((4 : Int32) &&& 31)))) ||| (if G5 = (0 : Int32) then (0 : Int32) else ((1 : Int32) <<< ((5 : Int32) &&& 31)))) ||| (if G6 = (0 : Int32) then (0 : Int32) else ((1 : Int32) <<< ((6 : Int32) &&& 31)))))])) _
    refine XS.istore X692.here hx rfl (hb hby at_142) rfl (l' := #[.val (.int p0_0), .val (.int p0_1), .val (.int (7 : Int32)), .val (.int (127 : Int32)), .val (.int MM), .val (.ref b615), .val (.int RR), .val (.int ((MM + (1 : Int32)) &&& (127 : Int32))), .val (.int (((((((if G0 = (0 : Int32) then (0 : Int32) else ((1 : Int32) <<< ((0 : Int32) &&& 31))) ||| (if G1 = (0 : Int32) then (0 : Int32) else ((1 : Int32) <<< ((1 : Int32) &&& 31)))) ||| (if G2 = (0 : Int32) then (0 : Int32) else ((1 : Int32) <<< ((2 : Int32) &&& 31)))) ||| (if G3 = (0 : Int32) then (0 : Int32) else ((1 : Int32) <<< ((3 : Int32) &&& 31)))) ||| (if G4 = (0 : Int32) then (0 : Int32) else ((1 : Int32) <<< ((4 : Int32) &&& 31)))) ||| (if G5 = (0 : Int32) then (0 : Int32) else ((1 : Int32) <<< ((5 : Int32) &&& 31)))) ||| (if G6 = (0 : Int32) then (0 : Int32) else ((1 : Int32) <<< ((6 : Int32) &&& 31)))))]) rfl ?_
    show Steps p.tables e below (T692.setTop (mkF m 144 #[.val (.int p0_0), .val (.int p0_1), .val (.int (7 : Int32)), .val (.int (127 : Int32)), .val (.int MM), .val (.ref b615), .val (.int RR), .val (.int ((MM + (1 : Int32)) &&& (127 : Int32))), .val (.int (((((((if G0 = (0 : Int32) then (0 : Int32) else ((1 : Int32) <<< ((0 : Int32) &&& 31))) ||| (if G1 = (0 : Int32) then (0 : Int32) else ((1 : Int32) <<< ((1 : Int32) &&& 31)))) ||| (if G2 = (0 : Int32) then (0 : Int32) else ((1 : Int32) <<< ((2 : Int32) &&& 31)))) ||| (if G3 = (0 : Int32) then (0 : Int32) else ((1 : Int32) <<< ((3 : Int32) &&& 31)))) ||| (if G4 = (0 : Int32) then (0 : Int32) else ((1 : Int32) <<< ((4 : Int32) &&& 31)))) ||| (if G5 = (0 : Int32) then (0 : Int32) else ((1 : Int32) <<< ((5 : Int32) &&& 31)))) ||| (if G6 = (0 : Int32) then (0 : Int32) else ((1 : Int32) <<< ((6 : Int32) &&& 31)))))] [])) _
    refine XS.aload X692.here hx rfl (hb hby at_144) rfl rfl ?_
    show Steps p.tables e below (T692.setTop (mkF m 146 #[.val (.int p0_0), .val (.int p0_1), .val (.int (7 : Int32)), .val (.int (127 : Int32)), .val (.int MM), .val (.ref b615), .val (.int RR), .val (.int ((MM + (1 : Int32)) &&& (127 : Int32))), .val (.int (((((((if G0 = (0 : Int32) then (0 : Int32) else ((1 : Int32) <<< ((0 : Int32) &&& 31))) ||| (if G1 = (0 : Int32) then (0 : Int32) else ((1 : Int32) <<< ((1 : Int32) &&& 31)))) ||| (if G2 = (0 : Int32) then (0 : Int32) else ((1 : Int32) <<< ((2 : Int32) &&& 31)))) ||| (if G3 = (0 : Int32) then (0 : Int32) else ((1 : Int32) <<< ((3 : Int32) &&& 31)))) ||| (if G4 = (0 : Int32) then (0 : Int32) else ((1 : Int32) <<< ((4 : Int32) &&& 31)))) ||| (if G5 = (0 : Int32) then (0 : Int32) else ((1 : Int32) <<< ((5 : Int32) &&& 31)))) ||| (if G6 = (0 : Int32) then (0 : Int32) else ((1 : Int32) <<< ((6 : Int32) &&& 31)))))] [(.ref b615)])) _
    refine X692.arraylength hx (by rw [e692]; exact Ar696.1) (State.isArrayOf_alike hZ.alike Ar696.2.1) (g := (mkF m 146 #[.val (.int p0_0), .val (.int p0_1), .val (.int (7 : Int32)), .val (.int (127 : Int32)), .val (.int MM), .val (.ref b615), .val (.int RR), .val (.int ((MM + (1 : Int32)) &&& (127 : Int32))), .val (.int (((((((if G0 = (0 : Int32) then (0 : Int32) else ((1 : Int32) <<< ((0 : Int32) &&& 31))) ||| (if G1 = (0 : Int32) then (0 : Int32) else ((1 : Int32) <<< ((1 : Int32) &&& 31)))) ||| (if G2 = (0 : Int32) then (0 : Int32) else ((1 : Int32) <<< ((2 : Int32) &&& 31)))) ||| (if G3 = (0 : Int32) then (0 : Int32) else ((1 : Int32) <<< ((3 : Int32) &&& 31)))) ||| (if G4 = (0 : Int32) then (0 : Int32) else ((1 : Int32) <<< ((4 : Int32) &&& 31)))) ||| (if G5 = (0 : Int32) then (0 : Int32) else ((1 : Int32) <<< ((5 : Int32) &&& 31)))) ||| (if G6 = (0 : Int32) then (0 : Int32) else ((1 : Int32) <<< ((6 : Int32) &&& 31)))))] [(.ref b615)])) rfl rfl (hb hby at_146) _ ?_
    rw [len_of S696 N696]
    show Steps p.tables e below (T692.setTop (mkF m 147 #[.val (.int p0_0), .val (.int p0_1), .val (.int (7 : Int32)), .val (.int (127 : Int32)), .val (.int MM), .val (.ref b615), .val (.int RR), .val (.int ((MM + (1 : Int32)) &&& (127 : Int32))), .val (.int (((((((if G0 = (0 : Int32) then (0 : Int32) else ((1 : Int32) <<< ((0 : Int32) &&& 31))) ||| (if G1 = (0 : Int32) then (0 : Int32) else ((1 : Int32) <<< ((1 : Int32) &&& 31)))) ||| (if G2 = (0 : Int32) then (0 : Int32) else ((1 : Int32) <<< ((2 : Int32) &&& 31)))) ||| (if G3 = (0 : Int32) then (0 : Int32) else ((1 : Int32) <<< ((3 : Int32) &&& 31)))) ||| (if G4 = (0 : Int32) then (0 : Int32) else ((1 : Int32) <<< ((4 : Int32) &&& 31)))) ||| (if G5 = (0 : Int32) then (0 : Int32) else ((1 : Int32) <<< ((5 : Int32) &&& 31)))) ||| (if G6 = (0 : Int32) then (0 : Int32) else ((1 : Int32) <<< ((6 : Int32) &&& 31)))))] [(.int (7 : Int32))])) _
    refine XS.iloadN X692.here hx rfl (hb hby at_147) rfl ?_
    show Steps p.tables e below (T692.setTop (mkF m 148 #[.val (.int p0_0), .val (.int p0_1), .val (.int (7 : Int32)), .val (.int (127 : Int32)), .val (.int MM), .val (.ref b615), .val (.int RR), .val (.int ((MM + (1 : Int32)) &&& (127 : Int32))), .val (.int (((((((if G0 = (0 : Int32) then (0 : Int32) else ((1 : Int32) <<< ((0 : Int32) &&& 31))) ||| (if G1 = (0 : Int32) then (0 : Int32) else ((1 : Int32) <<< ((1 : Int32) &&& 31)))) ||| (if G2 = (0 : Int32) then (0 : Int32) else ((1 : Int32) <<< ((2 : Int32) &&& 31)))) ||| (if G3 = (0 : Int32) then (0 : Int32) else ((1 : Int32) <<< ((3 : Int32) &&& 31)))) ||| (if G4 = (0 : Int32) then (0 : Int32) else ((1 : Int32) <<< ((4 : Int32) &&& 31)))) ||| (if G5 = (0 : Int32) then (0 : Int32) else ((1 : Int32) <<< ((5 : Int32) &&& 31)))) ||| (if G6 = (0 : Int32) then (0 : Int32) else ((1 : Int32) <<< ((6 : Int32) &&& 31)))))] [(.int (7 : Int32)), (.int (7 : Int32))])) _
    refine XS.icmpNo X692.here hx rfl (hb hby at_148) rfl (teq (by decide : (7 : Int32) = (7 : Int32))).2 ?_
    show Steps p.tables e below (T692.setTop (mkF m 151 #[.val (.int p0_0), .val (.int p0_1), .val (.int (7 : Int32)), .val (.int (127 : Int32)), .val (.int MM), .val (.ref b615), .val (.int RR), .val (.int ((MM + (1 : Int32)) &&& (127 : Int32))), .val (.int (((((((if G0 = (0 : Int32) then (0 : Int32) else ((1 : Int32) <<< ((0 : Int32) &&& 31))) ||| (if G1 = (0 : Int32) then (0 : Int32) else ((1 : Int32) <<< ((1 : Int32) &&& 31)))) ||| (if G2 = (0 : Int32) then (0 : Int32) else ((1 : Int32) <<< ((2 : Int32) &&& 31)))) ||| (if G3 = (0 : Int32) then (0 : Int32) else ((1 : Int32) <<< ((3 : Int32) &&& 31)))) ||| (if G4 = (0 : Int32) then (0 : Int32) else ((1 : Int32) <<< ((4 : Int32) &&& 31)))) ||| (if G5 = (0 : Int32) then (0 : Int32) else ((1 : Int32) <<< ((5 : Int32) &&& 31)))) ||| (if G6 = (0 : Int32) then (0 : Int32) else ((1 : Int32) <<< ((6 : Int32) &&& 31)))))] [])) _
    refine XS.iload X692.here hx rfl (hb hby at_151) rfl ?_
    refine XS.iload X692.here hx rfl (hb hby at_153) rfl ?_
    refine XS.iloadN X692.here hx rfl (hb hby at_155) rfl ?_
    exact k)
  have pre699 : ∀ t, Steps p.tables e below (T692.setTop (mkF m 164 #[.val (.int p0_0), .val (.int p0_1), .val (.int (7 : Int32)), .val (.int (127 : Int32)), .val (.int MM), .val (.ref b615), .val (.int RR), .val (.int ((MM + (1 : Int32)) &&& (127 : Int32))), .val (.int (((((((if G0 = (0 : Int32) then (0 : Int32) else ((1 : Int32) <<< ((0 : Int32) &&& 31))) ||| (if G1 = (0 : Int32) then (0 : Int32) else ((1 : Int32) <<< ((1 : Int32) &&& 31)))) ||| (if G2 = (0 : Int32) then (0 : Int32) else ((1 : Int32) <<< ((2 : Int32) &&& 31)))) ||| (if G3 = (0 : Int32) then (0 : Int32) else ((1 : Int32) <<< ((3 : Int32) &&& 31)))) ||| (if G4 = (0 : Int32) then (0 : Int32) else ((1 : Int32) <<< ((4 : Int32) &&& 31)))) ||| (if G5 = (0 : Int32) then (0 : Int32) else ((1 : Int32) <<< ((5 : Int32) &&& 31)))) ||| (if G6 = (0 : Int32) then (0 : Int32) else ((1 : Int32) <<< ((6 : Int32) &&& 31)))))] [(.int (bI (¬ (MM = (127 : Int32))))), (.int RR)])) t → Steps p.tables e below (s₁.setTop (entryFrame m #[(.int p0_0), (.int p0_1)] maxLocals)) t := fun t k => pre698 t (by
    by_cases hc697 : MM = (127 : Int32)
    · show Steps p.tables e below (T692.setTop (mkF m 156 #[.val (.int p0_0), .val (.int p0_1), .val (.int (7 : Int32)), .val (.int (127 : Int32)), .val (.int MM), .val (.ref b615), .val (.int RR), .val (.int ((MM + (1 : Int32)) &&& (127 : Int32))), .val (.int (((((((if G0 = (0 : Int32) then (0 : Int32) else ((1 : Int32) <<< ((0 : Int32) &&& 31))) ||| (if G1 = (0 : Int32) then (0 : Int32) else ((1 : Int32) <<< ((1 : Int32) &&& 31)))) ||| (if G2 = (0 : Int32) then (0 : Int32) else ((1 : Int32) <<< ((2 : Int32) &&& 31)))) ||| (if G3 = (0 : Int32) then (0 : Int32) else ((1 : Int32) <<< ((3 : Int32) &&& 31)))) ||| (if G4 = (0 : Int32) then (0 : Int32) else ((1 : Int32) <<< ((4 : Int32) &&& 31)))) ||| (if G5 = (0 : Int32) then (0 : Int32) else ((1 : Int32) <<< ((5 : Int32) &&& 31)))) ||| (if G6 = (0 : Int32) then (0 : Int32) else ((1 : Int32) <<< ((6 : Int32) &&& 31)))))] [(.int (127 : Int32)), (.int MM), (.int RR)])) _
      refine XS.icmpYes X692.here hx rfl (pc0 := 156) (pc' := 163) rfl (hb hby at_156) rfl (teq hc697).1 (by decide) (by decide) ?_
      show Steps p.tables e below (T692.setTop (mkF m 163 #[.val (.int p0_0), .val (.int p0_1), .val (.int (7 : Int32)), .val (.int (127 : Int32)), .val (.int MM), .val (.ref b615), .val (.int RR), .val (.int ((MM + (1 : Int32)) &&& (127 : Int32))), .val (.int (((((((if G0 = (0 : Int32) then (0 : Int32) else ((1 : Int32) <<< ((0 : Int32) &&& 31))) ||| (if G1 = (0 : Int32) then (0 : Int32) else ((1 : Int32) <<< ((1 : Int32) &&& 31)))) ||| (if G2 = (0 : Int32) then (0 : Int32) else ((1 : Int32) <<< ((2 : Int32) &&& 31)))) ||| (if G3 = (0 : Int32) then (0 : Int32) else ((1 : Int32) <<< ((3 : Int32) &&& 31)))) ||| (if G4 = (0 : Int32) then (0 : Int32) else ((1 : Int32) <<< ((4 : Int32) &&& 31)))) ||| (if G5 = (0 : Int32) then (0 : Int32) else ((1 : Int32) <<< ((5 : Int32) &&& 31)))) ||| (if G6 = (0 : Int32) then (0 : Int32) else ((1 : Int32) <<< ((6 : Int32) &&& 31)))))] [(.int RR)])) _
      refine XS.iconst X692.here hx rfl (hb hby at_163) ?_
      have q700 : (bI (¬ (MM = (127 : Int32)))) = (0 : Int32) := (bI_f (fun q => q hc697))
      exact castTop (g := (mkF m 164 #[.val (.int p0_0), .val (.int p0_1), .val (.int (7 : Int32)), .val (.int (127 : Int32)), .val (.int MM), .val (.ref b615), .val (.int RR), .val (.int ((MM + (1 : Int32)) &&& (127 : Int32))), .val (.int (((((((if G0 = (0 : Int32) then (0 : Int32) else ((1 : Int32) <<< ((0 : Int32) &&& 31))) ||| (if G1 = (0 : Int32) then (0 : Int32) else ((1 : Int32) <<< ((1 : Int32) &&& 31)))) ||| (if G2 = (0 : Int32) then (0 : Int32) else ((1 : Int32) <<< ((2 : Int32) &&& 31)))) ||| (if G3 = (0 : Int32) then (0 : Int32) else ((1 : Int32) <<< ((3 : Int32) &&& 31)))) ||| (if G4 = (0 : Int32) then (0 : Int32) else ((1 : Int32) <<< ((4 : Int32) &&& 31)))) ||| (if G5 = (0 : Int32) then (0 : Int32) else ((1 : Int32) <<< ((5 : Int32) &&& 31)))) ||| (if G6 = (0 : Int32) then (0 : Int32) else ((1 : Int32) <<< ((6 : Int32) &&& 31)))))] [(.int (0 : Int32)), (.int RR)])) (g' := (mkF m 164 #[.val (.int p0_0), .val (.int p0_1), .val (.int (7 : Int32)), .val (.int (127 : Int32)), .val (.int MM), .val (.ref b615), .val (.int RR), .val (.int ((MM + (1 : Int32)) &&& (127 : Int32))), .val (.int (((((((if G0 = (0 : Int32) then (0 : Int32) else ((1 : Int32) <<< ((0 : Int32) &&& 31))) ||| (if G1 = (0 : Int32) then (0 : Int32) else ((1 : Int32) <<< ((1 : Int32) &&& 31)))) ||| (if G2 = (0 : Int32) then (0 : Int32) else ((1 : Int32) <<< ((2 : Int32) &&& 31)))) ||| (if G3 = (0 : Int32) then (0 : Int32) else ((1 : Int32) <<< ((3 : Int32) &&& 31)))) ||| (if G4 = (0 : Int32) then (0 : Int32) else ((1 : Int32) <<< ((4 : Int32) &&& 31)))) ||| (if G5 = (0 : Int32) then (0 : Int32) else ((1 : Int32) <<< ((5 : Int32) &&& 31)))) ||| (if G6 = (0 : Int32) then (0 : Int32) else ((1 : Int32) <<< ((6 : Int32) &&& 31)))))] [(.int (bI (¬ (MM = (127 : Int32))))), (.int RR)])) (by simp only [q700]) k
    · show Steps p.tables e below (T692.setTop (mkF m 156 #[.val (.int p0_0), .val (.int p0_1), .val (.int (7 : Int32)), .val (.int (127 : Int32)), .val (.int MM), .val (.ref b615), .val (.int RR), .val (.int ((MM + (1 : Int32)) &&& (127 : Int32))), .val (.int (((((((if G0 = (0 : Int32) then (0 : Int32) else ((1 : Int32) <<< ((0 : Int32) &&& 31))) ||| (if G1 = (0 : Int32) then (0 : Int32) else ((1 : Int32) <<< ((1 : Int32) &&& 31)))) ||| (if G2 = (0 : Int32) then (0 : Int32) else ((1 : Int32) <<< ((2 : Int32) &&& 31)))) ||| (if G3 = (0 : Int32) then (0 : Int32) else ((1 : Int32) <<< ((3 : Int32) &&& 31)))) ||| (if G4 = (0 : Int32) then (0 : Int32) else ((1 : Int32) <<< ((4 : Int32) &&& 31)))) ||| (if G5 = (0 : Int32) then (0 : Int32) else ((1 : Int32) <<< ((5 : Int32) &&& 31)))) ||| (if G6 = (0 : Int32) then (0 : Int32) else ((1 : Int32) <<< ((6 : Int32) &&& 31)))))] [(.int (127 : Int32)), (.int MM), (.int RR)])) _
      refine XS.icmpNo X692.here hx rfl (hb hby at_156) rfl (feq hc697).1 ?_
      show Steps p.tables e below (T692.setTop (mkF m 159 #[.val (.int p0_0), .val (.int p0_1), .val (.int (7 : Int32)), .val (.int (127 : Int32)), .val (.int MM), .val (.ref b615), .val (.int RR), .val (.int ((MM + (1 : Int32)) &&& (127 : Int32))), .val (.int (((((((if G0 = (0 : Int32) then (0 : Int32) else ((1 : Int32) <<< ((0 : Int32) &&& 31))) ||| (if G1 = (0 : Int32) then (0 : Int32) else ((1 : Int32) <<< ((1 : Int32) &&& 31)))) ||| (if G2 = (0 : Int32) then (0 : Int32) else ((1 : Int32) <<< ((2 : Int32) &&& 31)))) ||| (if G3 = (0 : Int32) then (0 : Int32) else ((1 : Int32) <<< ((3 : Int32) &&& 31)))) ||| (if G4 = (0 : Int32) then (0 : Int32) else ((1 : Int32) <<< ((4 : Int32) &&& 31)))) ||| (if G5 = (0 : Int32) then (0 : Int32) else ((1 : Int32) <<< ((5 : Int32) &&& 31)))) ||| (if G6 = (0 : Int32) then (0 : Int32) else ((1 : Int32) <<< ((6 : Int32) &&& 31)))))] [(.int RR)])) _
      refine XS.iconst X692.here hx rfl (hb hby at_159) ?_
      show Steps p.tables e below (T692.setTop (mkF m 160 #[.val (.int p0_0), .val (.int p0_1), .val (.int (7 : Int32)), .val (.int (127 : Int32)), .val (.int MM), .val (.ref b615), .val (.int RR), .val (.int ((MM + (1 : Int32)) &&& (127 : Int32))), .val (.int (((((((if G0 = (0 : Int32) then (0 : Int32) else ((1 : Int32) <<< ((0 : Int32) &&& 31))) ||| (if G1 = (0 : Int32) then (0 : Int32) else ((1 : Int32) <<< ((1 : Int32) &&& 31)))) ||| (if G2 = (0 : Int32) then (0 : Int32) else ((1 : Int32) <<< ((2 : Int32) &&& 31)))) ||| (if G3 = (0 : Int32) then (0 : Int32) else ((1 : Int32) <<< ((3 : Int32) &&& 31)))) ||| (if G4 = (0 : Int32) then (0 : Int32) else ((1 : Int32) <<< ((4 : Int32) &&& 31)))) ||| (if G5 = (0 : Int32) then (0 : Int32) else ((1 : Int32) <<< ((5 : Int32) &&& 31)))) ||| (if G6 = (0 : Int32) then (0 : Int32) else ((1 : Int32) <<< ((6 : Int32) &&& 31)))))] [(.int (1 : Int32)), (.int RR)])) _
      refine XS.goto X692.here hx rfl (pc0 := 160) (pc' := 164) rfl (hb hby at_160) (by decide) (by decide) ?_
      have q701 : (bI (¬ (MM = (127 : Int32)))) = (1 : Int32) := (bI_t hc697)
      exact castTop (g := (mkF m 164 #[.val (.int p0_0), .val (.int p0_1), .val (.int (7 : Int32)), .val (.int (127 : Int32)), .val (.int MM), .val (.ref b615), .val (.int RR), .val (.int ((MM + (1 : Int32)) &&& (127 : Int32))), .val (.int (((((((if G0 = (0 : Int32) then (0 : Int32) else ((1 : Int32) <<< ((0 : Int32) &&& 31))) ||| (if G1 = (0 : Int32) then (0 : Int32) else ((1 : Int32) <<< ((1 : Int32) &&& 31)))) ||| (if G2 = (0 : Int32) then (0 : Int32) else ((1 : Int32) <<< ((2 : Int32) &&& 31)))) ||| (if G3 = (0 : Int32) then (0 : Int32) else ((1 : Int32) <<< ((3 : Int32) &&& 31)))) ||| (if G4 = (0 : Int32) then (0 : Int32) else ((1 : Int32) <<< ((4 : Int32) &&& 31)))) ||| (if G5 = (0 : Int32) then (0 : Int32) else ((1 : Int32) <<< ((5 : Int32) &&& 31)))) ||| (if G6 = (0 : Int32) then (0 : Int32) else ((1 : Int32) <<< ((6 : Int32) &&& 31)))))] [(.int (1 : Int32)), (.int RR)])) (g' := (mkF m 164 #[.val (.int p0_0), .val (.int p0_1), .val (.int (7 : Int32)), .val (.int (127 : Int32)), .val (.int MM), .val (.ref b615), .val (.int RR), .val (.int ((MM + (1 : Int32)) &&& (127 : Int32))), .val (.int (((((((if G0 = (0 : Int32) then (0 : Int32) else ((1 : Int32) <<< ((0 : Int32) &&& 31))) ||| (if G1 = (0 : Int32) then (0 : Int32) else ((1 : Int32) <<< ((1 : Int32) &&& 31)))) ||| (if G2 = (0 : Int32) then (0 : Int32) else ((1 : Int32) <<< ((2 : Int32) &&& 31)))) ||| (if G3 = (0 : Int32) then (0 : Int32) else ((1 : Int32) <<< ((3 : Int32) &&& 31)))) ||| (if G4 = (0 : Int32) then (0 : Int32) else ((1 : Int32) <<< ((4 : Int32) &&& 31)))) ||| (if G5 = (0 : Int32) then (0 : Int32) else ((1 : Int32) <<< ((5 : Int32) &&& 31)))) ||| (if G6 = (0 : Int32) then (0 : Int32) else ((1 : Int32) <<< ((6 : Int32) &&& 31)))))] [(.int (bI (¬ (MM = (127 : Int32))))), (.int RR)])) (by simp only [q701]) k)
  have hd702 : RR = (bI (¬ (MM = (127 : Int32)))) := by
    rw [hRR]
    exact own_fin (P := fun y : Int32 => (bI (((own_b y (0 : Int32)) = (0 : Int32)) ∨ (((own_b y (1 : Int32)) = (0 : Int32)) ∨ (((own_b y (2 : Int32)) = (0 : Int32)) ∨ (((own_b y (3 : Int32)) = (0 : Int32)) ∨ (((own_b y (4 : Int32)) = (0 : Int32)) ∨ (((own_b y (5 : Int32)) = (0 : Int32)) ∨ ((own_b y (6 : Int32)) = (0 : Int32))))))))) = (bI (¬ (y = (127 : Int32))))) own_r_7 MM hM.1 hM.2
  have hd703 : (((((((if G0 = (0 : Int32) then (0 : Int32) else ((1 : Int32) <<< ((0 : Int32) &&& 31))) ||| (if G1 = (0 : Int32) then (0 : Int32) else ((1 : Int32) <<< ((1 : Int32) &&& 31)))) ||| (if G2 = (0 : Int32) then (0 : Int32) else ((1 : Int32) <<< ((2 : Int32) &&& 31)))) ||| (if G3 = (0 : Int32) then (0 : Int32) else ((1 : Int32) <<< ((3 : Int32) &&& 31)))) ||| (if G4 = (0 : Int32) then (0 : Int32) else ((1 : Int32) <<< ((4 : Int32) &&& 31)))) ||| (if G5 = (0 : Int32) then (0 : Int32) else ((1 : Int32) <<< ((5 : Int32) &&& 31)))) ||| (if G6 = (0 : Int32) then (0 : Int32) else ((1 : Int32) <<< ((6 : Int32) &&& 31)))) = ((MM + (1 : Int32)) &&& (127 : Int32)) := by
    rw [hG0, hG1, hG2, hG3, hG4, hG5, hG6]
    exact own_fin (P := fun y : Int32 => (((((((if (bI ((own_b y (0 : Int32)) = (0 : Int32))) = (0 : Int32) then (0 : Int32) else ((1 : Int32) <<< ((0 : Int32) &&& 31))) ||| (if (if (own_b y (0 : Int32)) = (0 : Int32) then (own_b y (1 : Int32)) else (bI ((own_b y (1 : Int32)) = (0 : Int32)))) = (0 : Int32) then (0 : Int32) else ((1 : Int32) <<< ((1 : Int32) &&& 31)))) ||| (if (if (own_b y (0 : Int32)) = (0 : Int32) then (own_b y (2 : Int32)) else (if (own_b y (1 : Int32)) = (0 : Int32) then (own_b y (2 : Int32)) else (bI ((own_b y (2 : Int32)) = (0 : Int32))))) = (0 : Int32) then (0 : Int32) else ((1 : Int32) <<< ((2 : Int32) &&& 31)))) ||| (if (if (own_b y (0 : Int32)) = (0 : Int32) then (own_b y (3 : Int32)) else (if (own_b y (1 : Int32)) = (0 : Int32) then (own_b y (3 : Int32)) else (if (own_b y (2 : Int32)) = (0 : Int32) then (own_b y (3 : Int32)) else (bI ((own_b y (3 : Int32)) = (0 : Int32)))))) = (0 : Int32) then (0 : Int32) else ((1 : Int32) <<< ((3 : Int32) &&& 31)))) ||| (if (if (own_b y (0 : Int32)) = (0 : Int32) then (own_b y (4 : Int32)) else (if (own_b y (1 : Int32)) = (0 : Int32) then (own_b y (4 : Int32)) else (if (own_b y (2 : Int32)) = (0 : Int32) then (own_b y (4 : Int32)) else (if (own_b y (3 : Int32)) = (0 : Int32) then (own_b y (4 : Int32)) else (bI ((own_b y (4 : Int32)) = (0 : Int32))))))) = (0 : Int32) then (0 : Int32) else ((1 : Int32) <<< ((4 : Int32) &&& 31)))) ||| (if (if (own_b y (0 : Int32)) = (0 : Int32) then (own_b y (5 : Int32)) else (if (own_b y (1 : Int32)) = (0 : Int32) then (own_b y (5 : Int32)) else (if (own_b y (2 : Int32)) = (0 : Int32) then (own_b y (5 : Int32)) else (if (own_b y (3 : Int32)) = (0 : Int32) then (own_b y (5 : Int32)) else (if (own_b y (4 : Int32)) = (0 : Int32) then (own_b y (5 : Int32)) else (bI ((own_b y (5 : Int32)) = (0 : Int32)))))))) = (0 : Int32) then (0 : Int32) else ((1 : Int32) <<< ((5 : Int32) &&& 31)))) ||| (if (if (own_b y (0 : Int32)) = (0 : Int32) then (own_b y (6 : Int32)) else (if (own_b y (1 : Int32)) = (0 : Int32) then (own_b y (6 : Int32)) else (if (own_b y (2 : Int32)) = (0 : Int32) then (own_b y (6 : Int32)) else (if (own_b y (3 : Int32)) = (0 : Int32) then (own_b y (6 : Int32)) else (if (own_b y (4 : Int32)) = (0 : Int32) then (own_b y (6 : Int32)) else (if (own_b y (5 : Int32)) = (0 : Int32) then (own_b y (6 : Int32)) else (bI ((own_b y (6 : Int32)) = (0 : Int32))))))))) = (0 : Int32) then (0 : Int32) else ((1 : Int32) <<< ((6 : Int32) &&& 31)))) = ((y + (1 : Int32)) &&& (127 : Int32))) own_g_7 MM hM.1 hM.2
  obtain ⟨fs, hr, hrun, hended, hW, hsame⟩ := X692.leave (v := some (.int (1 : Int32))) (fun h => by rw [Bd.returns] at h; cases h)
  refine ⟨_, _, pre699 _ ?_, hrun, hended, _, _, rfl, ?_, ⟨_, rfl⟩, hW, hsame.mono (by decide) (by decide)⟩
  · show Steps p.tables e below (T692.setTop (mkF m 164 #[.val (.int p0_0), .val (.int p0_1), .val (.int (7 : Int32)), .val (.int (127 : Int32)), .val (.int MM), .val (.ref b615), .val (.int RR), .val (.int ((MM + (1 : Int32)) &&& (127 : Int32))), .val (.int (((((((if G0 = (0 : Int32) then (0 : Int32) else ((1 : Int32) <<< ((0 : Int32) &&& 31))) ||| (if G1 = (0 : Int32) then (0 : Int32) else ((1 : Int32) <<< ((1 : Int32) &&& 31)))) ||| (if G2 = (0 : Int32) then (0 : Int32) else ((1 : Int32) <<< ((2 : Int32) &&& 31)))) ||| (if G3 = (0 : Int32) then (0 : Int32) else ((1 : Int32) <<< ((3 : Int32) &&& 31)))) ||| (if G4 = (0 : Int32) then (0 : Int32) else ((1 : Int32) <<< ((4 : Int32) &&& 31)))) ||| (if G5 = (0 : Int32) then (0 : Int32) else ((1 : Int32) <<< ((5 : Int32) &&& 31)))) ||| (if G6 = (0 : Int32) then (0 : Int32) else ((1 : Int32) <<< ((6 : Int32) &&& 31)))))] [(.int (bI (¬ (MM = (127 : Int32))))), (.int RR)])) _
    refine XS.icmpNo X692.here hx rfl (hb hby at_164) rfl (teq hd702).2 ?_
    show Steps p.tables e below (T692.setTop (mkF m 167 #[.val (.int p0_0), .val (.int p0_1), .val (.int (7 : Int32)), .val (.int (127 : Int32)), .val (.int MM), .val (.ref b615), .val (.int RR), .val (.int ((MM + (1 : Int32)) &&& (127 : Int32))), .val (.int (((((((if G0 = (0 : Int32) then (0 : Int32) else ((1 : Int32) <<< ((0 : Int32) &&& 31))) ||| (if G1 = (0 : Int32) then (0 : Int32) else ((1 : Int32) <<< ((1 : Int32) &&& 31)))) ||| (if G2 = (0 : Int32) then (0 : Int32) else ((1 : Int32) <<< ((2 : Int32) &&& 31)))) ||| (if G3 = (0 : Int32) then (0 : Int32) else ((1 : Int32) <<< ((3 : Int32) &&& 31)))) ||| (if G4 = (0 : Int32) then (0 : Int32) else ((1 : Int32) <<< ((4 : Int32) &&& 31)))) ||| (if G5 = (0 : Int32) then (0 : Int32) else ((1 : Int32) <<< ((5 : Int32) &&& 31)))) ||| (if G6 = (0 : Int32) then (0 : Int32) else ((1 : Int32) <<< ((6 : Int32) &&& 31)))))] [])) _
    refine XS.iload X692.here hx rfl (hb hby at_167) rfl ?_
    refine XS.iload X692.here hx rfl (hb hby at_169) rfl ?_
    show Steps p.tables e below (T692.setTop (mkF m 171 #[.val (.int p0_0), .val (.int p0_1), .val (.int (7 : Int32)), .val (.int (127 : Int32)), .val (.int MM), .val (.ref b615), .val (.int RR), .val (.int ((MM + (1 : Int32)) &&& (127 : Int32))), .val (.int (((((((if G0 = (0 : Int32) then (0 : Int32) else ((1 : Int32) <<< ((0 : Int32) &&& 31))) ||| (if G1 = (0 : Int32) then (0 : Int32) else ((1 : Int32) <<< ((1 : Int32) &&& 31)))) ||| (if G2 = (0 : Int32) then (0 : Int32) else ((1 : Int32) <<< ((2 : Int32) &&& 31)))) ||| (if G3 = (0 : Int32) then (0 : Int32) else ((1 : Int32) <<< ((3 : Int32) &&& 31)))) ||| (if G4 = (0 : Int32) then (0 : Int32) else ((1 : Int32) <<< ((4 : Int32) &&& 31)))) ||| (if G5 = (0 : Int32) then (0 : Int32) else ((1 : Int32) <<< ((5 : Int32) &&& 31)))) ||| (if G6 = (0 : Int32) then (0 : Int32) else ((1 : Int32) <<< ((6 : Int32) &&& 31)))))] [(.int ((MM + (1 : Int32)) &&& (127 : Int32))), (.int (((((((if G0 = (0 : Int32) then (0 : Int32) else ((1 : Int32) <<< ((0 : Int32) &&& 31))) ||| (if G1 = (0 : Int32) then (0 : Int32) else ((1 : Int32) <<< ((1 : Int32) &&& 31)))) ||| (if G2 = (0 : Int32) then (0 : Int32) else ((1 : Int32) <<< ((2 : Int32) &&& 31)))) ||| (if G3 = (0 : Int32) then (0 : Int32) else ((1 : Int32) <<< ((3 : Int32) &&& 31)))) ||| (if G4 = (0 : Int32) then (0 : Int32) else ((1 : Int32) <<< ((4 : Int32) &&& 31)))) ||| (if G5 = (0 : Int32) then (0 : Int32) else ((1 : Int32) <<< ((5 : Int32) &&& 31)))) ||| (if G6 = (0 : Int32) then (0 : Int32) else ((1 : Int32) <<< ((6 : Int32) &&& 31)))))])) _
    refine XS.icmpNo X692.here hx rfl (hb hby at_171) rfl (teq hd703).2 ?_
    show Steps p.tables e below (T692.setTop (mkF m 174 #[.val (.int p0_0), .val (.int p0_1), .val (.int (7 : Int32)), .val (.int (127 : Int32)), .val (.int MM), .val (.ref b615), .val (.int RR), .val (.int ((MM + (1 : Int32)) &&& (127 : Int32))), .val (.int (((((((if G0 = (0 : Int32) then (0 : Int32) else ((1 : Int32) <<< ((0 : Int32) &&& 31))) ||| (if G1 = (0 : Int32) then (0 : Int32) else ((1 : Int32) <<< ((1 : Int32) &&& 31)))) ||| (if G2 = (0 : Int32) then (0 : Int32) else ((1 : Int32) <<< ((2 : Int32) &&& 31)))) ||| (if G3 = (0 : Int32) then (0 : Int32) else ((1 : Int32) <<< ((3 : Int32) &&& 31)))) ||| (if G4 = (0 : Int32) then (0 : Int32) else ((1 : Int32) <<< ((4 : Int32) &&& 31)))) ||| (if G5 = (0 : Int32) then (0 : Int32) else ((1 : Int32) <<< ((5 : Int32) &&& 31)))) ||| (if G6 = (0 : Int32) then (0 : Int32) else ((1 : Int32) <<< ((6 : Int32) &&& 31)))))] [])) _
    refine XS.iconst X692.here hx rfl (hb hby at_174) ?_
    refine XS.goto X692.here hx rfl (pc0 := 175) (pc' := 179) rfl (hb hby at_175) (by decide) (by decide) ?_
    show Steps p.tables e below (T692.setTop (mkF m 179 #[.val (.int p0_0), .val (.int p0_1), .val (.int (7 : Int32)), .val (.int (127 : Int32)), .val (.int MM), .val (.ref b615), .val (.int RR), .val (.int ((MM + (1 : Int32)) &&& (127 : Int32))), .val (.int (((((((if G0 = (0 : Int32) then (0 : Int32) else ((1 : Int32) <<< ((0 : Int32) &&& 31))) ||| (if G1 = (0 : Int32) then (0 : Int32) else ((1 : Int32) <<< ((1 : Int32) &&& 31)))) ||| (if G2 = (0 : Int32) then (0 : Int32) else ((1 : Int32) <<< ((2 : Int32) &&& 31)))) ||| (if G3 = (0 : Int32) then (0 : Int32) else ((1 : Int32) <<< ((3 : Int32) &&& 31)))) ||| (if G4 = (0 : Int32) then (0 : Int32) else ((1 : Int32) <<< ((4 : Int32) &&& 31)))) ||| (if G5 = (0 : Int32) then (0 : Int32) else ((1 : Int32) <<< ((5 : Int32) &&& 31)))) ||| (if G6 = (0 : Int32) then (0 : Int32) else ((1 : Int32) <<< ((6 : Int32) &&& 31)))))] [(.int (1 : Int32))])) _
    exact retN X692 hx (t := .boolean) Bd.returns (by simp) (hb hby at_179) hr
  · show Q0 Z p0_0 p0_1 h0 n0 _ T692.heap _
    rw [e692]
    exact ⟨rfl, N694⟩
set_option maxRecDepth 65536 in
set_option maxHeartbeats 40000000 in
theorem comes_1 {Post : Tables → Env → Array Value → State → Outcome → State → Prop} (hpost : ∀ tb e args s v u, (limb_1_1.after args s (.returned v) u = true ∧ limb_1_2.after args s (.returned v) u = true ∧ True) → FrameEnd s (.returned v) u (Jvm.fieldLocs frame_1_writes args s ++ Jvm.arrayLocs frame_1_arrays args s ++ Jvm.staticLocs frame_1_statics s) 16 128 → Post tb e args s (.returned v) u) :
    ArmFor flags0 classFile x code maxLocals ret World_1 tables_1 room_1 Calls_1 rest_1 Pre_1 Post := by
  intro l hfl _ _ p e ha hc hk s m args below hf hA hF happ hP
  obtain ⟨hcalls, hrest, hpre⟩ := hP
  obtain ⟨-, -, -, hnamed, -, -, -, hat⟩ := (Spec.applies_iff hf).mp happ
  obtain ⟨hg, hn⟩ := and_e (Cond.before_iff.mp (show (Jvm.Cond.and given_1 narrow_1).before args s = true from hpre))
  obtain ⟨g1, g2⟩ := and_e hg
  obtain ⟨g3, g4⟩ := and_e g2
  obtain ⟨w0, w1, rfl⟩ : ∃ w0 w1 : Value, args = #[w0, w1] := by
    have hs : args.size = 2 := by simpa [Cond.value, given_1] using g1
    obtain ⟨L⟩ := args
    match L, hs with
    | [w0, w1], _ => exact ⟨w0, w1, rfl⟩
  have hw := fun d (hd : d ∈ tables_1) => atoms_spec (ws := Jvm.Cond.code x code maxLocals ret :: tables_1) hat d (List.mem_cons_of_mem _ hd)
  have hfit : Fit s := fun {y c} hc i hi => by
    obtain ⟨ha, rfl⟩ := Array.getElem?_eq_some_iff.mp hc
    have q := List.all_eq_true.mp ((Array.all_eq_true_iff_forall_mem.mp hF) _ (Array.getElem_mem ha)) i (List.mem_range.mpr hi)
    simpa [Array.getElem?_eq_getElem hi] using q
  obtain ⟨i0, ei0⟩ := is_v g3
  obtain rfl : w0 = (.int i0) := Option.some.inj ei0
  obtain ⟨i1, ei1⟩ := is_v g4
  obtain rfl : w1 = (.int i1) := Option.some.inj ei1
  obtain ⟨n, o, h1, h2, h3, _, L, rfl, ⟨rfl, N⟩, hq⟩ := rm0 l s _ hw tables_1 i0 i1 s.heap s.heap.size (Nat.le_refl _)  p e ha hc hk s m _ below hf ((Spec.applies_iff_loose hf).mp happ).1 ⟨rfl, State.Warmed39.refl s, rfl⟩ trivial
  refine ⟨n, _, h1, h2, h3, hpost _ _ _ _ _ _ ⟨Cond.after_iff.mpr rfl, Cond.after_iff.mpr (eq_i res_at (Term.int_eval (1)) rfl), trivial⟩ ⟨hq.1, hq.2.1, (hq.2.2.sift fun y hy => Or.inr (N y hy)).mono (by decide) (by decide)⟩⟩
theorem main_1_1 : Claimed_1_1 := comes_1 fun _ _ _ _ _ _ h hF => ⟨h.1, hF⟩
theorem main_1_2 : Claimed_1_2 := comes_1 fun _ _ _ _ _ _ h hF => ⟨h.2.1, hF⟩
end Jvm.Pilot.@@N@@
namespace Jvm.Pilot.@@N@@
open Jvm Jvm.ClassFile Sem Op Lib Jvm.Free Jvm.Stand Jvm.Pilot.@@N@@.Jvm.D
/-! MADE BY PROGRAM (witnessworld.py) out of the Statement's table words and the real class files: 11 classes; the members and pool entries that the words name. The judged class is class 1, her method 1. -/
namespace start1
open Jvm.ClassFile
def u (s : String) : CpInfo := .utf8 (stringToUtf16 s)
/-- a pool by its gaps: so many unusable entries, then the entry; so many at the end -/
def gap : Nat → List CpInfo → List CpInfo
  | 0, r => r
  | n + 1, r => .unusable :: gap n r
def poolList (es : List (Nat × CpInfo)) (last : Nat) : List CpInfo := es.foldr (fun e r => gap e.1 (e.2 :: r)) (gap last [])
def pool (es : List (Nat × CpInfo)) (last : Nat) : Array CpInfo := ⟨poolList es last⟩
def fileOf (pool : Array CpInfo) (this : Nat) (attrs : Array Attribute := #[]) (ms : Array MethodInfo := #[]) (fl : Nat := 33) (sup : Nat := 0) (ifs : Array Nat := #[]) (fds : Array FieldInfo := #[]) : ClassFile where
  minorVersion := 0
  majorVersion := 65
  constantPool := pool
  accessFlags := fl
  thisClass := this
  superClass := sup
  interfaces := ifs
  fields := fds
  methods := ms
  attributes := attrs
def plain (name : String) (sup : Option ClassId) : Class where
  name := name
  kind := .ordinary
  loader := none
  accessFlags := 33
  super := sup
  interfaces := #[]
  cf := none
  fields := #[]
  methods := #[]
  instanceTypes := #[]
  staticTypes := #[]
  resolved := #[]
  callSites := []
  init := .initialized
  statics := none
  mirror := none

def pool0 : Array CpInfo := pool [(5, u "<init>"), (0, u "()V"), (1, .class_ 10), (1, u "java/lang/Object")] 113

def k0m0 : Method := { name := "<init>", desc := "()V", sig := { parameters := [], returnType := none }, accessFlags := 1, code := none }
/-- java/lang/Object -/
def k0 : Class := { plain "java/lang/Object" none with
  accessFlags := 33
  interfaces := #[]
  cf := some (fileOf pool0 8 #[] #[{ accessFlags := 1, nameIndex := 5, descriptorIndex := 6, attributes := #[] }] 33 0 #[] #[])
  fields := #[]
  methods := #[k0m0]
  instanceTypes := #[]
  staticTypes := #[]
  resolved := Array.replicate 124 none
  statics := none }

def pool1 : Array CpInfo := pool [(2, .class_ 4), (1, u "java/lang/Object"), (0, u "<init>"), (0, u "()V"), (0, .methodref 8 9), (0, .class_ 10), (0, .nameAndType 11 12), (0, u "com/example/regista/regista/ValuationsNextPinLaw"), (0, u "set"), (0, u "([ZII)V"), (0, .methodref 14 15), (0, .class_ 16), (0, .nameAndType 17 18), (0, u "com/example/regista/regista/Valuations"), (0, u "next"), (0, u "([Z)Z"), (0, .methodref 8 20), (0, .nameAndType 21 22), (0, u "bit"), (0, u "([ZI)I"), (2, u "law"), (0, u "(II)Z")] 5

def k1m0 : Method := { name := "<init>", desc := "()V", sig := { parameters := [], returnType := none }, accessFlags := 2, code := none }
def k1c1 : Code := { maxStack := 3, maxLocals := 9, code := code, exceptionTable := #[], attributes := #[] }
def k1m1 : Method := { name := "law", desc := "(II)Z", sig := { parameters := [.int, .int], returnType := some .boolean }, accessFlags := 9, code := some k1c1 }
def k1c2 : Code := { maxStack := 4, maxLocals := 3, code := method_3_code, exceptionTable := #[], attributes := #[] }
def k1m2 : Method := { name := "set", desc := "([ZII)V", sig := { parameters := [(.array .boolean), .int, .int], returnType := none }, accessFlags := 10, code := some k1c2 }
def k1c3 : Code := { maxStack := 2, maxLocals := 2, code := method_4_code, exceptionTable := #[], attributes := #[] }
def k1m3 : Method := { name := "bit", desc := "([ZI)I", sig := { parameters := [(.array .boolean), .int], returnType := some .int }, accessFlags := 10, code := some k1c3 }
/-- com/example/regista/regista/ValuationsNextPinLaw -/
def k1 : Class := { plain "com/example/regista/regista/ValuationsNextPinLaw" (some 0) with
  accessFlags := 49
  interfaces := #[]
  cf := some (fileOf pool1 8 #[] #[{ accessFlags := 2, nameIndex := 5, descriptorIndex := 6, attributes := #[] }, { accessFlags := 9, nameIndex := 25, descriptorIndex := 26, attributes := #[] }, { accessFlags := 10, nameIndex := 11, descriptorIndex := 12, attributes := #[] }, { accessFlags := 10, nameIndex := 21, descriptorIndex := 22, attributes := #[] }] 49 2 #[] #[])
  fields := #[]
  methods := #[k1m0, k1m1, k1m2, k1m3]
  instanceTypes := #[]
  staticTypes := #[]
  resolved := Array.replicate 32 none
  statics := none }

def pool2 : Array CpInfo := pool [(2, .class_ 4), (1, u "java/lang/Object"), (0, u "<init>"), (0, u "()V"), (21, .class_ 29), (0, u "com/example/regista/regista/Valuations"), (2, u "next"), (0, u "([Z)Z")] 11

def k2m0 : Method := { name := "<init>", desc := "()V", sig := { parameters := [], returnType := none }, accessFlags := 2, code := none }
def k2c1 : Code := { maxStack := 4, maxLocals := 2, code := prog_101_method_2_code, exceptionTable := #[], attributes := #[] }
def k2m1 : Method := { name := "next", desc := "([Z)Z", sig := { parameters := [(.array .boolean)], returnType := some .boolean }, accessFlags := 8, code := some k2c1 }
/-- com/example/regista/regista/Valuations -/
def k2 : Class := { plain "com/example/regista/regista/Valuations" (some 0) with
  accessFlags := 32
  interfaces := #[]
  cf := some (fileOf pool2 28 #[] #[{ accessFlags := 2, nameIndex := 5, descriptorIndex := 6, attributes := #[] }, { accessFlags := 8, nameIndex := 32, descriptorIndex := 33, attributes := #[] }] 32 2 #[] #[])
  fields := #[]
  methods := #[k2m0, k2m1]
  instanceTypes := #[]
  staticTypes := #[]
  resolved := Array.replicate 45 none
  statics := none }

def pool3 : Array CpInfo := pool [(1, u "java/lang/Cloneable"), (0, .class_ 1), (0, u "java/lang/Object"), (0, .class_ 3)] 3

/-- java/lang/Cloneable -/
def k3 : Class := { plain "java/lang/Cloneable" (some 0) with
  accessFlags := 1537
  interfaces := #[]
  cf := some (fileOf pool3 2 #[] #[] 1537 4 #[] #[])
  fields := #[]
  methods := #[]
  instanceTypes := #[]
  staticTypes := #[]
  resolved := Array.replicate 8 none
  statics := none }

def pool4 : Array CpInfo := pool [(1, u "java/io/Serializable"), (0, .class_ 1), (0, u "java/lang/Object"), (0, .class_ 3)] 3

/-- java/io/Serializable -/
def k4 : Class := { plain "java/io/Serializable" (some 0) with
  accessFlags := 1537
  interfaces := #[]
  cf := some (fileOf pool4 2 #[] #[] 1537 4 #[] #[])
  fields := #[]
  methods := #[]
  instanceTypes := #[]
  staticTypes := #[]
  resolved := Array.replicate 8 none
  statics := none }

/-- the primitive boolean -/
def k5 : Class := { plain "boolean" none with kind := .primitive 'Z', accessFlags := 0x411 }
/-- [Z -/
def k6 : Class := { plain "[Z" (some 0) with kind := .array 5 .boolean, interfaces := #[3, 4], accessFlags := 1041 }

/-- the primitive byte -/
def k7 : Class := { plain "byte" none with kind := .primitive 'B', accessFlags := 0x411 }
/-- [B -/
def k8 : Class := { plain "[B" (some 0) with kind := .array 7 .byte, interfaces := #[3, 4], accessFlags := 1041 }

/-- the primitive int -/
def k9 : Class := { plain "int" none with kind := .primitive 'I', accessFlags := 0x411 }
/-- [I -/
def k10 : Class := { plain "[I" (some 0) with kind := .array 9 .int, interfaces := #[3, 4], accessFlags := 1041 }

def heap : Heap := #[]
def classes : Array Class := #[k0, k1, k2, k3, k4, k5, k6, k7, k8, k9, k10]
def interned : List (Array UInt16 × Addr) := []
def slotsUsed : Nat := 0
def theMethod : MethodId := ⟨1, 1⟩
def args0 : Array Value := #[.int 5, .int 9]
def aboutOver (below : List Frame) : State where
  vm := { classes := classes, interned := interned.toArray }
  heap := heap
  slotsUsed := slotsUsed
  threads := #[{ frames := .invoking theMethod args0 :: below }]
def below0 : List Frame := [.native { method := ⟨0, 0⟩, args := #[] }]
def about1 : State := aboutOver below0
def p0 : Program := .bare "" "" ""
def e0 : Env := launch0.env 0 0 0
theorem w_frames : about1.frames = Frame.invoking theMethod args0 :: below0 := rfl
set_option maxRecDepth 65536 in
theorem w_args : argsFit about1.vm theMethod args0 = true := by decide +kernel
set_option maxRecDepth 65536 in
theorem w_heap : heapFits about1 = true := by decide +kernel
set_option maxRecDepth 65536 in
theorem w_runnable : about1.curStatus? = some .runnable := by decide +kernel
set_option maxRecDepth 65536 in
theorem w_alone : about1.alone = true := by decide +kernel
set_option maxRecDepth 65536 in
theorem w_named : about1.methodNamed? x = some theMethod := by decide +kernel
set_option maxRecDepth 65536 in
theorem w_hears : about1.hears theMethod below0 = true := by decide +kernel
set_option maxRecDepth 65536 in
theorem w_ripe : about1.ripe theMethod args0 below0 = true := by decide +kernel
theorem w_running : about1.status = .running := rfl
set_option maxRecDepth 65536 in
theorem w_room : about1.hasRoom e0.platform room_1 = true :=
  launch0.hasRoom_least _ room_1 (by decide +kernel) (by decide +kernel) (by decide +kernel) (by decide +kernel) (by decide +kernel) (by decide +kernel)
theorem allAtoms_all (ts : List Jvm.Cond) (a : Array Jvm.Value) (st : Jvm.State) : (allAtoms ts).before a st = ts.all (fun c => c.before a st) := by
  induction ts with
  | nil => rfl
  | cons c t ih =>
    show (Jvm.Cond.and c (allAtoms t)).before a st = _
    rw [Jvm.Cond.before_and, ih, List.all_cons]
def words1 : List Jvm.Cond := Jvm.Cond.code x code maxLocals ret :: tables_1
/-- a 'code' word, met by the world's own term for the bytes: nothing is compared byte by byte -/
theorem code_word {y : MethodName} {bytes : ByteArray} {mx : Nat} {rt : Option FieldType} {a : Array Value} {s : State} {m : MethodId} {meth : Method} {c : Code} (h1 : s.methodNamed? y = some m) (h2 : s.vm.method? m = some meth) (h3 : meth.code = some c) (h4 : c.code = bytes)
    (h5 : (c.maxLocals == mx && c.exceptionTable.isEmpty && decide (c.maxStack ≤ mostOperands) && decide (meth.sig.returnType = rt) && !meth.locks && decide (parseMethodDescriptor y.desc = some meth.sig)) = true) : (Jvm.Cond.code y bytes mx rt).before a s = true := by
  simp only [Bool.and_eq_true, beq_iff_eq, Bool.not_eq_true', decide_eq_true_eq] at h5
  obtain ⟨⟨⟨⟨⟨g1, g2⟩, g3⟩, g4⟩, g5⟩, g6⟩ := h5
  simp [Cond.before, Cond.holds, Cond.value, h1, h2, h3, h4, g1, g2, g3, g4, g5, g6]
def isCode : Jvm.Cond → Bool
  | .code _ _ _ _ => true
  | _ => false
theorem all_split {L : List Jvm.Cond} {P : Jvm.Cond → Bool} (h1 : L.all (fun c => isCode c || P c) = true) (h2 : ∀ c ∈ L.filter isCode, P c = true) : L.all P = true := by
  refine List.all_eq_true.mpr fun c hc => ?_
  have h := List.all_eq_true.mp h1 c hc
  rcases Bool.eq_false_or_eq_true (isCode c) with hi | hi
  · exact h2 c (List.mem_filter.mpr ⟨hc, hi⟩)
  · simpa [hi] using h
set_option maxRecDepth 65536 in
theorem w_c0 : (Jvm.Cond.code x code maxLocals ret).before args0 about1 = true := code_word (m := ⟨1, 1⟩) (meth := k1m1) (c := k1c1) (by decide +kernel) rfl rfl rfl (by decide +kernel)
set_option maxRecDepth 65536 in
theorem w_c1 : (Jvm.Cond.code ({ cls := "com/example/regista/regista/ValuationsNextPinLaw", name := "set", desc := "([ZII)V" } : Jvm.MethodName) method_3_code (3 : Nat) (Option.none : Option Jvm.ClassFile.FieldType)).before args0 about1 = true := code_word (m := ⟨1, 2⟩) (meth := k1m2) (c := k1c2) (by decide +kernel) rfl rfl rfl (by decide +kernel)
set_option maxRecDepth 65536 in
theorem w_c2 : (Jvm.Cond.code ({ cls := "com/example/regista/regista/Valuations", name := "next", desc := "([Z)Z" } : Jvm.MethodName) prog_101_method_2_code (2 : Nat) (Option.some Jvm.ClassFile.FieldType.boolean)).before args0 about1 = true := code_word (m := ⟨2, 1⟩) (meth := k2m1) (c := k2c1) (by decide +kernel) rfl rfl rfl (by decide +kernel)
set_option maxRecDepth 65536 in
theorem w_c3 : (Jvm.Cond.code ({ cls := "com/example/regista/regista/ValuationsNextPinLaw", name := "bit", desc := "([ZI)I" } : Jvm.MethodName) method_4_code (2 : Nat) (Option.some Jvm.ClassFile.FieldType.int)).before args0 about1 = true := code_word (m := ⟨1, 3⟩) (meth := k1m3) (c := k1c3) (by decide +kernel) rfl rfl rfl (by decide +kernel)
def codes1 : List Jvm.Cond := [Jvm.Cond.code x code maxLocals ret, Jvm.Cond.code ({ cls := "com/example/regista/regista/ValuationsNextPinLaw", name := "set", desc := "([ZII)V" } : Jvm.MethodName) method_3_code (3 : Nat) (Option.none : Option Jvm.ClassFile.FieldType), Jvm.Cond.code ({ cls := "com/example/regista/regista/Valuations", name := "next", desc := "([Z)Z" } : Jvm.MethodName) prog_101_method_2_code (2 : Nat) (Option.some Jvm.ClassFile.FieldType.boolean), Jvm.Cond.code ({ cls := "com/example/regista/regista/ValuationsNextPinLaw", name := "bit", desc := "([ZI)I" } : Jvm.MethodName) method_4_code (2 : Nat) (Option.some Jvm.ClassFile.FieldType.int)]
set_option maxRecDepth 65536 in
theorem codes_eq : words1.filter isCode = codes1 := rfl
theorem w_codes : ∀ c ∈ words1.filter isCode, c.before args0 about1 = true := by
  rw [codes_eq]
  intro c hc
  simp only [codes1, List.mem_cons, List.not_mem_nil, or_false] at hc
  rcases hc with rfl | rfl | rfl | rfl
  · exact w_c0
  · exact w_c1
  · exact w_c2
  · exact w_c3
set_option maxRecDepth 65536 in
theorem w_t1 : words1.all (fun c => isCode c || c.before args0 about1) = true := by decide +kernel
theorem w_tables : (allAtoms (Jvm.Cond.code x code maxLocals ret :: tables_1)).before args0 about1 = true := by
  rw [allAtoms_all]
  show words1.all (fun c => c.before args0 about1) = true
  refine all_split ?_ w_codes
  rw [w_t1]
set_option maxRecDepth 65536 in
theorem w_case : (Jvm.Cond.and given_1 narrow_1).before args0 about1 = true := by decide +kernel
theorem w_applies : (headSpec (Jvm.Cond.code x code maxLocals ret :: tables_1) room_1).applies x e0.platform about1 = true :=
  (Spec.applies_iff w_frames).mpr ⟨w_running, w_runnable, w_alone, w_named, w_hears, w_ripe, w_room, w_tables⟩
theorem atStart : AtStart classFile x code maxLocals ret World_1 tables_1 room_1 Calls_1 rest_1 Pre_1 launch0 p0 e0 about1 theMethod args0 below0 :=
  ⟨lists_1, trivial, launch0.admits_env _ _ _, launch0.least_env, fairChoices_fair.cas, fairChoices_fair.clock, w_frames, w_args, w_heap, w_applies, trivial, trivial, w_case⟩
end start1
theorem witness_1 : WitnessClaimed_1 := ⟨start1.p0, start1.e0, start1.about1, start1.theMethod, start1.args0, start1.below0, start1.atStart⟩
end Jvm.Pilot.@@N@@
