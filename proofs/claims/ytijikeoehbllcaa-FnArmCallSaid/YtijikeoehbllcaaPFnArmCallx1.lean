-- PRINTED BY print.sh 35421559b90ae4d0a3588c463048766b98c2df88dd9212a6774a882060cdf62d: not written by this session
import Derived.Test.YtijikeoehbllcaaPFnArmCallx0
namespace Go.Proofs.Ytijikeoehbllcaa.PFnArmCall
open Go.RowKit Go.Proofs.YtijikeoehbllcaaW.PrintWords Go.Proofs.YtijikeoehbllcaaW.PrintLast Go.Proofs.YtijikeoehbllcaaW.PrintMore
attribute [local go_sem] max2_int min2_int max_two min_two max_three min_three max_four min_four   -- for this text's walks alone
set_option linter.unusedVariables false
set_option linter.unusedSimpArgs false

/-! ### spec_Sext: function 23 -/
def spec_Sext.f (a0 : Int) (a1 : Int) : Option (Int) := if 0 ≤ (wrap64 (64 - a1)) then (some (shr .i64 (shl .i64 a0 (wrap64 (64 - a1))) (wrap64 (64 - a1)))) else (none)
set_option maxHeartbeats 8000000 in
set_option maxRecDepth 100000 in
theorem spec_Sext.calls (a0 : Int) (a1 : Int) (r : Int) (w : World) (h : spec_Sext.f a0 a1 = some r) :
    Calls Try.prog 23 #[.int .i64 a0, .int .i64 a1] w fun e w' => e = .returned (.int .i64 r) ∧ Drawn0 w w' := by
  have H : (if 0 ≤ (wrap64 (64 - a1)) then (some (shr .i64 (shl .i64 a0 (wrap64 (64 - a1))) (wrap64 (64 - a1)))) else (none)) = some r := h
  clear h
  obtain ⟨ji3, hji3⟩ : ∃ j_ : Int, (wrap64 (64 - a1)) = j_ := ⟨_, rfl⟩
  replace H : (if 0 ≤ (ji3) then (some (shr .i64 (shl .i64 a0 (ji3)) (ji3))) else (none)) = some r := by first | (rw [hji3] at H; exact H) | (simp only [hji3] at H ⊢; exact H)
  have hji3w : (IntKind.i64.wrap (64 - a1)) = ji3 := (i64_w _).trans hji3
  by_cases c4 : 0 ≤ (ji3)
  · rw [if_pos c4] at H
    have c4b0 := eq_true c4
    have c4b1 : decide (0 ≤ (ji3)) = true := decide_eq_true c4
    clear c4
    obtain ⟨ji5, hji5⟩ : ∃ j_ : Int, (shl .i64 a0 (ji3)) = j_ := ⟨_, rfl⟩
    replace H : (some (shr .i64 (ji5) (ji3))) = some r := by first | (rw [hji5] at H; exact H) | (simp only [hji5] at H ⊢; exact H)
    have hji5_ : (IntKind.i64.wrap (a0 * 2 ^ min (ji3).toNat 64)) = ji5 := hji5
    have hji5z : (ji3) ≤ 64 → (IntKind.i64.wrap (a0 * 2 ^ (ji3).toNat)) = ji5 := shl_small hji5
    have hji5y : (wrap64 (a0 * 2 ^ min (ji3).toNat 64)) = ji5 := (i64_w _).symm.trans hji5_
    have hji5x : (ji3) ≤ 64 → (wrap64 (a0 * 2 ^ (ji3).toNat)) = ji5 := fun h_ => (i64_w _).symm.trans (hji5z h_)
    have c6b0 := eq_true (of_decide_eq_true (by first | (with_reducible assumption) | assumption) : 0 ≤ (ji3))
    obtain ⟨ji7, hji7⟩ : ∃ j_ : Int, (shr .i64 (ji5) (ji3)) = j_ := ⟨_, rfl⟩
    replace H : (some ji7) = some r := by first | (rw [hji7] at H; exact H) | (simp only [hji7] at H ⊢; exact H)
    have hji7_ : ((ji5) / 2 ^ min (ji3).toNat 64) = ji7 := hji7
    have hji7z : (ji3) ≤ 64 → ((ji5) / 2 ^ (ji3).toNat) = ji7 := shr_small hji7
    obtain rfl := Option.some.inj H
    go_enter Try.func23, Try.ntmps23
    go_wp2
    go_ret
    exact ⟨by first | rfl | (simp; done) | (simp only [← hji3, ← hji5, ← hji7] <;> (first | rfl | simp)) | (simp [*]; done), by repeat (first | exact Drawn0.refl _ | apply Drawn0.step)⟩
  · rw [if_neg c4] at H
    exact absurd H (by simp)

/-! ### spec_Fits: function 15 -/
def spec_Fits.f (a0 : Int) (a1 : Int) : Option (Bool) := (spec_Sext.f a0 a1).bind fun t101 => (some (t101 == a0))
set_option maxHeartbeats 8000000 in
set_option maxRecDepth 100000 in
theorem spec_Fits.calls (a0 : Int) (a1 : Int) (r : Bool) (w : World) (h : spec_Fits.f a0 a1 = some r) :
    Calls Try.prog 15 #[.int .i64 a0, .int .i64 a1] w fun e w' => e = .returned (.bool r) ∧ Drawn0 w w' := by
  have H : ((spec_Sext.f a0 a1).bind fun t101 => (some (t101 == a0))) = some r := h
  clear h
  replace H := Option.bind_eq_some_iff.mp H
  obtain ⟨t101, A30, H⟩ := H
  replace H : (some (t101 == a0)) = some r := H
  have A3 := Aside0.mk A30
  clear A30
  obtain rfl := Option.some.inj H
  go_enter Try.func15, Try.ntmps15
  go_wp2_with (first | ((with_reducible refine gate_callee (f := 23) rfl ?_); refine goesL_ (some 7) rfl rfl Try.func23 (by kernel_rfl) rfl #[.int .i64 a0, .int .i64 a1] rfl (by (try simp only [List.map_toArray, List.map_cons, List.map_nil]); first | done | rfl | (simp only [List.length_drop, List.length_take]; rfl)) ?_; (with_reducible refine (spec_Sext.calls a0 a1 t101 _ A3.out).mono ?_); rintro e w' ⟨rfl, ⟨nd, rfl⟩⟩; refine ⟨_, rfl, ?_⟩))
  go_ret
  exact ⟨by first | rfl | (simp; done) | (simp [*]; done), by repeat (first | exact Drawn0.refl _ | apply Drawn0.step)⟩

/-! ### laws_near: function 12 -/
def laws_near.l0 : Nat → List Int → Int → Int → Option (Bool)
  | 0, _, _, _ => none
  | k + 1, x5, x6, x7 => if x7 < x6 then (if 0 ≤ x7 then (if x7 < (x5.length : Int) then ((spec_Fits.f (rd x5 x7) 42).bind fun t103 => (if t103 = true then (laws_near.l0 k x5 x6 (wrap64 (x7 + 1))) else (some false))) else (none)) else (none)) else (some true)
def laws_near.f (k : Nat) (l0 : List Int) : Option (Bool) := laws_near.l0 k l0 (l0.length : Int) 0
theorem laws_near.mono_l : ∀ k, (∀ y0 y1 y2, LeO (laws_near.l0 k y0 y1 y2) (laws_near.l0 (k + 1) y0 y1 y2))
  | 0 => fun _ _ _ r h => by simp [laws_near.l0] at h
  | k + 1 => by
    have ih0 := laws_near.mono_l k
    · intro y0 y1 y2
      unfold laws_near.l0
      repeat' first
      | (with_reducible exact ih0 _ _ _)
      | (with_reducible exact LeO.refl _)
      | (with_reducible exact LeO.none _)
      | (with_reducible refine LeO.ite ?_ ?_)
      | (with_reducible refine LeO.bind ?_ (fun _ => ?_))
      | exact ih0 _ _ _
      | exact LeO.none _
      | refine LeO.ite ?_ ?_
      | refine LeO.bind ?_ (fun _ => ?_)
theorem laws_near.mono : ∀ a0 k, LeO (laws_near.f k a0) (laws_near.f (k + 1) a0) := by
  intro a0 k
  have ih0 := laws_near.mono_l k
  unfold laws_near.f
  repeat' first
      | (with_reducible exact ih0 _ _ _)
      | (with_reducible exact LeO.refl _)
      | (with_reducible exact LeO.none _)
      | (with_reducible refine LeO.ite ?_ ?_)
      | (with_reducible refine LeO.bind ?_ (fun _ => ?_))
      | exact ih0 _ _ _
      | exact LeO.none _
      | refine LeO.ite ?_ ?_
      | refine LeO.bind ?_ (fun _ => ?_)
set_option maxHeartbeats 8000000 in
set_option maxRecDepth 100000 in
theorem laws_near.calls (k : Nat) (A0 : Option Addr) (c0 : Nat) (l0 : List Int) (r : Bool) (w : World) (hr0 : Kd.C (Kd.int .i64) w A0 l0.length l0) (hc0 : l0.length ≤ c0) (h : laws_near.f k l0 = some r) :
    Calls Try.prog 12 #[.slice A0 l0.length c0] w fun e w' => e = .returned (.bool r) ∧ Drawn0 w w' := by
  have HR0 := Aside0.mk hr0
  have HC0 := Aside0.mk hc0
  clear hr0 hc0
  have H : (laws_near.l0 k l0 (l0.length : Int) 0) = some r := h
  clear h
  have H' := Aside0.mk H
  clear H
  go_enter Try.func12, Try.ntmps12
  go_wp2
  go_loopg [7] k (fun kq v7 w' => ∃ (x7_1 : Int), v7 = .int .i64 x7_1 ∧ Aside0 (laws_near.l0 kq l0 (l0.length : Int) x7_1 = some r) ∧ Aside0 (kq ≤ k) ∧ Drawn0 w w')
  case atStart => exact ⟨(0), (by first | rfl | (simp; done) | (simp [*]; done)), H', ⟨Nat.le_refl _⟩, by repeat (first | exact Drawn0.refl _ | apply Drawn0.step)⟩
  case round =>
    clear H'
    try clear c1
    obtain ⟨x7_1, rfl, HA, HK1, ⟨m1, rfl⟩⟩ := hrel
    cases gk with
    | zero => exact absurd HA.out (by simp [laws_near.l0])
    | succ k1 =>
      have H := HA.out
      clear HA
      simp only [laws_near.l0] at H
      by_cases c2 : x7_1 < (l0.length : Int)
      · rw [if_pos c2] at H
        have c2b0 : decide (x7_1 < (l0.length : Int)) = true := decide_eq_true c2
        clear c2
        by_cases c3 : 0 ≤ x7_1
        · rw [if_pos c3] at H
          have c3b0 : decide (0 ≤ x7_1) = true := decide_eq_true c3
          clear c3
          by_cases c4 : x7_1 < (l0.length : Int)
          · rw [if_pos c4] at H
            have c4b0 : decide (x7_1 < (l0.length : Int)) = true := decide_eq_true c4
            clear c4
            replace H := Option.bind_eq_some_iff.mp H
            obtain ⟨t103, A50, H⟩ := H
            replace H : (if t103 = true then (laws_near.l0 k1 l0 (l0.length : Int) (wrap64 (x7_1 + 1))) else (some false)) = some r := H
            have A5 := Aside0.mk A50
            clear A50
            by_cases c6 : t103 = true
            · subst c6
              have H1 : (laws_near.l0 k1 l0 (l0.length : Int) (wrap64 (x7_1 + 1))) = some r := by rw [if_pos rfl] at H; exact H
              clear H
              have H := H1
              clear H1
              have H' := Aside0.mk H
              clear H
              have p102 : 0 ≤ (x7_1 : Int) := of_decide_eq_true (by first | (with_reducible assumption) | assumption)
              have q102 : x7_1 < (l0.length : Int) := of_decide_eq_true (by first | (with_reducible assumption) | assumption)
              obtain ⟨ad102, e102, hx102_0⟩ := Kd.at_int HR0.out x7_1 p102 q102
              cases e102
              replace p102 := eq_true p102
              replace q102 := eq_true q102
              go_wp2_with (first | ((with_reducible refine gate_callee (f := 15) rfl ?_); refine goesL_ (some 12) rfl rfl Try.func15 (by kernel_rfl) rfl #[.int .i64 (rd l0 x7_1), .int .i64 42] rfl (by (try simp only [List.map_toArray, List.map_cons, List.map_nil]); first | done | rfl | (simp only [List.length_drop, List.length_take]; rfl)) ?_; (with_reducible refine (spec_Fits.calls (rd l0 x7_1) 42 true _ A5.out).mono ?_); rintro e w' ⟨rfl, ⟨nd, rfl⟩⟩; refine ⟨_, rfl, ?_⟩))
              go_roundg k1
              case measure => have := HK1.out; omega
              case rel => exact ⟨(wrap64 (x7_1 + 1)), (by first | rfl | (simp; done) | (simp [*]; done)), H', ⟨by have := HK1.out; omega⟩, by repeat (first | exact Drawn0.refl _ | apply Drawn0.step)⟩
            · replace c6 := Bool.eq_false_iff.mpr c6
              subst c6
              have H1 : (some false) = some r := by rw [if_neg (show ¬ (false = true) by decide)] at H; exact H
              clear H
              have H := H1
              clear H1
              obtain rfl := Option.some.inj H
              have p102 : 0 ≤ (x7_1 : Int) := of_decide_eq_true (by first | (with_reducible assumption) | assumption)
              have q102 : x7_1 < (l0.length : Int) := of_decide_eq_true (by first | (with_reducible assumption) | assumption)
              obtain ⟨ad102, e102, hx102_0⟩ := Kd.at_int HR0.out x7_1 p102 q102
              cases e102
              replace p102 := eq_true p102
              replace q102 := eq_true q102
              go_wp2_with (first | ((with_reducible refine gate_callee (f := 15) rfl ?_); refine goesL_ (some 12) rfl rfl Try.func15 (by kernel_rfl) rfl #[.int .i64 (rd l0 x7_1), .int .i64 42] rfl (by (try simp only [List.map_toArray, List.map_cons, List.map_nil]); first | done | rfl | (simp only [List.length_drop, List.length_take]; rfl)) ?_; (with_reducible refine (spec_Fits.calls (rd l0 x7_1) 42 false _ A5.out).mono ?_); rintro e w' ⟨rfl, ⟨nd, rfl⟩⟩; refine ⟨_, rfl, ?_⟩))
              go_ret
              exact ⟨by first | rfl | (simp; done) | (simp [*]; done), by repeat (first | exact Drawn0.refl _ | apply Drawn0.step)⟩
          · rw [if_neg c4] at H
            exact absurd H (by simp)
        · rw [if_neg c3] at H
          exact absurd H (by simp)
      · rw [if_neg c2] at H
        have c2b0 : decide (x7_1 < (l0.length : Int)) = false := decide_eq_false c2
        clear c2
        obtain rfl := Option.some.inj H
        go_wp2
        go_ret
        exact ⟨by first | rfl | (simp; done) | (simp [*]; done), by repeat (first | exact Drawn0.refl _ | apply Drawn0.step)⟩

/-! ### linkreloc_Signext24: function 46 -/
def linkreloc_Signext24.f (a0 : Int) : Option (Int) := some ((wrap32 ((wrap32 (a0)) * 256)) / 256)
set_option maxHeartbeats 8000000 in
set_option maxRecDepth 100000 in
theorem linkreloc_Signext24.calls (a0 : Int) (r : Int) (w : World) (h : linkreloc_Signext24.f a0 = some r) :
    Calls Try.prog 46 #[.int .i64 a0] w fun e w' => e = .returned (.int .i32 r) ∧ Drawn0 w w' := by
  have H : (some ((wrap32 ((wrap32 (a0)) * 256)) / 256)) = some r := h
  clear h
  obtain rfl := Option.some.inj H
  go_enter Try.func46, Try.ntmps46
  go_wp2
  go_ret
  exact ⟨by first | rfl | (simp; done) | (simp [*]; done), by repeat (first | exact Drawn0.refl _ | apply Drawn0.step)⟩

/-! ### linkreloc_braddoff: function 47 -/
def linkreloc_braddoff.f (a0 : Int) (a1 : Int) : Option (Int) := some (wrap32 (Go.bits .or .u32 (Go.bits .and .u32 ((a0) % 4294967296) 4278190080) (Go.bits .and .u32 16777215 ((wrap32 (a0 + a1)) % 4294967296))))
set_option maxHeartbeats 8000000 in
set_option maxRecDepth 100000 in
theorem linkreloc_braddoff.calls (a0 : Int) (a1 : Int) (r : Int) (w : World) (h : linkreloc_braddoff.f a0 a1 = some r) :
    Calls Try.prog 47 #[.int .i32 a0, .int .i32 a1] w fun e w' => e = .returned (.int .i32 r) ∧ Drawn0 w w' := by
  have H : (some (wrap32 (Go.bits .or .u32 (Go.bits .and .u32 ((a0) % 4294967296) 4278190080) (Go.bits .and .u32 16777215 ((wrap32 (a0 + a1)) % 4294967296))))) = some r := h
  clear h
  obtain rfl := Option.some.inj H
  go_enter Try.func47, Try.ntmps47
  go_wp2
  go_ret
  exact ⟨by first | rfl | (simp; done) | (simp [*]; done), by repeat (first | exact Drawn0.refl _ | apply Drawn0.step)⟩

/-! ### linkreloc_Arm: function 33 -/
def linkreloc_Arm.f (a0 : Int) (a1 : Int) (a2 : Int) (a3 : Int) (a4 : Int) (a5 : Int) (a6 : Int) : Option (Int × Int × Bool) := if a0 = 45 then (some (wrap64 (3801073152 + (Go.bits .and .i64 255 (((wrap64 ((wrap64 (a1 - (wrap64 (a4 + a5)))) + a2)) % 4294967296) / 1048576))), 0, true)) else (if a0 = 46 then (some (wrap64 (3800877568 + (Go.bits .and .i64 255 (((wrap64 ((wrap64 ((wrap64 (a1 - (wrap64 (a4 + a5)))) + a2)) + 4)) % 4294967296) / 4096))), 0, true)) else (if a0 = 47 then (some (wrap64 (3854364672 + (Go.bits .and .i64 4095 ((wrap64 ((wrap64 ((wrap64 (a1 - (wrap64 (a4 + a5)))) + a2)) + 8)) % 4294967296))), 0, true)) else (if a0 = 25 then ((linkreloc_Signext24.f (Go.bits .and .i64 a2 16777215)).bind fun t104 => (if (wrap64 (Int.tdiv (wrap64 ((wrap64 (a1 + (wrap64 (wrap32 (t104 * 4))))) - a3)) 4)) > 8388607 then ((linkreloc_braddoff.f (wrap32 (Go.bits .and .u32 4278190080 ((a2) % 4294967296))) (wrap32 (Go.bits .and .i64 16777215 (wrap64 (Int.tdiv (wrap64 ((wrap64 (a1 + (wrap64 (wrap32 (t104 * 4))))) - a3)) 4))))).bind fun t105 => (some (wrap64 (t105), 0 + 1, true))) else (if (wrap64 (Int.tdiv (wrap64 ((wrap64 (a1 + (wrap64 (wrap32 (t104 * 4))))) - a3)) 4)) < (-8388608) then ((linkreloc_braddoff.f (wrap32 (Go.bits .and .u32 4278190080 ((a2) % 4294967296))) (wrap32 (Go.bits .and .i64 16777215 (wrap64 (Int.tdiv (wrap64 ((wrap64 (a1 + (wrap64 (wrap32 (t104 * 4))))) - a3)) 4))))).bind fun t106 => (some (wrap64 (t106), 0 + 1, true))) else ((linkreloc_braddoff.f (wrap32 (Go.bits .and .u32 4278190080 ((a2) % 4294967296))) (wrap32 (Go.bits .and .i64 16777215 (wrap64 (Int.tdiv (wrap64 ((wrap64 (a1 + (wrap64 (wrap32 (t104 * 4))))) - a3)) 4))))).bind fun t107 => (some (wrap64 (t107), 0, true)))))) else (some (a6, 0, false)))))
set_option maxHeartbeats 8000000 in
set_option maxRecDepth 100000 in
theorem linkreloc_Arm.calls (a0 : Int) (a1 : Int) (a2 : Int) (a3 : Int) (a4 : Int) (a5 : Int) (a6 : Int) (r1 : Int) (r2 : Int) (r3 : Bool) (w : World) (h : linkreloc_Arm.f a0 a1 a2 a3 a4 a5 a6 = some (r1, r2, r3)) :
    Calls Try.prog 33 #[.int .i64 a0, .int .i64 a1, .int .i64 a2, .int .i64 a3, .int .i64 a4, .int .i64 a5, .int .i64 a6] w fun e w' => e = .returned (.tuple #[.int .i64 r1, .int .i64 r2, .bool r3]) ∧ Drawn0 w w' := by
  have H : (if a0 = 45 then (some (wrap64 (3801073152 + (Go.bits .and .i64 255 (((wrap64 ((wrap64 (a1 - (wrap64 (a4 + a5)))) + a2)) % 4294967296) / 1048576))), 0, true)) else (if a0 = 46 then (some (wrap64 (3800877568 + (Go.bits .and .i64 255 (((wrap64 ((wrap64 ((wrap64 (a1 - (wrap64 (a4 + a5)))) + a2)) + 4)) % 4294967296) / 4096))), 0, true)) else (if a0 = 47 then (some (wrap64 (3854364672 + (Go.bits .and .i64 4095 ((wrap64 ((wrap64 ((wrap64 (a1 - (wrap64 (a4 + a5)))) + a2)) + 8)) % 4294967296))), 0, true)) else (if a0 = 25 then ((linkreloc_Signext24.f (Go.bits .and .i64 a2 16777215)).bind fun t104 => (if (wrap64 (Int.tdiv (wrap64 ((wrap64 (a1 + (wrap64 (wrap32 (t104 * 4))))) - a3)) 4)) > 8388607 then ((linkreloc_braddoff.f (wrap32 (Go.bits .and .u32 4278190080 ((a2) % 4294967296))) (wrap32 (Go.bits .and .i64 16777215 (wrap64 (Int.tdiv (wrap64 ((wrap64 (a1 + (wrap64 (wrap32 (t104 * 4))))) - a3)) 4))))).bind fun t105 => (some (wrap64 (t105), 0 + 1, true))) else (if (wrap64 (Int.tdiv (wrap64 ((wrap64 (a1 + (wrap64 (wrap32 (t104 * 4))))) - a3)) 4)) < (-8388608) then ((linkreloc_braddoff.f (wrap32 (Go.bits .and .u32 4278190080 ((a2) % 4294967296))) (wrap32 (Go.bits .and .i64 16777215 (wrap64 (Int.tdiv (wrap64 ((wrap64 (a1 + (wrap64 (wrap32 (t104 * 4))))) - a3)) 4))))).bind fun t106 => (some (wrap64 (t106), 0 + 1, true))) else ((linkreloc_braddoff.f (wrap32 (Go.bits .and .u32 4278190080 ((a2) % 4294967296))) (wrap32 (Go.bits .and .i64 16777215 (wrap64 (Int.tdiv (wrap64 ((wrap64 (a1 + (wrap64 (wrap32 (t104 * 4))))) - a3)) 4))))).bind fun t107 => (some (wrap64 (t107), 0, true)))))) else (some (a6, 0, false)))))) = some (r1, r2, r3) := h
  clear h
  by_cases c8 : a0 = 45
  · rw [if_pos c8] at H
    have c8b0 : (a0 == 45) = true := beq_iff_eq.mpr c8
    have c8b1 : (a0 != 45) = false := bne_eq_false_iff_eq.mpr c8
    clear c8
    simp only [Option.some.injEq, Prod.mk.injEq] at H
    obtain ⟨rfl, rfl, rfl⟩ := H
    go_enter Try.func33, Try.ntmps33
    go_wp2
    go_ret3
    exact ⟨by first | rfl | (simp; done) | (simp [*]; done), by repeat (first | exact Drawn0.refl _ | apply Drawn0.step)⟩
  · rw [if_neg c8] at H
    have c8b0 : (a0 == 45) = false := beq_eq_false_iff_ne.mpr c8
    have c8b1 : (a0 != 45) = true := bne_iff_ne.mpr c8
    by_cases c9 : a0 = 46
    · rw [if_pos c9] at H
      have c9b0 : (a0 == 46) = true := beq_iff_eq.mpr c9
      have c9b1 : (a0 != 46) = false := bne_eq_false_iff_eq.mpr c9
      clear c9
      simp only [Option.some.injEq, Prod.mk.injEq] at H
      obtain ⟨rfl, rfl, rfl⟩ := H
      go_enter Try.func33, Try.ntmps33
      go_wp2
      go_ret3
      exact ⟨by first | rfl | (simp; done) | (simp [*]; done), by repeat (first | exact Drawn0.refl _ | apply Drawn0.step)⟩
    · rw [if_neg c9] at H
      have c9b0 : (a0 == 46) = false := beq_eq_false_iff_ne.mpr c9
      have c9b1 : (a0 != 46) = true := bne_iff_ne.mpr c9
      by_cases c10 : a0 = 47
      · rw [if_pos c10] at H
        have c10b0 : (a0 == 47) = true := beq_iff_eq.mpr c10
        have c10b1 : (a0 != 47) = false := bne_eq_false_iff_eq.mpr c10
        clear c10
        simp only [Option.some.injEq, Prod.mk.injEq] at H
        obtain ⟨rfl, rfl, rfl⟩ := H
        go_enter Try.func33, Try.ntmps33
        go_wp2
        go_ret3
        exact ⟨by first | rfl | (simp; done) | (simp [*]; done), by repeat (first | exact Drawn0.refl _ | apply Drawn0.step)⟩
      · rw [if_neg c10] at H
        have c10b0 : (a0 == 47) = false := beq_eq_false_iff_ne.mpr c10
        have c10b1 : (a0 != 47) = true := bne_iff_ne.mpr c10
        by_cases c11 : a0 = 25
        · rw [if_pos c11] at H
          have c11b0 : (a0 == 25) = true := beq_iff_eq.mpr c11
          have c11b1 : (a0 != 25) = false := bne_eq_false_iff_eq.mpr c11
          clear c11
          replace H := Option.bind_eq_some_iff.mp H
          obtain ⟨t104, A120, H⟩ := H
          replace H : (if (wrap64 (Int.tdiv (wrap64 ((wrap64 (a1 + (wrap64 (wrap32 (t104 * 4))))) - a3)) 4)) > 8388607 then ((linkreloc_braddoff.f (wrap32 (Go.bits .and .u32 4278190080 ((a2) % 4294967296))) (wrap32 (Go.bits .and .i64 16777215 (wrap64 (Int.tdiv (wrap64 ((wrap64 (a1 + (wrap64 (wrap32 (t104 * 4))))) - a3)) 4))))).bind fun t105 => (some (wrap64 (t105), 0 + 1, true))) else (if (wrap64 (Int.tdiv (wrap64 ((wrap64 (a1 + (wrap64 (wrap32 (t104 * 4))))) - a3)) 4)) < (-8388608) then ((linkreloc_braddoff.f (wrap32 (Go.bits .and .u32 4278190080 ((a2) % 4294967296))) (wrap32 (Go.bits .and .i64 16777215 (wrap64 (Int.tdiv (wrap64 ((wrap64 (a1 + (wrap64 (wrap32 (t104 * 4))))) - a3)) 4))))).bind fun t106 => (some (wrap64 (t106), 0 + 1, true))) else ((linkreloc_braddoff.f (wrap32 (Go.bits .and .u32 4278190080 ((a2) % 4294967296))) (wrap32 (Go.bits .and .i64 16777215 (wrap64 (Int.tdiv (wrap64 ((wrap64 (a1 + (wrap64 (wrap32 (t104 * 4))))) - a3)) 4))))).bind fun t107 => (some (wrap64 (t107), 0, true))))) = some (r1, r2, r3) := H
          have A12 := Aside0.mk A120
          clear A120
          by_cases c13 : (wrap64 (Int.tdiv (wrap64 ((wrap64 (a1 + (wrap64 (wrap32 (t104 * 4))))) - a3)) 4)) > 8388607
          · rw [if_pos c13] at H
            have c13b0 : decide (8388607 < (wrap64 (Int.tdiv (wrap64 ((wrap64 (a1 + (wrap64 (wrap32 (t104 * 4))))) - a3)) 4))) = true := decide_eq_true c13
            clear c13
            replace H := Option.bind_eq_some_iff.mp H
            obtain ⟨t105, A140, H⟩ := H
            replace H : (some (wrap64 (t105), 0 + 1, true)) = some (r1, r2, r3) := H
            have A14 := Aside0.mk A140
            clear A140
            simp only [Option.some.injEq, Prod.mk.injEq] at H
            obtain ⟨rfl, rfl, rfl⟩ := H
            go_enter Try.func33, Try.ntmps33
            go_wp2_with (first | ((with_reducible refine gate_callee (f := 46) rfl ?_); refine goesL_ (some 70) rfl rfl Try.func46 (by kernel_rfl) rfl #[.int .i64 (Go.bits .and .i64 a2 16777215)] rfl (by (try simp only [List.map_toArray, List.map_cons, List.map_nil]); first | done | rfl | (simp only [List.length_drop, List.length_take]; rfl)) ?_; (with_reducible refine (linkreloc_Signext24.calls (Go.bits .and .i64 a2 16777215) t104 _ A12.out).mono ?_); rintro e w' ⟨rfl, ⟨nd, rfl⟩⟩; refine ⟨_, rfl, ?_⟩) | ((with_reducible refine gate_callee (f := 47) rfl ?_); refine goesL_ (some 92) rfl rfl Try.func47 (by kernel_rfl) rfl #[.int .i32 (wrap32 (Go.bits .and .u32 4278190080 ((a2) % 4294967296))), .int .i32 (wrap32 (Go.bits .and .i64 16777215 (wrap64 (Int.tdiv (wrap64 ((wrap64 (a1 + (wrap64 (wrap32 (t104 * 4))))) - a3)) 4))))] rfl (by (try simp only [List.map_toArray, List.map_cons, List.map_nil]); first | done | rfl | (simp only [List.length_drop, List.length_take]; rfl)) ?_; (with_reducible refine (linkreloc_braddoff.calls (wrap32 (Go.bits .and .u32 4278190080 ((a2) % 4294967296))) (wrap32 (Go.bits .and .i64 16777215 (wrap64 (Int.tdiv (wrap64 ((wrap64 (a1 + (wrap64 (wrap32 (t104 * 4))))) - a3)) 4)))) t105 _ A14.out).mono ?_); rintro e w' ⟨rfl, ⟨nd, rfl⟩⟩; refine ⟨_, rfl, ?_⟩))
            go_ret3
            exact ⟨by first | rfl | (simp; done) | (simp [*]; done), by repeat (first | exact Drawn0.refl _ | apply Drawn0.step)⟩
          · rw [if_neg c13] at H
            have c13b0 : decide (8388607 < (wrap64 (Int.tdiv (wrap64 ((wrap64 (a1 + (wrap64 (wrap32 (t104 * 4))))) - a3)) 4))) = false := decide_eq_false c13
            clear c13
            by_cases c15 : (wrap64 (Int.tdiv (wrap64 ((wrap64 (a1 + (wrap64 (wrap32 (t104 * 4))))) - a3)) 4)) < (-8388608)
            · rw [if_pos c15] at H
              have c15b0 : decide ((wrap64 (Int.tdiv (wrap64 ((wrap64 (a1 + (wrap64 (wrap32 (t104 * 4))))) - a3)) 4)) < (-8388608)) = true := decide_eq_true c15
              clear c15
              replace H := Option.bind_eq_some_iff.mp H
              obtain ⟨t106, A160, H⟩ := H
              replace H : (some (wrap64 (t106), 0 + 1, true)) = some (r1, r2, r3) := H
              have A16 := Aside0.mk A160
              clear A160
              simp only [Option.some.injEq, Prod.mk.injEq] at H
              obtain ⟨rfl, rfl, rfl⟩ := H
              go_enter Try.func33, Try.ntmps33
              go_wp2_with (first | ((with_reducible refine gate_callee (f := 46) rfl ?_); refine goesL_ (some 70) rfl rfl Try.func46 (by kernel_rfl) rfl #[.int .i64 (Go.bits .and .i64 a2 16777215)] rfl (by (try simp only [List.map_toArray, List.map_cons, List.map_nil]); first | done | rfl | (simp only [List.length_drop, List.length_take]; rfl)) ?_; (with_reducible refine (linkreloc_Signext24.calls (Go.bits .and .i64 a2 16777215) t104 _ A12.out).mono ?_); rintro e w' ⟨rfl, ⟨nd, rfl⟩⟩; refine ⟨_, rfl, ?_⟩) | ((with_reducible refine gate_callee (f := 47) rfl ?_); refine goesL_ (some 92) rfl rfl Try.func47 (by kernel_rfl) rfl #[.int .i32 (wrap32 (Go.bits .and .u32 4278190080 ((a2) % 4294967296))), .int .i32 (wrap32 (Go.bits .and .i64 16777215 (wrap64 (Int.tdiv (wrap64 ((wrap64 (a1 + (wrap64 (wrap32 (t104 * 4))))) - a3)) 4))))] rfl (by (try simp only [List.map_toArray, List.map_cons, List.map_nil]); first | done | rfl | (simp only [List.length_drop, List.length_take]; rfl)) ?_; (with_reducible refine (linkreloc_braddoff.calls (wrap32 (Go.bits .and .u32 4278190080 ((a2) % 4294967296))) (wrap32 (Go.bits .and .i64 16777215 (wrap64 (Int.tdiv (wrap64 ((wrap64 (a1 + (wrap64 (wrap32 (t104 * 4))))) - a3)) 4)))) t106 _ A16.out).mono ?_); rintro e w' ⟨rfl, ⟨nd, rfl⟩⟩; refine ⟨_, rfl, ?_⟩))
              go_ret3
              exact ⟨by first | rfl | (simp; done) | (simp [*]; done), by repeat (first | exact Drawn0.refl _ | apply Drawn0.step)⟩
            · rw [if_neg c15] at H
              have c15b0 : decide ((wrap64 (Int.tdiv (wrap64 ((wrap64 (a1 + (wrap64 (wrap32 (t104 * 4))))) - a3)) 4)) < (-8388608)) = false := decide_eq_false c15
              clear c15
              replace H := Option.bind_eq_some_iff.mp H
              obtain ⟨t107, A170, H⟩ := H
              replace H : (some (wrap64 (t107), 0, true)) = some (r1, r2, r3) := H
              have A17 := Aside0.mk A170
              clear A170
              simp only [Option.some.injEq, Prod.mk.injEq] at H
              obtain ⟨rfl, rfl, rfl⟩ := H
              go_enter Try.func33, Try.ntmps33
              go_wp2_with (first | ((with_reducible refine gate_callee (f := 46) rfl ?_); refine goesL_ (some 70) rfl rfl Try.func46 (by kernel_rfl) rfl #[.int .i64 (Go.bits .and .i64 a2 16777215)] rfl (by (try simp only [List.map_toArray, List.map_cons, List.map_nil]); first | done | rfl | (simp only [List.length_drop, List.length_take]; rfl)) ?_; (with_reducible refine (linkreloc_Signext24.calls (Go.bits .and .i64 a2 16777215) t104 _ A12.out).mono ?_); rintro e w' ⟨rfl, ⟨nd, rfl⟩⟩; refine ⟨_, rfl, ?_⟩) | ((with_reducible refine gate_callee (f := 47) rfl ?_); refine goesL_ (some 92) rfl rfl Try.func47 (by kernel_rfl) rfl #[.int .i32 (wrap32 (Go.bits .and .u32 4278190080 ((a2) % 4294967296))), .int .i32 (wrap32 (Go.bits .and .i64 16777215 (wrap64 (Int.tdiv (wrap64 ((wrap64 (a1 + (wrap64 (wrap32 (t104 * 4))))) - a3)) 4))))] rfl (by (try simp only [List.map_toArray, List.map_cons, List.map_nil]); first | done | rfl | (simp only [List.length_drop, List.length_take]; rfl)) ?_; (with_reducible refine (linkreloc_braddoff.calls (wrap32 (Go.bits .and .u32 4278190080 ((a2) % 4294967296))) (wrap32 (Go.bits .and .i64 16777215 (wrap64 (Int.tdiv (wrap64 ((wrap64 (a1 + (wrap64 (wrap32 (t104 * 4))))) - a3)) 4)))) t107 _ A17.out).mono ?_); rintro e w' ⟨rfl, ⟨nd, rfl⟩⟩; refine ⟨_, rfl, ?_⟩))
              go_ret3
              exact ⟨by first | rfl | (simp; done) | (simp [*]; done), by repeat (first | exact Drawn0.refl _ | apply Drawn0.step)⟩
        · rw [if_neg c11] at H
          have c11b0 : (a0 == 25) = false := beq_eq_false_iff_ne.mpr c11
          have c11b1 : (a0 != 25) = true := bne_iff_ne.mpr c11
          simp only [Option.some.injEq, Prod.mk.injEq] at H
          obtain ⟨rfl, rfl, rfl⟩ := H
          go_enter Try.func33, Try.ntmps33
          go_wp2
          go_ret3
          exact ⟨by first | rfl | (simp; done) | (simp [*]; done), by repeat (first | exact Drawn0.refl _ | apply Drawn0.step)⟩

/-! ### impl_Arm: function 24 -/
def impl_Arm.f (a0 : Int) (a1 : Int) (a2 : Int) (a3 : Int) (a4 : Int) (a5 : Int) (a6 : Int) : Option (Int × Int × Bool) := (linkreloc_Arm.f a0 a1 a2 a3 a4 a5 a6).bind fun bt108 => (some (bt108.1, bt108.2.1, bt108.2.2))
set_option maxHeartbeats 8000000 in
set_option maxRecDepth 100000 in
theorem impl_Arm.calls (a0 : Int) (a1 : Int) (a2 : Int) (a3 : Int) (a4 : Int) (a5 : Int) (a6 : Int) (r1 : Int) (r2 : Int) (r3 : Bool) (w : World) (h : impl_Arm.f a0 a1 a2 a3 a4 a5 a6 = some (r1, r2, r3)) :
    Calls Try.prog 24 #[.int .i64 a0, .int .i64 a1, .int .i64 a2, .int .i64 a3, .int .i64 a4, .int .i64 a5, .int .i64 a6] w fun e w' => e = .returned (.tuple #[.int .i64 r1, .int .i64 r2, .bool r3]) ∧ Drawn0 w w' := by
  have H : ((linkreloc_Arm.f a0 a1 a2 a3 a4 a5 a6).bind fun bt108 => (some (bt108.1, bt108.2.1, bt108.2.2))) = some (r1, r2, r3) := h
  clear h
  replace H := Option.bind_eq_some_iff.mp H
  obtain ⟨⟨t108, t109, t110⟩, A80, H⟩ := H
  replace H : (some (t108, t109, t110)) = some (r1, r2, r3) := H
  have A8 := Aside0.mk A80
  clear A80
  simp only [Option.some.injEq, Prod.mk.injEq] at H
  obtain ⟨rfl, rfl, rfl⟩ := H
  go_enter Try.func24, Try.ntmps24
  go_wp2_with (first | ((with_reducible refine gate_callee (f := 33) rfl ?_); refine goesL_ (some 24) rfl rfl Try.func33 (by kernel_rfl) rfl #[.int .i64 a0, .int .i64 a1, .int .i64 a2, .int .i64 a3, .int .i64 a4, .int .i64 a5, .int .i64 a6] rfl (by (try simp only [List.map_toArray, List.map_cons, List.map_nil]); first | done | rfl | (simp only [List.length_drop, List.length_take]; rfl)) ?_; (with_reducible refine (linkreloc_Arm.calls a0 a1 a2 a3 a4 a5 a6 t108 t109 t110 _ A8.out).mono ?_); rintro e w' ⟨rfl, ⟨nd, rfl⟩⟩; refine ⟨_, rfl, ?_⟩))
  go_ret3
  exact ⟨by first | rfl | (simp; done) | (simp [*]; done), by repeat (first | exact Drawn0.refl _ | apply Drawn0.step)⟩

/-! ### laws_FnArmCall: function 8 -/
def laws_FnArmCall.j0 : Nat → Int → Int → Int → Int → Bool → Option (Bool)
  | 0, _, _, _, _, _ => none
  | k + 1, x0, x1, x2, x7, x28 => if x28 = true then (some true) else ((impl_Arm.f 25 x0 (wrap64 (x1)) x2 0 0 0).bind fun bt116 => ((spec_Fits.f x7 26).bind fun t119 => (if t119 = true then (if bt116.2.2 = true then (if bt116.2.1 = 0 then ((spec_Sext.f bt116.1 24).bind fun t120 => (if (wrap64 (t120 * 4)) = x7 then (some ((((bt116.1) % 4294967296) / 16777216) == (x1 / 16777216))) else (some false))) else (some false)) else (some false)) else (some (decide (bt116.2.1 > 0))))))
def laws_FnArmCall.f (k : Nat) (a0 : Int) (a1 : Int) (a2 : Int) : Option (Bool) := (spec_Sext.f (wrap64 (a1)) 24).bind fun t111 => ((laws_near.f k (([a0, a2] : List Int))).bind fun t115 => (if t115 = true then (laws_FnArmCall.j0 k a0 a1 a2 (wrap64 ((wrap64 (a0 + (wrap64 (4 * t111)))) - a2)) ((Int.tmod (wrap64 ((wrap64 (a0 + (wrap64 (4 * t111)))) - a2)) 4) != 0)) else (laws_FnArmCall.j0 k a0 a1 a2 (wrap64 ((wrap64 (a0 + (wrap64 (4 * t111)))) - a2)) true)))
theorem laws_FnArmCall.mono_l : ∀ k, (∀ y0 y1 y2 y3 y4, LeO (laws_FnArmCall.j0 k y0 y1 y2 y3 y4) (laws_FnArmCall.j0 (k + 1) y0 y1 y2 y3 y4))
  | 0 => fun _ _ _ _ _ r h => by simp [laws_FnArmCall.j0] at h
  | k + 1 => by
    have ih0 := laws_FnArmCall.mono_l k
    · intro y0 y1 y2 y3 y4
      unfold laws_FnArmCall.j0
      repeat' first
      | (with_reducible exact ih0 _ _ _ _ _)
      | (with_reducible exact laws_near.mono _ _)
      | (with_reducible exact LeO.refl _)
      | (with_reducible exact LeO.none _)
      | (with_reducible refine LeO.ite ?_ ?_)
      | (with_reducible refine LeO.bind ?_ (fun _ => ?_))
      | exact ih0 _ _ _ _ _
      | exact laws_near.mono _ _
      | exact LeO.none _
      | refine LeO.ite ?_ ?_
      | refine LeO.bind ?_ (fun _ => ?_)
theorem laws_FnArmCall.mono : ∀ a0 a1 a2 k, LeO (laws_FnArmCall.f k a0 a1 a2) (laws_FnArmCall.f (k + 1) a0 a1 a2) := by
  intro a0 a1 a2 k
  have ih0 := laws_FnArmCall.mono_l k
  unfold laws_FnArmCall.f
  repeat' first
      | (with_reducible exact ih0 _ _ _ _ _)
      | (with_reducible exact laws_near.mono _ _)
      | (with_reducible exact LeO.refl _)
      | (with_reducible exact LeO.none _)
      | (with_reducible refine LeO.ite ?_ ?_)
      | (with_reducible refine LeO.bind ?_ (fun _ => ?_))
      | exact ih0 _ _ _ _ _
      | exact laws_near.mono _ _
      | exact LeO.none _
      | refine LeO.ite ?_ ?_
      | refine LeO.bind ?_ (fun _ => ?_)
set_option maxHeartbeats 8000000 in
set_option maxRecDepth 100000 in
theorem laws_FnArmCall.calls (k : Nat) (a0 : Int) (a1 : Int) (a2 : Int) (r : Bool) (w : World) (h : laws_FnArmCall.f k a0 a1 a2 = some r) :
    Calls Try.prog 8 #[.int .i64 a0, .int .u32 a1, .int .i64 a2] w fun e w' => e = .returned (.bool r) ∧ Below w.heap.size w w' := by
  have HB := Aside0.mk (Below.refl w.heap.size w)
  have H : ((spec_Sext.f (wrap64 (a1)) 24).bind fun t111 => ((laws_near.f k (([a0, a2] : List Int))).bind fun t115 => (if t115 = true then (laws_FnArmCall.j0 k a0 a1 a2 (wrap64 ((wrap64 (a0 + (wrap64 (4 * t111)))) - a2)) ((Int.tmod (wrap64 ((wrap64 (a0 + (wrap64 (4 * t111)))) - a2)) 4) != 0)) else (laws_FnArmCall.j0 k a0 a1 a2 (wrap64 ((wrap64 (a0 + (wrap64 (4 * t111)))) - a2)) true)))) = some r := h
  clear h
  replace H := Option.bind_eq_some_iff.mp H
  obtain ⟨t111, A40, H⟩ := H
  replace H : ((laws_near.f k (([a0, a2] : List Int))).bind fun t115 => (if t115 = true then (laws_FnArmCall.j0 k a0 a1 a2 (wrap64 ((wrap64 (a0 + (wrap64 (4 * t111)))) - a2)) ((Int.tmod (wrap64 ((wrap64 (a0 + (wrap64 (4 * t111)))) - a2)) 4) != 0)) else (laws_FnArmCall.j0 k a0 a1 a2 (wrap64 ((wrap64 (a0 + (wrap64 (4 * t111)))) - a2)) true))) = some r := H
  have A4 := Aside0.mk A40
  clear A40
  have HC5 := Aside0.mk H
  clear H
  go_enter Try.func8, Try.ntmps8
  go_upto_region 2 with (first | ((with_reducible refine gate_callee (f := 23) rfl ?_); refine goesL_ (some 14) rfl rfl Try.func23 (by kernel_rfl) rfl #[.int .i64 (wrap64 (a1)), .int .i64 24] rfl (by (try simp only [List.map_toArray, List.map_cons, List.map_nil]); first | done | rfl | (simp only [List.length_drop, List.length_take]; rfl)) ?_; (with_reducible refine (spec_Sext.calls (wrap64 (a1)) 24 t111 _ A4.out).mono ?_); rintro e w' ⟨rfl, ⟨nd, rfl⟩⟩; refine ⟨_, rfl, ?_⟩))
  (try simp only [Act.put, List.setIfInBounds_toArray, List.set_cons_zero, List.set_cons_succ])
  go_cut [28] (fun v28 wc => ∃ (kq : Nat) (x28_4 : Bool), v28 = .bool x28_4 ∧ Aside0 (laws_FnArmCall.j0 kq a0 a1 a2 (wrap64 ((wrap64 (a0 + (wrap64 (4 * t111)))) - a2)) x28_4 = some r) ∧ Aside0 (kq ≤ k) ∧ Aside0 (Below w.heap.size w wc))
  case first =>
    have H := HC5.out
    clear HC5
    obtain ⟨y112, hy112⟩ : ∃ y_ : List Int, y_ = (([a0, a2] : List Int)) := ⟨_, rfl⟩
    replace H : ((laws_near.f k y112).bind fun t115 => (if t115 = true then (laws_FnArmCall.j0 k a0 a1 a2 (wrap64 ((wrap64 (a0 + (wrap64 (4 * t111)))) - a2)) ((Int.tmod (wrap64 ((wrap64 (a0 + (wrap64 (4 * t111)))) - a2)) 4) != 0)) else (laws_FnArmCall.j0 k a0 a1 a2 (wrap64 ((wrap64 (a0 + (wrap64 (4 * t111)))) - a2)) true))) = some r := by first | (rw [hy112]; with_reducible exact H) | (have H2_ := (Option.bind_some _ _).symm.trans H; rw [hy112]; with_reducible exact H2_) | (have H2_ := (Option.bind_some _ _).symm.trans H; with_reducible exact H2_) | with_reducible exact H | (rw [hy112]; exact H) | exact H
    have Ny112 := Aside0.mk hy112
    clear hy112
    replace H := Option.bind_eq_some_iff.mp H
    obtain ⟨t115, A60, H⟩ := H
    replace H : (if t115 = true then (laws_FnArmCall.j0 k a0 a1 a2 (wrap64 ((wrap64 (a0 + (wrap64 (4 * t111)))) - a2)) ((Int.tmod (wrap64 ((wrap64 (a0 + (wrap64 (4 * t111)))) - a2)) 4) != 0)) else (laws_FnArmCall.j0 k a0 a1 a2 (wrap64 ((wrap64 (a0 + (wrap64 (4 * t111)))) - a2)) true)) = some r := H
    have A6 := Aside0.mk A60
    clear A60
    by_cases c7 : t115 = true
    · subst c7
      have H1 : (laws_FnArmCall.j0 k a0 a1 a2 (wrap64 ((wrap64 (a0 + (wrap64 (4 * t111)))) - a2)) ((Int.tmod (wrap64 ((wrap64 (a0 + (wrap64 (4 * t111)))) - a2)) 4) != 0)) = some r := by rw [if_pos rfl] at H; exact H
      clear H
      have H := H1
      clear H1
      have H' := Aside0.mk H
      clear H
      go_wp2_with (first | ((with_reducible refine gate_dst (N := 21) rfl ?_); refine Kd.R_lit (Kd.int .i64) _ 2 ?hg (N := 21) ?hd (xs := ([a0, a2] : List Int)) (inner := [.int .i64 a0, .int .i64 a2]) (ok := fun _ => True) (okp := fun _ => True) ?hr ?hp (fun _ hk => hk) trivial (Below.refl _ _) (Nat.le_refl _) (by simp) ?_; (case hd => rfl); (case hg => rfl); (case hr => first | (go_simp; done) | (go_simp; rfl)); (case hp => exact (Reps.one (show Kd.M (Kd.int .i64) _ _ _ a0 [.int .i64 a0] from rfl) (Reps.one (show Kd.M (Kd.int .i64) _ _ _ a2 [.int .i64 a2] from rfl) (Reps.none _ _)))); intro v113 w8 ho9 hb hg_ hnew_; clear hg_ hnew_; (first | rw [← Ny112.out] at ho9 | (simp only [Int.reduceToNat] at ho9; rw [← Ny112.out] at ho9)); have n0_ := Aside0.mk (Kd.R_lower ho9 (below_size (by repeat (first | (with_reducible first | exact HB.out | apply below_alloc | apply pw_below_drewN | apply below_drew1) | exact HB.out)))); have n1_ := Aside0.mk (below_step (by repeat (first | (with_reducible first | exact HB.out | apply below_alloc | apply pw_below_drewN | apply below_drew1) | exact HB.out)) hb); clear HB; have HO114 := n0_; have HB := n1_; clear n0_ n1_; clear hb ho9; obtain ⟨Ao10, co10, eo10⟩ := Kd.R_slice HO114.out; subst eo10) | ((with_reducible refine gate_callee (f := 12) rfl ?_); refine goesL_ (some 22) rfl rfl Try.func12 (by kernel_rfl) rfl #[.slice Ao10 y112.length co10] rfl (by (try simp only [List.map_toArray, List.map_cons, List.map_nil]); first | done | rfl | (simp only [List.length_drop, List.length_take]; rfl)) ?_; (with_reducible refine (laws_near.calls k _ _ y112 true _ ?side1 ?side2 A6.out).mono ?_); (case side1 => repeat (first | exact (Kd.R_reads' HO114.out).2.2 | (with_reducible refine Kd.C_alloc ?_ _) | (with_reducible refine Kd.C_drewN ?_ _) | (with_reducible refine Kd.C_drew ?_))); (case side2 => exact (Kd.R_reads' HO114.out).2.1); rintro e w' ⟨rfl, ⟨nd, rfl⟩⟩; refine ⟨_, rfl, ?_⟩))
      go_meet
      case rel => exact ⟨_, (((Int.tmod (wrap64 ((wrap64 (a0 + (wrap64 (4 * t111)))) - a2)) 4) != 0)), (by first | rfl | (simp; done) | (simp [*]; done)), H', ⟨by first | omega | exact Nat.le_refl _⟩, ⟨by repeat (first | (with_reducible first | exact HB.out | apply below_alloc | apply pw_below_drewN | apply below_drew1) | exact HB.out)⟩⟩
    · replace c7 := Bool.eq_false_iff.mpr c7
      subst c7
      have H1 : (laws_FnArmCall.j0 k a0 a1 a2 (wrap64 ((wrap64 (a0 + (wrap64 (4 * t111)))) - a2)) true) = some r := by rw [if_neg (show ¬ (false = true) by decide)] at H; exact H
      clear H
      have H := H1
      clear H1
      have H' := Aside0.mk H
      clear H
      go_wp2_with (first | ((with_reducible refine gate_dst (N := 21) rfl ?_); refine Kd.R_lit (Kd.int .i64) _ 2 ?hg (N := 21) ?hd (xs := ([a0, a2] : List Int)) (inner := [.int .i64 a0, .int .i64 a2]) (ok := fun _ => True) (okp := fun _ => True) ?hr ?hp (fun _ hk => hk) trivial (Below.refl _ _) (Nat.le_refl _) (by simp) ?_; (case hd => rfl); (case hg => rfl); (case hr => first | (go_simp; done) | (go_simp; rfl)); (case hp => exact (Reps.one (show Kd.M (Kd.int .i64) _ _ _ a0 [.int .i64 a0] from rfl) (Reps.one (show Kd.M (Kd.int .i64) _ _ _ a2 [.int .i64 a2] from rfl) (Reps.none _ _)))); intro v113 w11 ho12 hb hg_ hnew_; clear hg_ hnew_; (first | rw [← Ny112.out] at ho12 | (simp only [Int.reduceToNat] at ho12; rw [← Ny112.out] at ho12)); have n0_ := Aside0.mk (Kd.R_lower ho12 (below_size (by repeat (first | (with_reducible first | exact HB.out | apply below_alloc | apply pw_below_drewN | apply below_drew1) | exact HB.out)))); have n1_ := Aside0.mk (below_step (by repeat (first | (with_reducible first | exact HB.out | apply below_alloc | apply pw_below_drewN | apply below_drew1) | exact HB.out)) hb); clear HB; have HO114 := n0_; have HB := n1_; clear n0_ n1_; clear hb ho12; obtain ⟨Ao13, co13, eo13⟩ := Kd.R_slice HO114.out; subst eo13) | ((with_reducible refine gate_callee (f := 12) rfl ?_); refine goesL_ (some 22) rfl rfl Try.func12 (by kernel_rfl) rfl #[.slice Ao13 y112.length co13] rfl (by (try simp only [List.map_toArray, List.map_cons, List.map_nil]); first | done | rfl | (simp only [List.length_drop, List.length_take]; rfl)) ?_; (with_reducible refine (laws_near.calls k _ _ y112 false _ ?side1 ?side2 A6.out).mono ?_); (case side1 => repeat (first | exact (Kd.R_reads' HO114.out).2.2 | (with_reducible refine Kd.C_alloc ?_ _) | (with_reducible refine Kd.C_drewN ?_ _) | (with_reducible refine Kd.C_drew ?_))); (case side2 => exact (Kd.R_reads' HO114.out).2.1); rintro e w' ⟨rfl, ⟨nd, rfl⟩⟩; refine ⟨_, rfl, ?_⟩))
      go_meet
      case rel => exact ⟨_, (true), (by first | rfl | (simp; done) | (simp [*]; done)), H', ⟨by first | omega | exact Nat.le_refl _⟩, ⟨by repeat (first | (with_reducible first | exact HB.out | apply below_alloc | apply pw_below_drewN | apply below_drew1) | exact HB.out)⟩⟩
  case rest =>
    clear HC5
    try clear c1
    try clear c2
    try clear p2
    try clear p6
    try clear c7
    try clear c8
    try clear c12
    obtain ⟨kq, x28_4, rfl, HA, HJ4, HB⟩ := hcut
    cases kq with
    | zero => exact absurd HA.out (by simp [laws_FnArmCall.j0])
    | succ kj4 =>
      have H := HA.out
      clear HA
      simp only [laws_FnArmCall.j0] at H
      by_cases c14 : x28_4 = true
      · subst c14
        have H1 : (some true) = some r := by rw [if_pos rfl] at H; exact H
        clear H
        have H := H1
        clear H1
        obtain rfl := Option.some.inj H
        go_wp2
        go_ret
        exact ⟨by first | rfl | (simp [errW_none, errW_some] <;> rfl) | (simp [*, errW_none, errW_some] <;> rfl), by repeat (first | (with_reducible first | exact HB.out | apply below_alloc | apply pw_below_drewN | apply below_drew1) | exact HB.out)⟩
      · replace c14 := Bool.eq_false_iff.mpr c14
        subst c14
        have H1 : ((impl_Arm.f 25 a0 (wrap64 (a1)) a2 0 0 0).bind fun bt116 => ((spec_Fits.f (wrap64 ((wrap64 (a0 + (wrap64 (4 * t111)))) - a2)) 26).bind fun t119 => (if t119 = true then (if bt116.2.2 = true then (if bt116.2.1 = 0 then ((spec_Sext.f bt116.1 24).bind fun t120 => (if (wrap64 (t120 * 4)) = (wrap64 ((wrap64 (a0 + (wrap64 (4 * t111)))) - a2)) then (some ((((bt116.1) % 4294967296) / 16777216) == (a1 / 16777216))) else (some false))) else (some false)) else (some false)) else (some (decide (bt116.2.1 > 0)))))) = some r := by rw [if_neg (show ¬ (false = true) by decide)] at H; exact H
        clear H
        have H := H1
        clear H1
        replace H := Option.bind_eq_some_iff.mp H
        obtain ⟨⟨t116, t117, t118⟩, A150, H⟩ := H
        replace H : ((spec_Fits.f (wrap64 ((wrap64 (a0 + (wrap64 (4 * t111)))) - a2)) 26).bind fun t119 => (if t119 = true then (if t118 = true then (if t117 = 0 then ((spec_Sext.f t116 24).bind fun t120 => (if (wrap64 (t120 * 4)) = (wrap64 ((wrap64 (a0 + (wrap64 (4 * t111)))) - a2)) then (some ((((t116) % 4294967296) / 16777216) == (a1 / 16777216))) else (some false))) else (some false)) else (some false)) else (some (decide (t117 > 0))))) = some r := H
        have A15 := Aside0.mk A150
        clear A150
        replace H := Option.bind_eq_some_iff.mp H
        obtain ⟨t119, A160, H⟩ := H
        replace H : (if t119 = true then (if t118 = true then (if t117 = 0 then ((spec_Sext.f t116 24).bind fun t120 => (if (wrap64 (t120 * 4)) = (wrap64 ((wrap64 (a0 + (wrap64 (4 * t111)))) - a2)) then (some ((((t116) % 4294967296) / 16777216) == (a1 / 16777216))) else (some false))) else (some false)) else (some false)) else (some (decide (t117 > 0)))) = some r := H
        have A16 := Aside0.mk A160
        clear A160
        by_cases c17 : t119 = true
        · subst c17
          have H1 : (if t118 = true then (if t117 = 0 then ((spec_Sext.f t116 24).bind fun t120 => (if (wrap64 (t120 * 4)) = (wrap64 ((wrap64 (a0 + (wrap64 (4 * t111)))) - a2)) then (some ((((t116) % 4294967296) / 16777216) == (a1 / 16777216))) else (some false))) else (some false)) else (some false)) = some r := by rw [if_pos rfl] at H; exact H
          clear H
          have H := H1
          clear H1
          by_cases c18 : t118 = true
          · subst c18
            have H1 : (if t117 = 0 then ((spec_Sext.f t116 24).bind fun t120 => (if (wrap64 (t120 * 4)) = (wrap64 ((wrap64 (a0 + (wrap64 (4 * t111)))) - a2)) then (some ((((t116) % 4294967296) / 16777216) == (a1 / 16777216))) else (some false))) else (some false)) = some r := by rw [if_pos rfl] at H; exact H
            clear H
            have H := H1
            clear H1
            by_cases c19 : t117 = 0
            · rw [if_pos c19] at H
              have c19b0 : (t117 == 0) = true := beq_iff_eq.mpr c19
              have c19b1 : (t117 != 0) = false := bne_eq_false_iff_eq.mpr c19
              clear c19
              replace H := Option.bind_eq_some_iff.mp H
              obtain ⟨t120, A200, H⟩ := H
              replace H : (if (wrap64 (t120 * 4)) = (wrap64 ((wrap64 (a0 + (wrap64 (4 * t111)))) - a2)) then (some ((((t116) % 4294967296) / 16777216) == (a1 / 16777216))) else (some false)) = some r := H
              have A20 := Aside0.mk A200
              clear A200
              by_cases c21 : (wrap64 (t120 * 4)) = (wrap64 ((wrap64 (a0 + (wrap64 (4 * t111)))) - a2))
              · rw [if_pos c21] at H
                have c21b0 : ((wrap64 (t120 * 4)) == (wrap64 ((wrap64 (a0 + (wrap64 (4 * t111)))) - a2))) = true := beq_iff_eq.mpr c21
                have c21b1 : ((wrap64 (t120 * 4)) != (wrap64 ((wrap64 (a0 + (wrap64 (4 * t111)))) - a2))) = false := bne_eq_false_iff_eq.mpr c21
                clear c21
                obtain rfl := Option.some.inj H
                go_wp2_with (first | ((with_reducible refine gate_callee (f := 24) rfl ?_); refine goesL_ (some 34) rfl rfl Try.func24 (by kernel_rfl) rfl #[.int .i64 25, .int .i64 a0, .int .i64 (wrap64 (a1)), .int .i64 a2, .int .i64 0, .int .i64 0, .int .i64 0] rfl (by (try simp only [List.map_toArray, List.map_cons, List.map_nil]); first | done | rfl | (simp only [List.length_drop, List.length_take]; rfl)) ?_; (with_reducible refine (impl_Arm.calls 25 a0 (wrap64 (a1)) a2 0 0 0 t116 t117 true _ A15.out).mono ?_); rintro e w' ⟨rfl, ⟨nd, rfl⟩⟩; refine ⟨_, rfl, ?_⟩) | ((with_reducible refine gate_callee (f := 15) rfl ?_); refine goesL_ (some 39) rfl rfl Try.func15 (by kernel_rfl) rfl #[.int .i64 (wrap64 ((wrap64 (a0 + (wrap64 (4 * t111)))) - a2)), .int .i64 26] rfl (by (try simp only [List.map_toArray, List.map_cons, List.map_nil]); first | done | rfl | (simp only [List.length_drop, List.length_take]; rfl)) ?_; (with_reducible refine (spec_Fits.calls (wrap64 ((wrap64 (a0 + (wrap64 (4 * t111)))) - a2)) 26 true _ A16.out).mono ?_); rintro e w' ⟨rfl, ⟨nd, rfl⟩⟩; refine ⟨_, rfl, ?_⟩) | (go_at_call 23; (with_reducible refine (spec_Sext.calls t116 24 t120 _ A20.out).mono ?_); rintro e w' ⟨rfl, ⟨nd, rfl⟩⟩))
                go_ret
                exact ⟨by first | rfl | (simp [errW_none, errW_some] <;> rfl) | (simp [*, errW_none, errW_some] <;> rfl), by repeat (first | (with_reducible first | exact HB.out | apply below_alloc | apply pw_below_drewN | apply below_drew1) | exact HB.out)⟩
              · rw [if_neg c21] at H
                have c21b0 : ((wrap64 (t120 * 4)) == (wrap64 ((wrap64 (a0 + (wrap64 (4 * t111)))) - a2))) = false := beq_eq_false_iff_ne.mpr c21
                have c21b1 : ((wrap64 (t120 * 4)) != (wrap64 ((wrap64 (a0 + (wrap64 (4 * t111)))) - a2))) = true := bne_iff_ne.mpr c21
                obtain rfl := Option.some.inj H
                go_wp2_with (first | ((with_reducible refine gate_callee (f := 24) rfl ?_); refine goesL_ (some 34) rfl rfl Try.func24 (by kernel_rfl) rfl #[.int .i64 25, .int .i64 a0, .int .i64 (wrap64 (a1)), .int .i64 a2, .int .i64 0, .int .i64 0, .int .i64 0] rfl (by (try simp only [List.map_toArray, List.map_cons, List.map_nil]); first | done | rfl | (simp only [List.length_drop, List.length_take]; rfl)) ?_; (with_reducible refine (impl_Arm.calls 25 a0 (wrap64 (a1)) a2 0 0 0 t116 t117 true _ A15.out).mono ?_); rintro e w' ⟨rfl, ⟨nd, rfl⟩⟩; refine ⟨_, rfl, ?_⟩) | ((with_reducible refine gate_callee (f := 15) rfl ?_); refine goesL_ (some 39) rfl rfl Try.func15 (by kernel_rfl) rfl #[.int .i64 (wrap64 ((wrap64 (a0 + (wrap64 (4 * t111)))) - a2)), .int .i64 26] rfl (by (try simp only [List.map_toArray, List.map_cons, List.map_nil]); first | done | rfl | (simp only [List.length_drop, List.length_take]; rfl)) ?_; (with_reducible refine (spec_Fits.calls (wrap64 ((wrap64 (a0 + (wrap64 (4 * t111)))) - a2)) 26 true _ A16.out).mono ?_); rintro e w' ⟨rfl, ⟨nd, rfl⟩⟩; refine ⟨_, rfl, ?_⟩) | (go_at_call 23; (with_reducible refine (spec_Sext.calls t116 24 t120 _ A20.out).mono ?_); rintro e w' ⟨rfl, ⟨nd, rfl⟩⟩))
                go_ret
                exact ⟨by first | rfl | (simp [errW_none, errW_some] <;> rfl) | (simp [*, errW_none, errW_some] <;> rfl), by repeat (first | (with_reducible first | exact HB.out | apply below_alloc | apply pw_below_drewN | apply below_drew1) | exact HB.out)⟩
            · rw [if_neg c19] at H
              have c19b0 : (t117 == 0) = false := beq_eq_false_iff_ne.mpr c19
              have c19b1 : (t117 != 0) = true := bne_iff_ne.mpr c19
              obtain rfl := Option.some.inj H
              go_wp2_with (first | ((with_reducible refine gate_callee (f := 24) rfl ?_); refine goesL_ (some 34) rfl rfl Try.func24 (by kernel_rfl) rfl #[.int .i64 25, .int .i64 a0, .int .i64 (wrap64 (a1)), .int .i64 a2, .int .i64 0, .int .i64 0, .int .i64 0] rfl (by (try simp only [List.map_toArray, List.map_cons, List.map_nil]); first | done | rfl | (simp only [List.length_drop, List.length_take]; rfl)) ?_; (with_reducible refine (impl_Arm.calls 25 a0 (wrap64 (a1)) a2 0 0 0 t116 t117 true _ A15.out).mono ?_); rintro e w' ⟨rfl, ⟨nd, rfl⟩⟩; refine ⟨_, rfl, ?_⟩) | ((with_reducible refine gate_callee (f := 15) rfl ?_); refine goesL_ (some 39) rfl rfl Try.func15 (by kernel_rfl) rfl #[.int .i64 (wrap64 ((wrap64 (a0 + (wrap64 (4 * t111)))) - a2)), .int .i64 26] rfl (by (try simp only [List.map_toArray, List.map_cons, List.map_nil]); first | done | rfl | (simp only [List.length_drop, List.length_take]; rfl)) ?_; (with_reducible refine (spec_Fits.calls (wrap64 ((wrap64 (a0 + (wrap64 (4 * t111)))) - a2)) 26 true _ A16.out).mono ?_); rintro e w' ⟨rfl, ⟨nd, rfl⟩⟩; refine ⟨_, rfl, ?_⟩))
              go_ret
              exact ⟨by first | rfl | (simp [errW_none, errW_some] <;> rfl) | (simp [*, errW_none, errW_some] <;> rfl), by repeat (first | (with_reducible first | exact HB.out | apply below_alloc | apply pw_below_drewN | apply below_drew1) | exact HB.out)⟩
          · replace c18 := Bool.eq_false_iff.mpr c18
            subst c18
            have H1 : (some false) = some r := by rw [if_neg (show ¬ (false = true) by decide)] at H; exact H
            clear H
            have H := H1
            clear H1
            obtain rfl := Option.some.inj H
            go_wp2_with (first | ((with_reducible refine gate_callee (f := 24) rfl ?_); refine goesL_ (some 34) rfl rfl Try.func24 (by kernel_rfl) rfl #[.int .i64 25, .int .i64 a0, .int .i64 (wrap64 (a1)), .int .i64 a2, .int .i64 0, .int .i64 0, .int .i64 0] rfl (by (try simp only [List.map_toArray, List.map_cons, List.map_nil]); first | done | rfl | (simp only [List.length_drop, List.length_take]; rfl)) ?_; (with_reducible refine (impl_Arm.calls 25 a0 (wrap64 (a1)) a2 0 0 0 t116 t117 false _ A15.out).mono ?_); rintro e w' ⟨rfl, ⟨nd, rfl⟩⟩; refine ⟨_, rfl, ?_⟩) | ((with_reducible refine gate_callee (f := 15) rfl ?_); refine goesL_ (some 39) rfl rfl Try.func15 (by kernel_rfl) rfl #[.int .i64 (wrap64 ((wrap64 (a0 + (wrap64 (4 * t111)))) - a2)), .int .i64 26] rfl (by (try simp only [List.map_toArray, List.map_cons, List.map_nil]); first | done | rfl | (simp only [List.length_drop, List.length_take]; rfl)) ?_; (with_reducible refine (spec_Fits.calls (wrap64 ((wrap64 (a0 + (wrap64 (4 * t111)))) - a2)) 26 true _ A16.out).mono ?_); rintro e w' ⟨rfl, ⟨nd, rfl⟩⟩; refine ⟨_, rfl, ?_⟩))
            go_ret
            exact ⟨by first | rfl | (simp [errW_none, errW_some] <;> rfl) | (simp [*, errW_none, errW_some] <;> rfl), by repeat (first | (with_reducible first | exact HB.out | apply below_alloc | apply pw_below_drewN | apply below_drew1) | exact HB.out)⟩
        · replace c17 := Bool.eq_false_iff.mpr c17
          subst c17
          have H1 : (some (decide (t117 > 0))) = some r := by rw [if_neg (show ¬ (false = true) by decide)] at H; exact H
          clear H
          have H := H1
          clear H1
          obtain rfl := Option.some.inj H
          go_wp2_with (first | ((with_reducible refine gate_callee (f := 24) rfl ?_); refine goesL_ (some 34) rfl rfl Try.func24 (by kernel_rfl) rfl #[.int .i64 25, .int .i64 a0, .int .i64 (wrap64 (a1)), .int .i64 a2, .int .i64 0, .int .i64 0, .int .i64 0] rfl (by (try simp only [List.map_toArray, List.map_cons, List.map_nil]); first | done | rfl | (simp only [List.length_drop, List.length_take]; rfl)) ?_; (with_reducible refine (impl_Arm.calls 25 a0 (wrap64 (a1)) a2 0 0 0 t116 t117 t118 _ A15.out).mono ?_); rintro e w' ⟨rfl, ⟨nd, rfl⟩⟩; refine ⟨_, rfl, ?_⟩) | ((with_reducible refine gate_callee (f := 15) rfl ?_); refine goesL_ (some 39) rfl rfl Try.func15 (by kernel_rfl) rfl #[.int .i64 (wrap64 ((wrap64 (a0 + (wrap64 (4 * t111)))) - a2)), .int .i64 26] rfl (by (try simp only [List.map_toArray, List.map_cons, List.map_nil]); first | done | rfl | (simp only [List.length_drop, List.length_take]; rfl)) ?_; (with_reducible refine (spec_Fits.calls (wrap64 ((wrap64 (a0 + (wrap64 (4 * t111)))) - a2)) 26 false _ A16.out).mono ?_); rintro e w' ⟨rfl, ⟨nd, rfl⟩⟩; refine ⟨_, rfl, ?_⟩))
          go_ret
          exact ⟨by first | rfl | (simp [errW_none, errW_some] <;> rfl) | (simp [*, errW_none, errW_some] <;> rfl), by repeat (first | (with_reducible first | exact HB.out | apply below_alloc | apply pw_below_drewN | apply below_drew1) | exact HB.out)⟩

/-- THE ONE PURE STATEMENT of laws_FnArmCall: yours. -/
def laws_FnArmCall.Pure : Prop := ∀ (a0 : Int) (a1 : Int) (a2 : Int), (Lit.int .i64 a0).wf = true → (Lit.int .u32 a1).wf = true → (Lit.int .i64 a2).wf = true → ∃ k, laws_FnArmCall.f k a0 a1 a2 = some true
theorem laws_FnArmCall.walk (P : laws_FnArmCall.Pure) (a0 : Int) (a1 : Int) (a2 : Int) (w : World) (w0 : (Lit.int .i64 a0).wf = true) (w1 : (Lit.int .u32 a1).wf = true) (w2 : (Lit.int .i64 a2).wf = true) :
    Calls Try.prog 8 #[.int .i64 a0, .int .u32 a1, .int .i64 a2] w fun e w' => e = .returned (.bool true) ∧ Below w.heap.size w w' := by
  obtain ⟨k, h⟩ := P a0 a1 a2 w0 w1 w2
  refine (laws_FnArmCall.calls k a0 a1 a2 true w h).mono ?_
  rintro e w' ⟨rfl, hd⟩
  exact ⟨rfl, hd⟩

end Go.Proofs.Ytijikeoehbllcaa.PFnArmCall
