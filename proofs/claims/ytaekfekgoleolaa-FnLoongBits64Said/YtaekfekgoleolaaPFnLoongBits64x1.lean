-- PRINTED BY print.sh 35421559b90ae4d0a3588c463048766b98c2df88dd9212a6774a882060cdf62d: not written by this session
import Derived.Test.YtaekfekgoleolaaPFnLoongBits64x0
namespace Go.Proofs.Ytaekfekgoleolaa.PFnLoongBits64
open Go.RowKit Go.Proofs.YtaekfekgoleolaaW.PrintWords Go.Proofs.YtaekfekgoleolaaW.PrintLast Go.Proofs.YtaekfekgoleolaaW.PrintMore
attribute [local go_sem] max2_int min2_int max_two min_two max_three min_three max_four min_four   -- for this text's walks alone
set_option linter.unusedVariables false
set_option linter.unusedSimpArgs false

/-! ### linkreloc_PC32RelocBits: function 52 -/
def linkreloc_PC32RelocBits.f (a0 : Int) (a1 : Int) (a2 : Int) : Option (Int) := if a0 = 37 then (some (Go.bits .and .i64 a1 4095)) else (if (Go.bits .and .i64 a1 4095) ≥ 2048 then (some (Go.bits .and .i64 ((wrap64 ((wrap64 ((Go.bits .and .i64 a1 (-4096)) - (Go.bits .and .i64 a2 (-4096)))) + 4096)) / 4096) 1048575)) else (some (Go.bits .and .i64 ((wrap64 ((Go.bits .and .i64 a1 (-4096)) - (Go.bits .and .i64 a2 (-4096)))) / 4096) 1048575)))
set_option maxHeartbeats 8000000 in
set_option maxRecDepth 100000 in
theorem linkreloc_PC32RelocBits.calls (a0 : Int) (a1 : Int) (a2 : Int) (r : Int) (w : World) (h : linkreloc_PC32RelocBits.f a0 a1 a2 = some r) :
    Calls Try.prog 52 #[.int .i64 a0, .int .i64 a1, .int .i64 a2] w fun e w' => e = .returned (.int .i64 r) ∧ Drawn0 w w' := by
  have H : (if a0 = 37 then (some (Go.bits .and .i64 a1 4095)) else (if (Go.bits .and .i64 a1 4095) ≥ 2048 then (some (Go.bits .and .i64 ((wrap64 ((wrap64 ((Go.bits .and .i64 a1 (-4096)) - (Go.bits .and .i64 a2 (-4096)))) + 4096)) / 4096) 1048575)) else (some (Go.bits .and .i64 ((wrap64 ((Go.bits .and .i64 a1 (-4096)) - (Go.bits .and .i64 a2 (-4096)))) / 4096) 1048575)))) = some r := h
  clear h
  by_cases c4 : a0 = 37
  · rw [if_pos c4] at H
    have c4b0 : (a0 == 37) = true := beq_iff_eq.mpr c4
    have c4b1 : (a0 != 37) = false := bne_eq_false_iff_eq.mpr c4
    clear c4
    obtain rfl := Option.some.inj H
    go_enter Try.func52, Try.ntmps52
    go_wp2
    go_ret
    exact ⟨by first | rfl | (simp; done) | (simp [*]; done), by repeat (first | exact Drawn0.refl _ | apply Drawn0.step)⟩
  · rw [if_neg c4] at H
    have c4b0 : (a0 == 37) = false := beq_eq_false_iff_ne.mpr c4
    have c4b1 : (a0 != 37) = true := bne_iff_ne.mpr c4
    by_cases c5 : (Go.bits .and .i64 a1 4095) ≥ 2048
    · rw [if_pos c5] at H
      have c5b0 : decide (2048 ≤ (Go.bits .and .i64 a1 4095)) = true := decide_eq_true c5
      clear c5
      obtain rfl := Option.some.inj H
      go_enter Try.func52, Try.ntmps52
      go_wp2
      go_ret
      exact ⟨by first | rfl | (simp; done) | (simp [*]; done), by repeat (first | exact Drawn0.refl _ | apply Drawn0.step)⟩
    · rw [if_neg c5] at H
      have c5b0 : decide (2048 ≤ (Go.bits .and .i64 a1 4095)) = false := decide_eq_false c5
      clear c5
      obtain rfl := Option.some.inj H
      go_enter Try.func52, Try.ntmps52
      go_wp2
      go_ret
      exact ⟨by first | rfl | (simp; done) | (simp [*]; done), by repeat (first | exact Drawn0.refl _ | apply Drawn0.step)⟩

/-! ### impl_PC32RelocBits: function 36 -/
def impl_PC32RelocBits.f (a0 : Int) (a1 : Int) (a2 : Int) : Option (Int) := (linkreloc_PC32RelocBits.f a0 a1 a2).bind fun t101 => (some t101)
set_option maxHeartbeats 8000000 in
set_option maxRecDepth 100000 in
theorem impl_PC32RelocBits.calls (a0 : Int) (a1 : Int) (a2 : Int) (r : Int) (w : World) (h : impl_PC32RelocBits.f a0 a1 a2 = some r) :
    Calls Try.prog 36 #[.int .i64 a0, .int .i64 a1, .int .i64 a2] w fun e w' => e = .returned (.int .i64 r) ∧ Drawn0 w w' := by
  have H : ((linkreloc_PC32RelocBits.f a0 a1 a2).bind fun t101 => (some t101)) = some r := h
  clear h
  replace H := Option.bind_eq_some_iff.mp H
  obtain ⟨t101, A40, H⟩ := H
  replace H : (some t101) = some r := H
  have A4 := Aside0.mk A40
  clear A40
  obtain rfl := Option.some.inj H
  go_enter Try.func36, Try.ntmps36
  go_wp2_with (first | ((with_reducible refine gate_callee (f := 52) rfl ?_); refine goesL_ (some 10) rfl rfl Try.func52 (by kernel_rfl) rfl #[.int .i64 a0, .int .i64 a1, .int .i64 a2] rfl (by (try simp only [List.map_toArray, List.map_cons, List.map_nil]); first | done | rfl | (simp only [List.length_drop, List.length_take]; rfl)) ?_; (with_reducible refine (linkreloc_PC32RelocBits.calls a0 a1 a2 t101 _ A4.out).mono ?_); rintro e w' ⟨rfl, ⟨nd, rfl⟩⟩; refine ⟨_, rfl, ?_⟩))
  go_ret
  exact ⟨by first | rfl | (simp; done) | (simp [*]; done), by repeat (first | exact Drawn0.refl _ | apply Drawn0.step)⟩

/-! ### spec_Sext: function 37 -/
def spec_Sext.f (a0 : Int) (a1 : Int) : Option (Int) := if 0 ≤ (wrap64 (64 - a1)) then (some (shr .i64 (shl .i64 a0 (wrap64 (64 - a1))) (wrap64 (64 - a1)))) else (none)
set_option maxHeartbeats 8000000 in
set_option maxRecDepth 100000 in
theorem spec_Sext.calls (a0 : Int) (a1 : Int) (r : Int) (w : World) (h : spec_Sext.f a0 a1 = some r) :
    Calls Try.prog 37 #[.int .i64 a0, .int .i64 a1] w fun e w' => e = .returned (.int .i64 r) ∧ Drawn0 w w' := by
  have H : (if 0 ≤ (wrap64 (64 - a1)) then (some (shr .i64 (shl .i64 a0 (wrap64 (64 - a1))) (wrap64 (64 - a1)))) else (none)) = some r := h
  clear h
  obtain ⟨ji3, hji3⟩ : ∃ j_ : Int, (wrap64 (64 - a1)) = j_ := ⟨_, rfl⟩
  replace H : (if 0 ≤ (ji3) then (some (shr .i64 (shl .i64 a0 (ji3)) (ji3))) else (none)) = some r := by first | (rw [hji3] at H; exact H) | (simp only [hji3] at H ⊢; exact H)
  have hji3w : (IntKind.i64.wrap (64 - a1)) = ji3 := (i64_w _).trans hji3
  by_cases c4 : 0 ≤ (ji3)
  · rw [if_pos c4] at H
    have c4b0 := eq_true c4
    have c4b1 : decide (0 ≤ (ji3)) = true := decide_eq_true c4
    clear c4
    obtain ⟨ji5, hji5⟩ : ∃ j_ : Int, (shl .i64 a0 (ji3)) = j_ := ⟨_, rfl⟩
    replace H : (some (shr .i64 (ji5) (ji3))) = some r := by first | (rw [hji5] at H; exact H) | (simp only [hji5] at H ⊢; exact H)
    have hji5_ : (IntKind.i64.wrap (a0 * 2 ^ min (ji3).toNat 64)) = ji5 := hji5
    have hji5z : (ji3) ≤ 64 → (IntKind.i64.wrap (a0 * 2 ^ (ji3).toNat)) = ji5 := shl_small hji5
    have hji5y : (wrap64 (a0 * 2 ^ min (ji3).toNat 64)) = ji5 := (i64_w _).symm.trans hji5_
    have hji5x : (ji3) ≤ 64 → (wrap64 (a0 * 2 ^ (ji3).toNat)) = ji5 := fun h_ => (i64_w _).symm.trans (hji5z h_)
    have c6b0 := eq_true (of_decide_eq_true (by first | (with_reducible assumption) | assumption) : 0 ≤ (ji3))
    obtain ⟨ji7, hji7⟩ : ∃ j_ : Int, (shr .i64 (ji5) (ji3)) = j_ := ⟨_, rfl⟩
    replace H : (some ji7) = some r := by first | (rw [hji7] at H; exact H) | (simp only [hji7] at H ⊢; exact H)
    have hji7_ : ((ji5) / 2 ^ min (ji3).toNat 64) = ji7 := hji7
    have hji7z : (ji3) ≤ 64 → ((ji5) / 2 ^ (ji3).toNat) = ji7 := shr_small hji7
    obtain rfl := Option.some.inj H
    go_enter Try.func37, Try.ntmps37
    go_wp2
    go_ret
    exact ⟨by first | rfl | (simp; done) | (simp only [← hji3, ← hji5, ← hji7] <;> (first | rfl | simp)) | (simp [*]; done), by repeat (first | exact Drawn0.refl _ | apply Drawn0.step)⟩
  · rw [if_neg c4] at H
    exact absurd H (by simp)

/-! ### linkreloc_PC64RelocBits: function 53 -/
def linkreloc_PC64RelocBits.j0 : Nat → Int → Int → Option (Int)
  | 0, _, _ => none
  | k + 1, x0, x8 => if (Go.bits .and .i64 x8 2147483648) = 0 then (if x0 = 35 then (some (Go.bits .and .i64 (x8 / 4294967296) 1048575)) else (some (Go.bits .and .i64 (x8 / 4503599627370496) 4095))) else (if x0 = 35 then (some (Go.bits .and .i64 ((wrap64 (x8 + 4294967296)) / 4294967296) 1048575)) else (some (Go.bits .and .i64 ((wrap64 (x8 + 4294967296)) / 4503599627370496) 4095)))
def linkreloc_PC64RelocBits.f (k : Nat) (a0 : Int) (a1 : Int) (a2 : Int) : Option (Int) := if (Go.bits .and .i64 a1 4095) ≥ 2048 then (linkreloc_PC64RelocBits.j0 k a0 (wrap64 ((wrap64 ((Go.bits .and .i64 a1 (-4096)) - (Go.bits .and .i64 a2 (-4096)))) + (-4294963200)))) else (linkreloc_PC64RelocBits.j0 k a0 (wrap64 ((Go.bits .and .i64 a1 (-4096)) - (Go.bits .and .i64 a2 (-4096)))))
theorem linkreloc_PC64RelocBits.mono_l : ∀ k, (∀ y0 y1, LeO (linkreloc_PC64RelocBits.j0 k y0 y1) (linkreloc_PC64RelocBits.j0 (k + 1) y0 y1))
  | 0 => fun _ _ r h => by simp [linkreloc_PC64RelocBits.j0] at h
  | k + 1 => by
    have ih0 := linkreloc_PC64RelocBits.mono_l k
    · intro y0 y1
      unfold linkreloc_PC64RelocBits.j0
      repeat' first
      | (with_reducible exact ih0 _ _)
      | (with_reducible exact LeO.refl _)
      | (with_reducible exact LeO.none _)
      | (with_reducible refine LeO.ite ?_ ?_)
      | (with_reducible refine LeO.bind ?_ (fun _ => ?_))
      | exact ih0 _ _
      | exact LeO.none _
      | refine LeO.ite ?_ ?_
      | refine LeO.bind ?_ (fun _ => ?_)
theorem linkreloc_PC64RelocBits.mono : ∀ a0 a1 a2 k, LeO (linkreloc_PC64RelocBits.f k a0 a1 a2) (linkreloc_PC64RelocBits.f (k + 1) a0 a1 a2) := by
  intro a0 a1 a2 k
  have ih0 := linkreloc_PC64RelocBits.mono_l k
  unfold linkreloc_PC64RelocBits.f
  repeat' first
      | (with_reducible exact ih0 _ _)
      | (with_reducible exact LeO.refl _)
      | (with_reducible exact LeO.none _)
      | (with_reducible refine LeO.ite ?_ ?_)
      | (with_reducible refine LeO.bind ?_ (fun _ => ?_))
      | exact ih0 _ _
      | exact LeO.none _
      | refine LeO.ite ?_ ?_
      | refine LeO.bind ?_ (fun _ => ?_)
set_option maxHeartbeats 8000000 in
set_option maxRecDepth 100000 in
theorem linkreloc_PC64RelocBits.calls (k : Nat) (a0 : Int) (a1 : Int) (a2 : Int) (r : Int) (w : World) (h : linkreloc_PC64RelocBits.f k a0 a1 a2 = some r) :
    Calls Try.prog 53 #[.int .i64 a0, .int .i64 a1, .int .i64 a2] w fun e w' => e = .returned (.int .i64 r) ∧ Drawn0 w w' := by
  have H : (if (Go.bits .and .i64 a1 4095) ≥ 2048 then (linkreloc_PC64RelocBits.j0 k a0 (wrap64 ((wrap64 ((Go.bits .and .i64 a1 (-4096)) - (Go.bits .and .i64 a2 (-4096)))) + (-4294963200)))) else (linkreloc_PC64RelocBits.j0 k a0 (wrap64 ((Go.bits .and .i64 a1 (-4096)) - (Go.bits .and .i64 a2 (-4096)))))) = some r := h
  clear h
  have HC4 := Aside0.mk H
  clear H
  go_enter Try.func53, Try.ntmps53
  go_upto_if 17 with (fail)
  go_cut [8] (fun v8 wc => ∃ (kq : Nat) (x8_3 : Int), v8 = .int .i64 x8_3 ∧ Aside0 (linkreloc_PC64RelocBits.j0 kq a0 x8_3 = some r) ∧ Aside0 (kq ≤ k) ∧ Drawn0 w wc)
  case first =>
    have H := HC4.out
    clear HC4
    by_cases c5 : (Go.bits .and .i64 a1 4095) ≥ 2048
    · rw [if_pos c5] at H
      have c5b0 : decide (2048 ≤ (Go.bits .and .i64 a1 4095)) = true := decide_eq_true c5
      clear c5
      (first | rw [c5b0] | (simp only [i64_w, i32_w]; rw [c5b0]) | skip)
      have H' := Aside0.mk H
      clear H
      go_wp2
      go_meet
      case rel => exact ⟨_, (wrap64 ((wrap64 ((Go.bits .and .i64 a1 (-4096)) - (Go.bits .and .i64 a2 (-4096)))) + (-4294963200))), (by first | rfl | (simp; done) | (simp [*]; done)), H', ⟨by first | omega | exact Nat.le_refl _⟩, by repeat (first | exact Drawn0.refl _ | apply Drawn0.step)⟩
    · rw [if_neg c5] at H
      have c5b0 : decide (2048 ≤ (Go.bits .and .i64 a1 4095)) = false := decide_eq_false c5
      clear c5
      (first | rw [c5b0] | (simp only [i64_w, i32_w]; rw [c5b0]) | skip)
      have H' := Aside0.mk H
      clear H
      go_wp2
      go_meet
      case rel => exact ⟨_, (wrap64 ((Go.bits .and .i64 a1 (-4096)) - (Go.bits .and .i64 a2 (-4096)))), (by first | rfl | (simp; done) | (simp [*]; done)), H', ⟨by first | omega | exact Nat.le_refl _⟩, by repeat (first | exact Drawn0.refl _ | apply Drawn0.step)⟩
  case rest =>
    clear HC4
    try clear p2
    try clear c5
    try clear c5b0
    obtain ⟨kq, x8_3, rfl, HA, HJ3, ⟨mc3, rfl⟩⟩ := hcut
    cases kq with
    | zero => exact absurd HA.out (by simp [linkreloc_PC64RelocBits.j0])
    | succ kj3 =>
      have H := HA.out
      clear HA
      simp only [linkreloc_PC64RelocBits.j0] at H
      by_cases c6 : (Go.bits .and .i64 x8_3 2147483648) = 0
      · rw [if_pos c6] at H
        have c6b0 : ((Go.bits .and .i64 x8_3 2147483648) == 0) = true := beq_iff_eq.mpr c6
        have c6b1 : ((Go.bits .and .i64 x8_3 2147483648) != 0) = false := bne_eq_false_iff_eq.mpr c6
        clear c6
        by_cases c7 : a0 = 35
        · rw [if_pos c7] at H
          have c7b0 : (a0 == 35) = true := beq_iff_eq.mpr c7
          have c7b1 : (a0 != 35) = false := bne_eq_false_iff_eq.mpr c7
          clear c7
          obtain rfl := Option.some.inj H
          go_wp2
          go_ret
          exact ⟨by first | rfl | (simp; done) | (simp [*]; done), by repeat (first | exact Drawn0.refl _ | apply Drawn0.step)⟩
        · rw [if_neg c7] at H
          have c7b0 : (a0 == 35) = false := beq_eq_false_iff_ne.mpr c7
          have c7b1 : (a0 != 35) = true := bne_iff_ne.mpr c7
          obtain rfl := Option.some.inj H
          go_wp2
          go_ret
          exact ⟨by first | rfl | (simp; done) | (simp [*]; done), by repeat (first | exact Drawn0.refl _ | apply Drawn0.step)⟩
      · rw [if_neg c6] at H
        have c6b0 : ((Go.bits .and .i64 x8_3 2147483648) == 0) = false := beq_eq_false_iff_ne.mpr c6
        have c6b1 : ((Go.bits .and .i64 x8_3 2147483648) != 0) = true := bne_iff_ne.mpr c6
        by_cases c8 : a0 = 35
        · rw [if_pos c8] at H
          have c8b0 : (a0 == 35) = true := beq_iff_eq.mpr c8
          have c8b1 : (a0 != 35) = false := bne_eq_false_iff_eq.mpr c8
          clear c8
          obtain rfl := Option.some.inj H
          go_wp2
          go_ret
          exact ⟨by first | rfl | (simp; done) | (simp [*]; done), by repeat (first | exact Drawn0.refl _ | apply Drawn0.step)⟩
        · rw [if_neg c8] at H
          have c8b0 : (a0 == 35) = false := beq_eq_false_iff_ne.mpr c8
          have c8b1 : (a0 != 35) = true := bne_iff_ne.mpr c8
          obtain rfl := Option.some.inj H
          go_wp2
          go_ret
          exact ⟨by first | rfl | (simp; done) | (simp [*]; done), by repeat (first | exact Drawn0.refl _ | apply Drawn0.step)⟩

/-! ### impl_PC64RelocBits: function 38 -/
def impl_PC64RelocBits.f (k : Nat) (a0 : Int) (a1 : Int) (a2 : Int) : Option (Int) := (linkreloc_PC64RelocBits.f k a0 a1 a2).bind fun t102 => (some t102)
theorem impl_PC64RelocBits.mono : ∀ a0 a1 a2 k, LeO (impl_PC64RelocBits.f k a0 a1 a2) (impl_PC64RelocBits.f (k + 1) a0 a1 a2) := by
  intro a0 a1 a2 k
  unfold impl_PC64RelocBits.f
  repeat' first
      | (with_reducible exact linkreloc_PC64RelocBits.mono _ _ _ _)
      | (with_reducible exact LeO.refl _)
      | (with_reducible exact LeO.none _)
      | (with_reducible refine LeO.ite ?_ ?_)
      | (with_reducible refine LeO.bind ?_ (fun _ => ?_))
      | exact linkreloc_PC64RelocBits.mono _ _ _ _
      | exact LeO.none _
      | refine LeO.ite ?_ ?_
      | refine LeO.bind ?_ (fun _ => ?_)
set_option maxHeartbeats 8000000 in
set_option maxRecDepth 100000 in
theorem impl_PC64RelocBits.calls (k : Nat) (a0 : Int) (a1 : Int) (a2 : Int) (r : Int) (w : World) (h : impl_PC64RelocBits.f k a0 a1 a2 = some r) :
    Calls Try.prog 38 #[.int .i64 a0, .int .i64 a1, .int .i64 a2] w fun e w' => e = .returned (.int .i64 r) ∧ Drawn0 w w' := by
  have H : ((linkreloc_PC64RelocBits.f k a0 a1 a2).bind fun t102 => (some t102)) = some r := h
  clear h
  replace H := Option.bind_eq_some_iff.mp H
  obtain ⟨t102, A40, H⟩ := H
  replace H : (some t102) = some r := H
  have A4 := Aside0.mk A40
  clear A40
  obtain rfl := Option.some.inj H
  go_enter Try.func38, Try.ntmps38
  go_wp2_with (first | ((with_reducible refine gate_callee (f := 53) rfl ?_); refine goesL_ (some 10) rfl rfl Try.func53 (by kernel_rfl) rfl #[.int .i64 a0, .int .i64 a1, .int .i64 a2] rfl (by (try simp only [List.map_toArray, List.map_cons, List.map_nil]); first | done | rfl | (simp only [List.length_drop, List.length_take]; rfl)) ?_; (with_reducible refine (linkreloc_PC64RelocBits.calls k a0 a1 a2 t102 _ A4.out).mono ?_); rintro e w' ⟨rfl, ⟨nd, rfl⟩⟩; refine ⟨_, rfl, ?_⟩))
  go_ret
  exact ⟨by first | rfl | (simp; done) | (simp [*]; done), by repeat (first | exact Drawn0.refl _ | apply Drawn0.step)⟩

/-! ### laws_FnLoongBits64: function 14 -/
def laws_FnLoongBits64.f (k : Nat) (a0 : Int) (a1 : Int) : Option (Bool) := (impl_PC32RelocBits.f 36 a0 a1).bind fun t103 => ((impl_PC32RelocBits.f 37 a0 a1).bind fun t104 => ((impl_PC64RelocBits.f k 35 a0 a1).bind fun t105 => ((impl_PC64RelocBits.f k 34 a0 a1).bind fun t106 => ((spec_Sext.f t104 12).bind fun t107 => (some ((wrap64 ((wrap64 ((Go.bits .andNot .i64 a1 4095) + (wrap64 (wrap32 ((((t103) % 4294967296) * 4096) % 4294967296))))) + (wrap64 ((wrap64 (((t107) % 4294967296) + (wrap64 ((Go.bits .and .i64 t105 1048575) * 4294967296)))) + (wrap64 (t106 * 4503599627370496)))))) == a0))))))
theorem laws_FnLoongBits64.mono : ∀ a0 a1 k, LeO (laws_FnLoongBits64.f k a0 a1) (laws_FnLoongBits64.f (k + 1) a0 a1) := by
  intro a0 a1 k
  unfold laws_FnLoongBits64.f
  repeat' first
      | (with_reducible exact impl_PC64RelocBits.mono _ _ _ _)
      | (with_reducible exact LeO.refl _)
      | (with_reducible exact LeO.none _)
      | (with_reducible refine LeO.ite ?_ ?_)
      | (with_reducible refine LeO.bind ?_ (fun _ => ?_))
      | exact impl_PC64RelocBits.mono _ _ _ _
      | exact LeO.none _
      | refine LeO.ite ?_ ?_
      | refine LeO.bind ?_ (fun _ => ?_)
set_option maxHeartbeats 8000000 in
set_option maxRecDepth 100000 in
theorem laws_FnLoongBits64.calls (k : Nat) (a0 : Int) (a1 : Int) (r : Bool) (w : World) (h : laws_FnLoongBits64.f k a0 a1 = some r) :
    Calls Try.prog 14 #[.int .i64 a0, .int .i64 a1] w fun e w' => e = .returned (.bool r) ∧ Drawn0 w w' := by
  have H : ((impl_PC32RelocBits.f 36 a0 a1).bind fun t103 => ((impl_PC32RelocBits.f 37 a0 a1).bind fun t104 => ((impl_PC64RelocBits.f k 35 a0 a1).bind fun t105 => ((impl_PC64RelocBits.f k 34 a0 a1).bind fun t106 => ((spec_Sext.f t104 12).bind fun t107 => (some ((wrap64 ((wrap64 ((Go.bits .andNot .i64 a1 4095) + (wrap64 (wrap32 ((((t103) % 4294967296) * 4096) % 4294967296))))) + (wrap64 ((wrap64 (((t107) % 4294967296) + (wrap64 ((Go.bits .and .i64 t105 1048575) * 4294967296)))) + (wrap64 (t106 * 4503599627370496)))))) == a0))))))) = some r := h
  clear h
  replace H := Option.bind_eq_some_iff.mp H
  obtain ⟨t103, A30, H⟩ := H
  replace H : ((impl_PC32RelocBits.f 37 a0 a1).bind fun t104 => ((impl_PC64RelocBits.f k 35 a0 a1).bind fun t105 => ((impl_PC64RelocBits.f k 34 a0 a1).bind fun t106 => ((spec_Sext.f t104 12).bind fun t107 => (some ((wrap64 ((wrap64 ((Go.bits .andNot .i64 a1 4095) + (wrap64 (wrap32 ((((t103) % 4294967296) * 4096) % 4294967296))))) + (wrap64 ((wrap64 (((t107) % 4294967296) + (wrap64 ((Go.bits .and .i64 t105 1048575) * 4294967296)))) + (wrap64 (t106 * 4503599627370496)))))) == a0)))))) = some r := H
  have A3 := Aside0.mk A30
  clear A30
  replace H := Option.bind_eq_some_iff.mp H
  obtain ⟨t104, A40, H⟩ := H
  replace H : ((impl_PC64RelocBits.f k 35 a0 a1).bind fun t105 => ((impl_PC64RelocBits.f k 34 a0 a1).bind fun t106 => ((spec_Sext.f t104 12).bind fun t107 => (some ((wrap64 ((wrap64 ((Go.bits .andNot .i64 a1 4095) + (wrap64 (wrap32 ((((t103) % 4294967296) * 4096) % 4294967296))))) + (wrap64 ((wrap64 (((t107) % 4294967296) + (wrap64 ((Go.bits .and .i64 t105 1048575) * 4294967296)))) + (wrap64 (t106 * 4503599627370496)))))) == a0))))) = some r := H
  have A4 := Aside0.mk A40
  clear A40
  replace H := Option.bind_eq_some_iff.mp H
  obtain ⟨t105, A50, H⟩ := H
  replace H : ((impl_PC64RelocBits.f k 34 a0 a1).bind fun t106 => ((spec_Sext.f t104 12).bind fun t107 => (some ((wrap64 ((wrap64 ((Go.bits .andNot .i64 a1 4095) + (wrap64 (wrap32 ((((t103) % 4294967296) * 4096) % 4294967296))))) + (wrap64 ((wrap64 (((t107) % 4294967296) + (wrap64 ((Go.bits .and .i64 t105 1048575) * 4294967296)))) + (wrap64 (t106 * 4503599627370496)))))) == a0)))) = some r := H
  have A5 := Aside0.mk A50
  clear A50
  replace H := Option.bind_eq_some_iff.mp H
  obtain ⟨t106, A60, H⟩ := H
  replace H : ((spec_Sext.f t104 12).bind fun t107 => (some ((wrap64 ((wrap64 ((Go.bits .andNot .i64 a1 4095) + (wrap64 (wrap32 ((((t103) % 4294967296) * 4096) % 4294967296))))) + (wrap64 ((wrap64 (((t107) % 4294967296) + (wrap64 ((Go.bits .and .i64 t105 1048575) * 4294967296)))) + (wrap64 (t106 * 4503599627370496)))))) == a0))) = some r := H
  have A6 := Aside0.mk A60
  clear A60
  replace H := Option.bind_eq_some_iff.mp H
  obtain ⟨t107, A70, H⟩ := H
  replace H : (some ((wrap64 ((wrap64 ((Go.bits .andNot .i64 a1 4095) + (wrap64 (wrap32 ((((t103) % 4294967296) * 4096) % 4294967296))))) + (wrap64 ((wrap64 (((t107) % 4294967296) + (wrap64 ((Go.bits .and .i64 t105 1048575) * 4294967296)))) + (wrap64 (t106 * 4503599627370496)))))) == a0)) = some r := H
  have A7 := Aside0.mk A70
  clear A70
  obtain rfl := Option.some.inj H
  go_enter Try.func14, Try.ntmps14
  go_wp2_with (first | ((with_reducible refine gate_callee (f := 36) rfl ?_); refine goesL_ (some 12) rfl rfl Try.func36 (by kernel_rfl) rfl #[.int .i64 36, .int .i64 a0, .int .i64 a1] rfl (by (try simp only [List.map_toArray, List.map_cons, List.map_nil]); first | done | rfl | (simp only [List.length_drop, List.length_take]; rfl)) ?_; (with_reducible refine (impl_PC32RelocBits.calls 36 a0 a1 t103 _ A3.out).mono ?_); rintro e w' ⟨rfl, ⟨nd, rfl⟩⟩; refine ⟨_, rfl, ?_⟩) | ((with_reducible refine gate_callee (f := 36) rfl ?_); refine goesL_ (some 15) rfl rfl Try.func36 (by kernel_rfl) rfl #[.int .i64 37, .int .i64 a0, .int .i64 a1] rfl (by (try simp only [List.map_toArray, List.map_cons, List.map_nil]); first | done | rfl | (simp only [List.length_drop, List.length_take]; rfl)) ?_; (with_reducible refine (impl_PC32RelocBits.calls 37 a0 a1 t104 _ A4.out).mono ?_); rintro e w' ⟨rfl, ⟨nd, rfl⟩⟩; refine ⟨_, rfl, ?_⟩) | ((with_reducible refine gate_callee (f := 38) rfl ?_); refine goesL_ (some 18) rfl rfl Try.func38 (by kernel_rfl) rfl #[.int .i64 35, .int .i64 a0, .int .i64 a1] rfl (by (try simp only [List.map_toArray, List.map_cons, List.map_nil]); first | done | rfl | (simp only [List.length_drop, List.length_take]; rfl)) ?_; (with_reducible refine (impl_PC64RelocBits.calls k 35 a0 a1 t105 _ A5.out).mono ?_); rintro e w' ⟨rfl, ⟨nd, rfl⟩⟩; refine ⟨_, rfl, ?_⟩) | ((with_reducible refine gate_callee (f := 38) rfl ?_); refine goesL_ (some 21) rfl rfl Try.func38 (by kernel_rfl) rfl #[.int .i64 34, .int .i64 a0, .int .i64 a1] rfl (by (try simp only [List.map_toArray, List.map_cons, List.map_nil]); first | done | rfl | (simp only [List.length_drop, List.length_take]; rfl)) ?_; (with_reducible refine (impl_PC64RelocBits.calls k 34 a0 a1 t106 _ A6.out).mono ?_); rintro e w' ⟨rfl, ⟨nd, rfl⟩⟩; refine ⟨_, rfl, ?_⟩) | ((with_reducible refine gate_callee (f := 37) rfl ?_); refine goesL_ (some 23) rfl rfl Try.func37 (by kernel_rfl) rfl #[.int .i64 t104, .int .i64 12] rfl (by (try simp only [List.map_toArray, List.map_cons, List.map_nil]); first | done | rfl | (simp only [List.length_drop, List.length_take]; rfl)) ?_; (with_reducible refine (spec_Sext.calls t104 12 t107 _ A7.out).mono ?_); rintro e w' ⟨rfl, ⟨nd, rfl⟩⟩; refine ⟨_, rfl, ?_⟩))
  go_ret
  exact ⟨by first | rfl | (simp; done) | (simp [*]; done), by repeat (first | exact Drawn0.refl _ | apply Drawn0.step)⟩

/-- THE ONE PURE STATEMENT of laws_FnLoongBits64: yours. -/
def laws_FnLoongBits64.Pure : Prop := ∀ (a0 : Int) (a1 : Int), (Lit.int .i64 a0).wf = true → (Lit.int .i64 a1).wf = true → ∃ k, laws_FnLoongBits64.f k a0 a1 = some true
theorem laws_FnLoongBits64.walk (P : laws_FnLoongBits64.Pure) (a0 : Int) (a1 : Int) (w : World) (w0 : (Lit.int .i64 a0).wf = true) (w1 : (Lit.int .i64 a1).wf = true) :
    Calls Try.prog 14 #[.int .i64 a0, .int .i64 a1] w fun e w' => e = .returned (.bool true) ∧ Below w.heap.size w w' := by
  obtain ⟨k, h⟩ := P a0 a1 w0 w1
  refine (laws_FnLoongBits64.calls k a0 a1 true w h).mono ?_
  rintro e w' ⟨rfl, hd⟩
  exact ⟨rfl, hd.below⟩

end Go.Proofs.Ytaekfekgoleolaa.PFnLoongBits64
