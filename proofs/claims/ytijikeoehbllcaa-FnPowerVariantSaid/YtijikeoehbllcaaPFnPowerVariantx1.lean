-- PRINTED BY print.sh 35421559b90ae4d0a3588c463048766b98c2df88dd9212a6774a882060cdf62d: not written by this session
import Derived.Test.YtijikeoehbllcaaPFnPowerVariantx0
namespace Go.Proofs.Ytijikeoehbllcaa.PFnPowerVariant
open Go.RowKit Go.Proofs.YtijikeoehbllcaaW.PrintWords Go.Proofs.YtijikeoehbllcaaW.PrintLast Go.Proofs.YtijikeoehbllcaaW.PrintMore
attribute [local go_sem] max2_int min2_int max_two min_two max_three min_three max_four min_four   -- for this text's walks alone
set_option linter.unusedVariables false
set_option linter.unusedSimpArgs false

/-! ### spec_Sext: function 23 -/
def spec_Sext.f (a0 : Int) (a1 : Int) : Option (Int) := if 0 ≤ (wrap64 (64 - a1)) then (some (shr .i64 (shl .i64 a0 (wrap64 (64 - a1))) (wrap64 (64 - a1)))) else (none)
set_option maxHeartbeats 8000000 in
set_option maxRecDepth 100000 in
theorem spec_Sext.calls (a0 : Int) (a1 : Int) (r : Int) (w : World) (h : spec_Sext.f a0 a1 = some r) :
    Calls Try.prog 23 #[.int .i64 a0, .int .i64 a1] w fun e w' => e = .returned (.int .i64 r) ∧ Drawn0 w w' := by
  have H : (if 0 ≤ (wrap64 (64 - a1)) then (some (shr .i64 (shl .i64 a0 (wrap64 (64 - a1))) (wrap64 (64 - a1)))) else (none)) = some r := h
  clear h
  obtain ⟨ji3, hji3⟩ : ∃ j_ : Int, (wrap64 (64 - a1)) = j_ := ⟨_, rfl⟩
  replace H : (if 0 ≤ (ji3) then (some (shr .i64 (shl .i64 a0 (ji3)) (ji3))) else (none)) = some r := by first | (rw [hji3] at H; exact H) | (simp only [hji3] at H ⊢; exact H)
  have hji3w : (IntKind.i64.wrap (64 - a1)) = ji3 := (i64_w _).trans hji3
  by_cases c4 : 0 ≤ (ji3)
  · rw [if_pos c4] at H
    have c4b0 := eq_true c4
    have c4b1 : decide (0 ≤ (ji3)) = true := decide_eq_true c4
    clear c4
    obtain ⟨ji5, hji5⟩ : ∃ j_ : Int, (shl .i64 a0 (ji3)) = j_ := ⟨_, rfl⟩
    replace H : (some (shr .i64 (ji5) (ji3))) = some r := by first | (rw [hji5] at H; exact H) | (simp only [hji5] at H ⊢; exact H)
    have hji5_ : (IntKind.i64.wrap (a0 * 2 ^ min (ji3).toNat 64)) = ji5 := hji5
    have hji5z : (ji3) ≤ 64 → (IntKind.i64.wrap (a0 * 2 ^ (ji3).toNat)) = ji5 := shl_small hji5
    have hji5y : (wrap64 (a0 * 2 ^ min (ji3).toNat 64)) = ji5 := (i64_w _).symm.trans hji5_
    have hji5x : (ji3) ≤ 64 → (wrap64 (a0 * 2 ^ (ji3).toNat)) = ji5 := fun h_ => (i64_w _).symm.trans (hji5z h_)
    have c6b0 := eq_true (of_decide_eq_true (by first | (with_reducible assumption) | assumption) : 0 ≤ (ji3))
    obtain ⟨ji7, hji7⟩ : ∃ j_ : Int, (shr .i64 (ji5) (ji3)) = j_ := ⟨_, rfl⟩
    replace H : (some ji7) = some r := by first | (rw [hji7] at H; exact H) | (simp only [hji7] at H ⊢; exact H)
    have hji7_ : ((ji5) / 2 ^ min (ji3).toNat 64) = ji7 := hji7
    have hji7z : (ji3) ≤ 64 → ((ji5) / 2 ^ (ji3).toNat) = ji7 := shr_small hji7
    obtain rfl := Option.some.inj H
    go_enter Try.func23, Try.ntmps23
    go_wp2
    go_ret
    exact ⟨by first | rfl | (simp; done) | (simp only [← hji3, ← hji5, ← hji7] <;> (first | rfl | simp)) | (simp [*]; done), by repeat (first | exact Drawn0.refl _ | apply Drawn0.step)⟩
  · rw [if_neg c4] at H
    exact absurd H (by simp)

/-! ### spec_Half: function 28 -/
def spec_Half.f (a0 : Int) : Option (Int) := (spec_Sext.f (wrap64 (a0)) 16).bind fun t101 => (some t101)
set_option maxHeartbeats 8000000 in
set_option maxRecDepth 100000 in
theorem spec_Half.calls (a0 : Int) (r : Int) (w : World) (h : spec_Half.f a0 = some r) :
    Calls Try.prog 28 #[.int .u32 a0] w fun e w' => e = .returned (.int .i64 r) ∧ Drawn0 w w' := by
  have H : ((spec_Sext.f (wrap64 (a0)) 16).bind fun t101 => (some t101)) = some r := h
  clear h
  replace H := Option.bind_eq_some_iff.mp H
  obtain ⟨t101, A20, H⟩ := H
  replace H : (some t101) = some r := H
  have A2 := Aside0.mk A20
  clear A20
  obtain rfl := Option.some.inj H
  go_enter Try.func28, Try.ntmps28
  go_wp2_with (first | ((with_reducible refine gate_callee (f := 23) rfl ?_); refine goesL_ (some 5) rfl rfl Try.func23 (by kernel_rfl) rfl #[.int .i64 (wrap64 (a0)), .int .i64 16] rfl (by (try simp only [List.map_toArray, List.map_cons, List.map_nil]); first | done | rfl | (simp only [List.length_drop, List.length_take]; rfl)) ?_; (with_reducible refine (spec_Sext.calls (wrap64 (a0)) 16 t101 _ A2.out).mono ?_); rintro e w' ⟨rfl, ⟨nd, rfl⟩⟩; refine ⟨_, rfl, ?_⟩))
  go_ret
  exact ⟨by first | rfl | (simp; done) | (simp [*]; done), by repeat (first | exact Drawn0.refl _ | apply Drawn0.step)⟩

/-! ### linkreloc_Ppc64Variant: function 36 -/
mutual
def linkreloc_Ppc64Variant.j1 : Nat → Bool → Int → Int → Int → Option (Int × Int)
  | 0, _, _, _, _ => none
  | k + 1, x1, x2, x3, x9 => if x1 = true then (if (x3 / 67108864) = 25 then (linkreloc_Ppc64Variant.j2 k (x2 / 65536) x9 ((x3 / 67108864) == 25)) else (if (x3 / 67108864) = 27 then (linkreloc_Ppc64Variant.j2 k (x2 / 65536) x9 ((x3 / 67108864) == 27)) else (linkreloc_Ppc64Variant.j2 k (x2 / 65536) x9 ((x3 / 67108864) == 29)))) else (some (wrap64 (IntKind.i16.wrap (x2 / 65536)), x9))
def linkreloc_Ppc64Variant.j2 : Nat → Int → Int → Bool → Option (Int × Int)
  | 0, _, _, _ => none
  | k + 1, x2, x9, x53 => if x53 = true then (if (x2 / 65536) = 0 then (some (wrap64 (IntKind.i16.wrap (x2)), x9)) else (some (x2, 1))) else (if (wrap64 (IntKind.i16.wrap (x2))) = x2 then (some (wrap64 (IntKind.i16.wrap (x2)), x9)) else (some (x2, 1)))
def linkreloc_Ppc64Variant.j0 : Nat → Int → Int → Bool → Option (Int × Int)
  | 0, _, _, _ => none
  | k + 1, x2, x9, x28 => if x28 = true then (if (x2 / 65536) = 0 then (some (wrap64 (IntKind.i16.wrap (x2)), x9)) else (some (x2, 1))) else (if (wrap64 (IntKind.i16.wrap (x2))) = x2 then (some (wrap64 (IntKind.i16.wrap (x2)), x9)) else (some (x2, 1)))
end
def linkreloc_Ppc64Variant.f (k : Nat) (a0 : Int) (a1 : Bool) (a2 : Int) (a3 : Int) : Option (Int × Int) := if a0 = 0 then (if a1 = true then (if (a3 / 67108864) = 24 then (linkreloc_Ppc64Variant.j0 k a2 0 ((a3 / 67108864) == 24)) else (if (a3 / 67108864) = 26 then (linkreloc_Ppc64Variant.j0 k a2 0 ((a3 / 67108864) == 26)) else (linkreloc_Ppc64Variant.j0 k a2 0 ((a3 / 67108864) == 28)))) else (some (wrap64 (IntKind.i16.wrap (a2)), 0))) else (if a0 = 2 then (linkreloc_Ppc64Variant.j1 k a1 (wrap64 (a2 + 32768)) a3 0) else (if a0 = 1 then (linkreloc_Ppc64Variant.j1 k a1 a2 a3 0) else (if a0 = 3 then (if (Go.bits .and .i64 a2 3) = 0 then (if a1 = true then (if (wrap64 (IntKind.i16.wrap (a2))) = a2 then (some (Go.bits .or .i64 (Go.bits .and .i64 (wrap64 (a3)) 3) (wrap64 (IntKind.i16.wrap (a2))), 0)) else (some (a2, 0 + 1))) else (some (Go.bits .or .i64 (Go.bits .and .i64 (wrap64 (a3)) 3) (wrap64 (IntKind.i16.wrap (a2))), 0))) else (if a1 = true then (if (wrap64 (IntKind.i16.wrap (a2))) = a2 then (some (Go.bits .or .i64 (Go.bits .and .i64 (wrap64 (a3)) 3) (wrap64 (IntKind.i16.wrap (a2))), 0 + 1)) else (some (a2, (0 + 1) + 1))) else (some (Go.bits .or .i64 (Go.bits .and .i64 (wrap64 (a3)) 3) (wrap64 (IntKind.i16.wrap (a2))), 0 + 1)))) else (some (a2, 1)))))
theorem linkreloc_Ppc64Variant.mono_l : ∀ k, (∀ y0 y1 y2 y3, LeO (linkreloc_Ppc64Variant.j1 k y0 y1 y2 y3) (linkreloc_Ppc64Variant.j1 (k + 1) y0 y1 y2 y3)) ∧ (∀ y0 y1 y2, LeO (linkreloc_Ppc64Variant.j2 k y0 y1 y2) (linkreloc_Ppc64Variant.j2 (k + 1) y0 y1 y2)) ∧ (∀ y0 y1 y2, LeO (linkreloc_Ppc64Variant.j0 k y0 y1 y2) (linkreloc_Ppc64Variant.j0 (k + 1) y0 y1 y2))
  | 0 => ⟨fun _ _ _ _ r h => by simp [linkreloc_Ppc64Variant.j1] at h, fun _ _ _ r h => by simp [linkreloc_Ppc64Variant.j2] at h, fun _ _ _ r h => by simp [linkreloc_Ppc64Variant.j0] at h⟩
  | k + 1 => by
    obtain ⟨ih0, ih1, ih2⟩ := linkreloc_Ppc64Variant.mono_l k
    refine ⟨?_, ?_, ?_⟩
    · intro y0 y1 y2 y3
      unfold linkreloc_Ppc64Variant.j1
      repeat' first
      | (with_reducible exact ih0 _ _ _ _)
      | (with_reducible exact ih1 _ _ _)
      | (with_reducible exact ih2 _ _ _)
      | (with_reducible exact LeO.refl _)
      | (with_reducible exact LeO.none _)
      | (with_reducible refine LeO.ite ?_ ?_)
      | (with_reducible refine LeO.bind ?_ (fun _ => ?_))
      | exact ih0 _ _ _ _
      | exact ih1 _ _ _
      | exact ih2 _ _ _
      | exact LeO.none _
      | refine LeO.ite ?_ ?_
      | refine LeO.bind ?_ (fun _ => ?_)
    · intro y0 y1 y2
      unfold linkreloc_Ppc64Variant.j2
      repeat' first
      | (with_reducible exact ih0 _ _ _ _)
      | (with_reducible exact ih1 _ _ _)
      | (with_reducible exact ih2 _ _ _)
      | (with_reducible exact LeO.refl _)
      | (with_reducible exact LeO.none _)
      | (with_reducible refine LeO.ite ?_ ?_)
      | (with_reducible refine LeO.bind ?_ (fun _ => ?_))
      | exact ih0 _ _ _ _
      | exact ih1 _ _ _
      | exact ih2 _ _ _
      | exact LeO.none _
      | refine LeO.ite ?_ ?_
      | refine LeO.bind ?_ (fun _ => ?_)
    · intro y0 y1 y2
      unfold linkreloc_Ppc64Variant.j0
      repeat' first
      | (with_reducible exact ih0 _ _ _ _)
      | (with_reducible exact ih1 _ _ _)
      | (with_reducible exact ih2 _ _ _)
      | (with_reducible exact LeO.refl _)
      | (with_reducible exact LeO.none _)
      | (with_reducible refine LeO.ite ?_ ?_)
      | (with_reducible refine LeO.bind ?_ (fun _ => ?_))
      | exact ih0 _ _ _ _
      | exact ih1 _ _ _
      | exact ih2 _ _ _
      | exact LeO.none _
      | refine LeO.ite ?_ ?_
      | refine LeO.bind ?_ (fun _ => ?_)
theorem linkreloc_Ppc64Variant.mono : ∀ a0 a1 a2 a3 k, LeO (linkreloc_Ppc64Variant.f k a0 a1 a2 a3) (linkreloc_Ppc64Variant.f (k + 1) a0 a1 a2 a3) := by
  intro a0 a1 a2 a3 k
  obtain ⟨ih0, ih1, ih2⟩ := linkreloc_Ppc64Variant.mono_l k
  unfold linkreloc_Ppc64Variant.f
  repeat' first
      | (with_reducible exact ih0 _ _ _ _)
      | (with_reducible exact ih1 _ _ _)
      | (with_reducible exact ih2 _ _ _)
      | (with_reducible exact LeO.refl _)
      | (with_reducible exact LeO.none _)
      | (with_reducible refine LeO.ite ?_ ?_)
      | (with_reducible refine LeO.bind ?_ (fun _ => ?_))
      | exact ih0 _ _ _ _
      | exact ih1 _ _ _
      | exact ih2 _ _ _
      | exact LeO.none _
      | refine LeO.ite ?_ ?_
      | refine LeO.bind ?_ (fun _ => ?_)
set_option maxHeartbeats 8000000 in
set_option maxRecDepth 100000 in
theorem linkreloc_Ppc64Variant.calls (k : Nat) (a0 : Int) (a1 : Bool) (a2 : Int) (a3 : Int) (r1 : Int) (r2 : Int) (w : World) (h : linkreloc_Ppc64Variant.f k a0 a1 a2 a3 = some (r1, r2)) :
    Calls Try.prog 36 #[.int .i64 a0, .bool a1, .int .i64 a2, .int .u32 a3] w fun e w' => e = .returned (.tuple #[.int .i64 r1, .int .i64 r2]) ∧ Drawn0 w w' := by
  have H : (if a0 = 0 then (if a1 = true then (if (a3 / 67108864) = 24 then (linkreloc_Ppc64Variant.j0 k a2 0 ((a3 / 67108864) == 24)) else (if (a3 / 67108864) = 26 then (linkreloc_Ppc64Variant.j0 k a2 0 ((a3 / 67108864) == 26)) else (linkreloc_Ppc64Variant.j0 k a2 0 ((a3 / 67108864) == 28)))) else (some (wrap64 (IntKind.i16.wrap (a2)), 0))) else (if a0 = 2 then (linkreloc_Ppc64Variant.j1 k a1 (wrap64 (a2 + 32768)) a3 0) else (if a0 = 1 then (linkreloc_Ppc64Variant.j1 k a1 a2 a3 0) else (if a0 = 3 then (if (Go.bits .and .i64 a2 3) = 0 then (if a1 = true then (if (wrap64 (IntKind.i16.wrap (a2))) = a2 then (some (Go.bits .or .i64 (Go.bits .and .i64 (wrap64 (a3)) 3) (wrap64 (IntKind.i16.wrap (a2))), 0)) else (some (a2, 0 + 1))) else (some (Go.bits .or .i64 (Go.bits .and .i64 (wrap64 (a3)) 3) (wrap64 (IntKind.i16.wrap (a2))), 0))) else (if a1 = true then (if (wrap64 (IntKind.i16.wrap (a2))) = a2 then (some (Go.bits .or .i64 (Go.bits .and .i64 (wrap64 (a3)) 3) (wrap64 (IntKind.i16.wrap (a2))), 0 + 1)) else (some (a2, (0 + 1) + 1))) else (some (Go.bits .or .i64 (Go.bits .and .i64 (wrap64 (a3)) 3) (wrap64 (IntKind.i16.wrap (a2))), 0 + 1)))) else (some (a2, 1)))))) = some (r1, r2) := h
  clear h
  have HC5 := Aside0.mk H
  clear H
  go_enter Try.func36, Try.ntmps36
  go_upto_block 3 with (fail)
  go_cut [2, 9] (fun v2 v9 wc => ∃ (kq : Nat) (x2_4 : Int) (x9_4 : Int), v2 = .int .i64 x2_4 ∧ v9 = .int .i64 x9_4 ∧ Aside0 (linkreloc_Ppc64Variant.j1 kq a1 x2_4 a3 x9_4 = some (r1, r2)) ∧ Aside0 (kq ≤ k) ∧ Drawn0 w wc)
  case first =>
    have H := HC5.out
    clear HC5
    by_cases c6 : a0 = 0
    · rw [if_pos c6] at H
      have c6b0 : (a0 == 0) = true := beq_iff_eq.mpr c6
      have c6b1 : (a0 != 0) = false := bne_eq_false_iff_eq.mpr c6
      clear c6
      (first | rw [c6b0] | (simp only [i64_w, i32_w]; rw [c6b0]) | skip)
      by_cases c7 : a1 = true
      · subst c7
        have H1 : (if (a3 / 67108864) = 24 then (linkreloc_Ppc64Variant.j0 k a2 0 ((a3 / 67108864) == 24)) else (if (a3 / 67108864) = 26 then (linkreloc_Ppc64Variant.j0 k a2 0 ((a3 / 67108864) == 26)) else (linkreloc_Ppc64Variant.j0 k a2 0 ((a3 / 67108864) == 28)))) = some (r1, r2) := by rw [if_pos rfl] at H; exact H
        clear H
        have H := H1
        clear H1
        have HC8 := Aside0.mk H
        clear H
        go_upto_if 28 with (fail)
        go_cut [28] (fun v28 wc => ∃ (kq : Nat) (x28_7 : Bool), v28 = .bool x28_7 ∧ Aside0 (linkreloc_Ppc64Variant.j0 kq a2 0 x28_7 = some (r1, r2)) ∧ Aside0 (kq ≤ k) ∧ Drawn0 w wc)
        case first =>
          have H := HC8.out
          clear HC8
          by_cases c9 : (a3 / 67108864) = 24
          · rw [if_pos c9] at H
            have c9b0 : ((a3 / 67108864) == 24) = true := beq_iff_eq.mpr c9
            have c9b1 : ((a3 / 67108864) != 24) = false := bne_eq_false_iff_eq.mpr c9
            clear c9
            (first | rw [c9b0] | (simp only [i64_w, i32_w]; rw [c9b0]) | skip)
            have H' := Aside0.mk H
            clear H
            go_wp2
            go_meet
            case rel => exact ⟨_, (((a3 / 67108864) == 24)), (by first | rfl | (simp; done) | (simp [*]; done)), H', ⟨by first | omega | exact Nat.le_refl _⟩, by repeat (first | exact Drawn0.refl _ | apply Drawn0.step)⟩
          · rw [if_neg c9] at H
            have c9b0 : ((a3 / 67108864) == 24) = false := beq_eq_false_iff_ne.mpr c9
            have c9b1 : ((a3 / 67108864) != 24) = true := bne_iff_ne.mpr c9
            (first | rw [c9b0] | (simp only [i64_w, i32_w]; rw [c9b0]) | skip)
            by_cases c10 : (a3 / 67108864) = 26
            · rw [if_pos c10] at H
              have c10b0 : ((a3 / 67108864) == 26) = true := beq_iff_eq.mpr c10
              have c10b1 : ((a3 / 67108864) != 26) = false := bne_eq_false_iff_eq.mpr c10
              clear c10
              have H' := Aside0.mk H
              clear H
              go_wp2
              go_meet
              case rel => exact ⟨_, (((a3 / 67108864) == 26)), (by first | rfl | (simp; done) | (simp [*]; done)), H', ⟨by first | omega | exact Nat.le_refl _⟩, by repeat (first | exact Drawn0.refl _ | apply Drawn0.step)⟩
            · rw [if_neg c10] at H
              have c10b0 : ((a3 / 67108864) == 26) = false := beq_eq_false_iff_ne.mpr c10
              have c10b1 : ((a3 / 67108864) != 26) = true := bne_iff_ne.mpr c10
              have H' := Aside0.mk H
              clear H
              go_wp2
              go_meet
              case rel => exact ⟨_, (((a3 / 67108864) == 28)), (by first | rfl | (simp; done) | (simp [*]; done)), H', ⟨by first | omega | exact Nat.le_refl _⟩, by repeat (first | exact Drawn0.refl _ | apply Drawn0.step)⟩
        case rest =>
          clear HC8
          try clear c1
          try clear p2
          try clear c3
          try clear c6
          try clear c6b0
          try clear c6b1
          try clear p6
          try clear c7
          try clear c9
          try clear c9b0
          try clear c9b1
          try clear c10
          try clear c10b0
          try clear c10b1
          obtain ⟨kq, x28_7, rfl, HA, HJ7, ⟨mc7, rfl⟩⟩ := hcut
          cases kq with
          | zero => exact absurd HA.out (by simp [linkreloc_Ppc64Variant.j0])
          | succ kj7 =>
            have H := HA.out
            clear HA
            simp only [linkreloc_Ppc64Variant.j0] at H
            by_cases c11 : x28_7 = true
            · subst c11
              have H1 : (if (a2 / 65536) = 0 then (some (wrap64 (IntKind.i16.wrap (a2)), 0)) else (some (a2, 1))) = some (r1, r2) := by rw [if_pos rfl] at H; exact H
              clear H
              have H := H1
              clear H1
              by_cases c12 : (a2 / 65536) = 0
              · rw [if_pos c12] at H
                have c12b0 : ((a2 / 65536) == 0) = true := beq_iff_eq.mpr c12
                have c12b1 : ((a2 / 65536) != 0) = false := bne_eq_false_iff_eq.mpr c12
                clear c12
                simp only [Option.some.injEq, Prod.mk.injEq] at H
                obtain ⟨rfl, rfl⟩ := H
                go_wp2
                go_ret2
                exact ⟨by first | rfl | (simp; done) | (simp [*]; done), by repeat (first | exact Drawn0.refl _ | apply Drawn0.step)⟩
              · rw [if_neg c12] at H
                have c12b0 : ((a2 / 65536) == 0) = false := beq_eq_false_iff_ne.mpr c12
                have c12b1 : ((a2 / 65536) != 0) = true := bne_iff_ne.mpr c12
                simp only [Option.some.injEq, Prod.mk.injEq] at H
                obtain ⟨rfl, rfl⟩ := H
                go_wp2
                go_ret2
                exact ⟨by first | rfl | (simp; done) | (simp [*]; done), by repeat (first | exact Drawn0.refl _ | apply Drawn0.step)⟩
            · replace c11 := Bool.eq_false_iff.mpr c11
              subst c11
              have H1 : (if (wrap64 (IntKind.i16.wrap (a2))) = a2 then (some (wrap64 (IntKind.i16.wrap (a2)), 0)) else (some (a2, 1))) = some (r1, r2) := by rw [if_neg (show ¬ (false = true) by decide)] at H; exact H
              clear H
              have H := H1
              clear H1
              by_cases c13 : (wrap64 (IntKind.i16.wrap (a2))) = a2
              · rw [if_pos c13] at H
                have c13b0 : ((wrap64 (IntKind.i16.wrap (a2))) == a2) = true := beq_iff_eq.mpr c13
                have c13b1 : ((wrap64 (IntKind.i16.wrap (a2))) != a2) = false := bne_eq_false_iff_eq.mpr c13
                clear c13
                simp only [Option.some.injEq, Prod.mk.injEq] at H
                obtain ⟨rfl, rfl⟩ := H
                go_wp2
                go_ret2
                exact ⟨by first | rfl | (simp; done) | (simp [*]; done), by repeat (first | exact Drawn0.refl _ | apply Drawn0.step)⟩
              · rw [if_neg c13] at H
                have c13b0 : ((wrap64 (IntKind.i16.wrap (a2))) == a2) = false := beq_eq_false_iff_ne.mpr c13
                have c13b1 : ((wrap64 (IntKind.i16.wrap (a2))) != a2) = true := bne_iff_ne.mpr c13
                simp only [Option.some.injEq, Prod.mk.injEq] at H
                obtain ⟨rfl, rfl⟩ := H
                go_wp2
                go_ret2
                exact ⟨by first | rfl | (simp; done) | (simp [*]; done), by repeat (first | exact Drawn0.refl _ | apply Drawn0.step)⟩
      · replace c7 := Bool.eq_false_iff.mpr c7
        subst c7
        have H1 : (some (wrap64 (IntKind.i16.wrap (a2)), 0)) = some (r1, r2) := by rw [if_neg (show ¬ (false = true) by decide)] at H; exact H
        clear H
        have H := H1
        clear H1
        simp only [Option.some.injEq, Prod.mk.injEq] at H
        obtain ⟨rfl, rfl⟩ := H
        go_wp2
        go_ret2
        exact ⟨by first | rfl | (simp; done) | (simp [*]; done), by repeat (first | exact Drawn0.refl _ | apply Drawn0.step)⟩
    · rw [if_neg c6] at H
      have c6b0 : (a0 == 0) = false := beq_eq_false_iff_ne.mpr c6
      have c6b1 : (a0 != 0) = true := bne_iff_ne.mpr c6
      (first | rw [c6b0] | (simp only [i64_w, i32_w]; rw [c6b0]) | skip)
      by_cases c14 : a0 = 2
      · rw [if_pos c14] at H
        have c14b0 : (a0 == 2) = true := beq_iff_eq.mpr c14
        have c14b1 : (a0 != 2) = false := bne_eq_false_iff_eq.mpr c14
        clear c14
        have H' := Aside0.mk H
        clear H
        go_wp2
        go_meet
        case rel => exact ⟨_, (wrap64 (a2 + 32768)), (0), (by first | rfl | (simp; done) | (simp [*]; done)), (by first | rfl | (simp; done) | (simp [*]; done)), H', ⟨by first | omega | exact Nat.le_refl _⟩, by repeat (first | exact Drawn0.refl _ | apply Drawn0.step)⟩
      · rw [if_neg c14] at H
        have c14b0 : (a0 == 2) = false := beq_eq_false_iff_ne.mpr c14
        have c14b1 : (a0 != 2) = true := bne_iff_ne.mpr c14
        by_cases c15 : a0 = 1
        · rw [if_pos c15] at H
          have c15b0 : (a0 == 1) = true := beq_iff_eq.mpr c15
          have c15b1 : (a0 != 1) = false := bne_eq_false_iff_eq.mpr c15
          clear c15
          have H' := Aside0.mk H
          clear H
          go_wp2
          go_meet
          case rel => exact ⟨_, (a2), (0), (by first | rfl | (simp; done) | (simp [*]; done)), (by first | rfl | (simp; done) | (simp [*]; done)), H', ⟨by first | omega | exact Nat.le_refl _⟩, by repeat (first | exact Drawn0.refl _ | apply Drawn0.step)⟩
        · rw [if_neg c15] at H
          have c15b0 : (a0 == 1) = false := beq_eq_false_iff_ne.mpr c15
          have c15b1 : (a0 != 1) = true := bne_iff_ne.mpr c15
          by_cases c16 : a0 = 3
          · rw [if_pos c16] at H
            have c16b0 : (a0 == 3) = true := beq_iff_eq.mpr c16
            have c16b1 : (a0 != 3) = false := bne_eq_false_iff_eq.mpr c16
            clear c16
            by_cases c17 : (Go.bits .and .i64 a2 3) = 0
            · rw [if_pos c17] at H
              have c17b0 : ((Go.bits .and .i64 a2 3) == 0) = true := beq_iff_eq.mpr c17
              have c17b1 : ((Go.bits .and .i64 a2 3) != 0) = false := bne_eq_false_iff_eq.mpr c17
              clear c17
              by_cases c18 : a1 = true
              · subst c18
                have H1 : (if (wrap64 (IntKind.i16.wrap (a2))) = a2 then (some (Go.bits .or .i64 (Go.bits .and .i64 (wrap64 (a3)) 3) (wrap64 (IntKind.i16.wrap (a2))), 0)) else (some (a2, 0 + 1))) = some (r1, r2) := by rw [if_pos rfl] at H; exact H
                clear H
                have H := H1
                clear H1
                by_cases c19 : (wrap64 (IntKind.i16.wrap (a2))) = a2
                · rw [if_pos c19] at H
                  have c19b0 : ((wrap64 (IntKind.i16.wrap (a2))) == a2) = true := beq_iff_eq.mpr c19
                  have c19b1 : ((wrap64 (IntKind.i16.wrap (a2))) != a2) = false := bne_eq_false_iff_eq.mpr c19
                  clear c19
                  simp only [Option.some.injEq, Prod.mk.injEq] at H
                  obtain ⟨rfl, rfl⟩ := H
                  go_wp2
                  go_ret2
                  exact ⟨by first | rfl | (simp; done) | (simp [*]; done), by repeat (first | exact Drawn0.refl _ | apply Drawn0.step)⟩
                · rw [if_neg c19] at H
                  have c19b0 : ((wrap64 (IntKind.i16.wrap (a2))) == a2) = false := beq_eq_false_iff_ne.mpr c19
                  have c19b1 : ((wrap64 (IntKind.i16.wrap (a2))) != a2) = true := bne_iff_ne.mpr c19
                  simp only [Option.some.injEq, Prod.mk.injEq] at H
                  obtain ⟨rfl, rfl⟩ := H
                  go_wp2
                  go_ret2
                  exact ⟨by first | rfl | (simp; done) | (simp [*]; done), by repeat (first | exact Drawn0.refl _ | apply Drawn0.step)⟩
              · replace c18 := Bool.eq_false_iff.mpr c18
                subst c18
                have H1 : (some (Go.bits .or .i64 (Go.bits .and .i64 (wrap64 (a3)) 3) (wrap64 (IntKind.i16.wrap (a2))), 0)) = some (r1, r2) := by rw [if_neg (show ¬ (false = true) by decide)] at H; exact H
                clear H
                have H := H1
                clear H1
                simp only [Option.some.injEq, Prod.mk.injEq] at H
                obtain ⟨rfl, rfl⟩ := H
                go_wp2
                go_ret2
                exact ⟨by first | rfl | (simp; done) | (simp [*]; done), by repeat (first | exact Drawn0.refl _ | apply Drawn0.step)⟩
            · rw [if_neg c17] at H
              have c17b0 : ((Go.bits .and .i64 a2 3) == 0) = false := beq_eq_false_iff_ne.mpr c17
              have c17b1 : ((Go.bits .and .i64 a2 3) != 0) = true := bne_iff_ne.mpr c17
              by_cases c20 : a1 = true
              · subst c20
                have H1 : (if (wrap64 (IntKind.i16.wrap (a2))) = a2 then (some (Go.bits .or .i64 (Go.bits .and .i64 (wrap64 (a3)) 3) (wrap64 (IntKind.i16.wrap (a2))), 0 + 1)) else (some (a2, (0 + 1) + 1))) = some (r1, r2) := by rw [if_pos rfl] at H; exact H
                clear H
                have H := H1
                clear H1
                by_cases c21 : (wrap64 (IntKind.i16.wrap (a2))) = a2
                · rw [if_pos c21] at H
                  have c21b0 : ((wrap64 (IntKind.i16.wrap (a2))) == a2) = true := beq_iff_eq.mpr c21
                  have c21b1 : ((wrap64 (IntKind.i16.wrap (a2))) != a2) = false := bne_eq_false_iff_eq.mpr c21
                  clear c21
                  simp only [Option.some.injEq, Prod.mk.injEq] at H
                  obtain ⟨rfl, rfl⟩ := H
                  go_wp2
                  go_ret2
                  exact ⟨by first | rfl | (simp; done) | (simp [*]; done), by repeat (first | exact Drawn0.refl _ | apply Drawn0.step)⟩
                · rw [if_neg c21] at H
                  have c21b0 : ((wrap64 (IntKind.i16.wrap (a2))) == a2) = false := beq_eq_false_iff_ne.mpr c21
                  have c21b1 : ((wrap64 (IntKind.i16.wrap (a2))) != a2) = true := bne_iff_ne.mpr c21
                  simp only [Option.some.injEq, Prod.mk.injEq] at H
                  obtain ⟨rfl, rfl⟩ := H
                  go_wp2
                  go_ret2
                  exact ⟨by first | rfl | (simp; done) | (simp [*]; done), by repeat (first | exact Drawn0.refl _ | apply Drawn0.step)⟩
              · replace c20 := Bool.eq_false_iff.mpr c20
                subst c20
                have H1 : (some (Go.bits .or .i64 (Go.bits .and .i64 (wrap64 (a3)) 3) (wrap64 (IntKind.i16.wrap (a2))), 0 + 1)) = some (r1, r2) := by rw [if_neg (show ¬ (false = true) by decide)] at H; exact H
                clear H
                have H := H1
                clear H1
                simp only [Option.some.injEq, Prod.mk.injEq] at H
                obtain ⟨rfl, rfl⟩ := H
                go_wp2
                go_ret2
                exact ⟨by first | rfl | (simp; done) | (simp [*]; done), by repeat (first | exact Drawn0.refl _ | apply Drawn0.step)⟩
          · rw [if_neg c16] at H
            have c16b0 : (a0 == 3) = false := beq_eq_false_iff_ne.mpr c16
            have c16b1 : (a0 != 3) = true := bne_iff_ne.mpr c16
            simp only [Option.some.injEq, Prod.mk.injEq] at H
            obtain ⟨rfl, rfl⟩ := H
            go_wp2
            go_ret2
            exact ⟨by first | rfl | (simp; done) | (simp [*]; done), by repeat (first | exact Drawn0.refl _ | apply Drawn0.step)⟩
  case rest =>
    clear HC5
    try clear c1
    try clear c2
    try clear p2
    try clear c3
    try clear c6
    try clear c6b0
    try clear c6b1
    try clear p6
    try clear c7
    try clear c9
    try clear c9b0
    try clear c9b1
    try clear c10
    try clear c10b0
    try clear c10b1
    try clear c11
    try clear c12
    try clear c12b0
    try clear c12b1
    try clear c13
    try clear c13b0
    try clear c13b1
    try clear c14
    try clear c14b0
    try clear c14b1
    try clear c15
    try clear c15b0
    try clear c15b1
    try clear c16
    try clear c16b0
    try clear c16b1
    try clear c17
    try clear c17b0
    try clear c17b1
    try clear c18
    try clear c19
    try clear c19b0
    try clear c19b1
    try clear c20
    try clear c21
    try clear c21b0
    try clear c21b1
    try clear p2
    try clear p6
    obtain ⟨kq, x2_4, x9_4, rfl, rfl, HA, HJ4, ⟨mc4, rfl⟩⟩ := hcut
    cases kq with
    | zero => exact absurd HA.out (by simp [linkreloc_Ppc64Variant.j1])
    | succ kj4 =>
      have H := HA.out
      clear HA
      simp only [linkreloc_Ppc64Variant.j1] at H
      by_cases c22 : a1 = true
      · subst c22
        have H1 : (if (a3 / 67108864) = 25 then (linkreloc_Ppc64Variant.j2 kj4 (x2_4 / 65536) x9_4 ((a3 / 67108864) == 25)) else (if (a3 / 67108864) = 27 then (linkreloc_Ppc64Variant.j2 kj4 (x2_4 / 65536) x9_4 ((a3 / 67108864) == 27)) else (linkreloc_Ppc64Variant.j2 kj4 (x2_4 / 65536) x9_4 ((a3 / 67108864) == 29)))) = some (r1, r2) := by rw [if_pos rfl] at H; exact H
        clear H
        have H := H1
        clear H1
        have HC23 := Aside0.mk H
        clear H
        go_upto_if 53 with (fail)
        go_cut [53] (fun v53 wc => ∃ (kq : Nat) (x53_22 : Bool), v53 = .bool x53_22 ∧ Aside0 (linkreloc_Ppc64Variant.j2 kq (x2_4 / 65536) x9_4 x53_22 = some (r1, r2)) ∧ Aside0 (kq ≤ kj4) ∧ Drawn0 w wc)
        case first =>
          have H := HC23.out
          clear HC23
          by_cases c24 : (a3 / 67108864) = 25
          · rw [if_pos c24] at H
            have c24b0 : ((a3 / 67108864) == 25) = true := beq_iff_eq.mpr c24
            have c24b1 : ((a3 / 67108864) != 25) = false := bne_eq_false_iff_eq.mpr c24
            clear c24
            (first | rw [c24b0] | (simp only [i64_w, i32_w]; rw [c24b0]) | skip)
            have H' := Aside0.mk H
            clear H
            go_wp2
            go_meet
            case rel => exact ⟨_, (((a3 / 67108864) == 25)), (by first | rfl | (simp; done) | (simp [*]; done)), H', ⟨by have := HJ4.out; first | omega | exact Nat.le_refl _⟩, by repeat (first | exact Drawn0.refl _ | apply Drawn0.step)⟩
          · rw [if_neg c24] at H
            have c24b0 : ((a3 / 67108864) == 25) = false := beq_eq_false_iff_ne.mpr c24
            have c24b1 : ((a3 / 67108864) != 25) = true := bne_iff_ne.mpr c24
            (first | rw [c24b0] | (simp only [i64_w, i32_w]; rw [c24b0]) | skip)
            by_cases c25 : (a3 / 67108864) = 27
            · rw [if_pos c25] at H
              have c25b0 : ((a3 / 67108864) == 27) = true := beq_iff_eq.mpr c25
              have c25b1 : ((a3 / 67108864) != 27) = false := bne_eq_false_iff_eq.mpr c25
              clear c25
              have H' := Aside0.mk H
              clear H
              go_wp2
              go_meet
              case rel => exact ⟨_, (((a3 / 67108864) == 27)), (by first | rfl | (simp; done) | (simp [*]; done)), H', ⟨by have := HJ4.out; first | omega | exact Nat.le_refl _⟩, by repeat (first | exact Drawn0.refl _ | apply Drawn0.step)⟩
            · rw [if_neg c25] at H
              have c25b0 : ((a3 / 67108864) == 27) = false := beq_eq_false_iff_ne.mpr c25
              have c25b1 : ((a3 / 67108864) != 27) = true := bne_iff_ne.mpr c25
              have H' := Aside0.mk H
              clear H
              go_wp2
              go_meet
              case rel => exact ⟨_, (((a3 / 67108864) == 29)), (by first | rfl | (simp; done) | (simp [*]; done)), H', ⟨by have := HJ4.out; first | omega | exact Nat.le_refl _⟩, by repeat (first | exact Drawn0.refl _ | apply Drawn0.step)⟩
        case rest =>
          clear HC23
          try clear c1
          try clear c2
          try clear p2
          try clear c3
          try clear c4
          try clear c6
          try clear c6b0
          try clear c6b1
          try clear p6
          try clear c7
          try clear c9
          try clear c9b0
          try clear c9b1
          try clear c10
          try clear c10b0
          try clear c10b1
          try clear c11
          try clear c12
          try clear c12b0
          try clear c12b1
          try clear c13
          try clear c13b0
          try clear c13b1
          try clear c14
          try clear c14b0
          try clear c14b1
          try clear c15
          try clear c15b0
          try clear c15b1
          try clear c16
          try clear c16b0
          try clear c16b1
          try clear c17
          try clear c17b0
          try clear c17b1
          try clear c18
          try clear c19
          try clear c19b0
          try clear c19b1
          try clear c20
          try clear c21
          try clear c21b0
          try clear c21b1
          try clear c22
          try clear c24
          try clear c24b0
          try clear c24b1
          try clear c25
          try clear c25b0
          try clear c25b1
          try clear p2
          try clear p6
          obtain ⟨kq, x53_22, rfl, HA, HJ22, ⟨mc22, rfl⟩⟩ := hcut
          cases kq with
          | zero => exact absurd HA.out (by simp [linkreloc_Ppc64Variant.j2])
          | succ kj22 =>
            have H := HA.out
            clear HA
            simp only [linkreloc_Ppc64Variant.j2] at H
            by_cases c26 : x53_22 = true
            · subst c26
              have H1 : (if ((x2_4 / 65536) / 65536) = 0 then (some (wrap64 (IntKind.i16.wrap ((x2_4 / 65536))), x9_4)) else (some ((x2_4 / 65536), 1))) = some (r1, r2) := by rw [if_pos rfl] at H; exact H
              clear H
              have H := H1
              clear H1
              by_cases c27 : ((x2_4 / 65536) / 65536) = 0
              · rw [if_pos c27] at H
                have c27b0 : (((x2_4 / 65536) / 65536) == 0) = true := beq_iff_eq.mpr c27
                have c27b1 : (((x2_4 / 65536) / 65536) != 0) = false := bne_eq_false_iff_eq.mpr c27
                clear c27
                simp only [Option.some.injEq, Prod.mk.injEq] at H
                obtain ⟨rfl, rfl⟩ := H
                go_wp2
                go_ret2
                exact ⟨by first | rfl | (simp; done) | (simp [*]; done), by repeat (first | exact Drawn0.refl _ | apply Drawn0.step)⟩
              · rw [if_neg c27] at H
                have c27b0 : (((x2_4 / 65536) / 65536) == 0) = false := beq_eq_false_iff_ne.mpr c27
                have c27b1 : (((x2_4 / 65536) / 65536) != 0) = true := bne_iff_ne.mpr c27
                simp only [Option.some.injEq, Prod.mk.injEq] at H
                obtain ⟨rfl, rfl⟩ := H
                go_wp2
                go_ret2
                exact ⟨by first | rfl | (simp; done) | (simp [*]; done), by repeat (first | exact Drawn0.refl _ | apply Drawn0.step)⟩
            · replace c26 := Bool.eq_false_iff.mpr c26
              subst c26
              have H1 : (if (wrap64 (IntKind.i16.wrap ((x2_4 / 65536)))) = (x2_4 / 65536) then (some (wrap64 (IntKind.i16.wrap ((x2_4 / 65536))), x9_4)) else (some ((x2_4 / 65536), 1))) = some (r1, r2) := by rw [if_neg (show ¬ (false = true) by decide)] at H; exact H
              clear H
              have H := H1
              clear H1
              by_cases c28 : (wrap64 (IntKind.i16.wrap ((x2_4 / 65536)))) = (x2_4 / 65536)
              · rw [if_pos c28] at H
                have c28b0 : ((wrap64 (IntKind.i16.wrap ((x2_4 / 65536)))) == (x2_4 / 65536)) = true := beq_iff_eq.mpr c28
                have c28b1 : ((wrap64 (IntKind.i16.wrap ((x2_4 / 65536)))) != (x2_4 / 65536)) = false := bne_eq_false_iff_eq.mpr c28
                clear c28
                simp only [Option.some.injEq, Prod.mk.injEq] at H
                obtain ⟨rfl, rfl⟩ := H
                go_wp2
                go_ret2
                exact ⟨by first | rfl | (simp; done) | (simp [*]; done), by repeat (first | exact Drawn0.refl _ | apply Drawn0.step)⟩
              · rw [if_neg c28] at H
                have c28b0 : ((wrap64 (IntKind.i16.wrap ((x2_4 / 65536)))) == (x2_4 / 65536)) = false := beq_eq_false_iff_ne.mpr c28
                have c28b1 : ((wrap64 (IntKind.i16.wrap ((x2_4 / 65536)))) != (x2_4 / 65536)) = true := bne_iff_ne.mpr c28
                simp only [Option.some.injEq, Prod.mk.injEq] at H
                obtain ⟨rfl, rfl⟩ := H
                go_wp2
                go_ret2
                exact ⟨by first | rfl | (simp; done) | (simp [*]; done), by repeat (first | exact Drawn0.refl _ | apply Drawn0.step)⟩
      · replace c22 := Bool.eq_false_iff.mpr c22
        subst c22
        have H1 : (some (wrap64 (IntKind.i16.wrap (x2_4 / 65536)), x9_4)) = some (r1, r2) := by rw [if_neg (show ¬ (false = true) by decide)] at H; exact H
        clear H
        have H := H1
        clear H1
        simp only [Option.some.injEq, Prod.mk.injEq] at H
        obtain ⟨rfl, rfl⟩ := H
        go_wp2
        go_ret2
        exact ⟨by first | rfl | (simp; done) | (simp [*]; done), by repeat (first | exact Drawn0.refl _ | apply Drawn0.step)⟩

/-! ### impl_Ppc64Variant: function 29 -/
def impl_Ppc64Variant.f (k : Nat) (a0 : Int) (a1 : Bool) (a2 : Int) (a3 : Int) : Option (Int × Int) := (linkreloc_Ppc64Variant.f k a0 a1 a2 a3).bind fun bt102 => (some (bt102.1, bt102.2))
theorem impl_Ppc64Variant.mono : ∀ a0 a1 a2 a3 k, LeO (impl_Ppc64Variant.f k a0 a1 a2 a3) (impl_Ppc64Variant.f (k + 1) a0 a1 a2 a3) := by
  intro a0 a1 a2 a3 k
  unfold impl_Ppc64Variant.f
  repeat' first
      | (with_reducible exact linkreloc_Ppc64Variant.mono _ _ _ _ _)
      | (with_reducible exact LeO.refl _)
      | (with_reducible exact LeO.none _)
      | (with_reducible refine LeO.ite ?_ ?_)
      | (with_reducible refine LeO.bind ?_ (fun _ => ?_))
      | exact linkreloc_Ppc64Variant.mono _ _ _ _ _
      | exact LeO.none _
      | refine LeO.ite ?_ ?_
      | refine LeO.bind ?_ (fun _ => ?_)
set_option maxHeartbeats 8000000 in
set_option maxRecDepth 100000 in
theorem impl_Ppc64Variant.calls (k : Nat) (a0 : Int) (a1 : Bool) (a2 : Int) (a3 : Int) (r1 : Int) (r2 : Int) (w : World) (h : impl_Ppc64Variant.f k a0 a1 a2 a3 = some (r1, r2)) :
    Calls Try.prog 29 #[.int .i64 a0, .bool a1, .int .i64 a2, .int .u32 a3] w fun e w' => e = .returned (.tuple #[.int .i64 r1, .int .i64 r2]) ∧ Drawn0 w w' := by
  have H : ((linkreloc_Ppc64Variant.f k a0 a1 a2 a3).bind fun bt102 => (some (bt102.1, bt102.2))) = some (r1, r2) := h
  clear h
  replace H := Option.bind_eq_some_iff.mp H
  obtain ⟨⟨t102, t103⟩, A50, H⟩ := H
  replace H : (some (t102, t103)) = some (r1, r2) := H
  have A5 := Aside0.mk A50
  clear A50
  simp only [Option.some.injEq, Prod.mk.injEq] at H
  obtain ⟨rfl, rfl⟩ := H
  go_enter Try.func29, Try.ntmps29
  go_wp2_with (first | ((with_reducible refine gate_callee (f := 36) rfl ?_); refine goesL_ (some 14) rfl rfl Try.func36 (by kernel_rfl) rfl #[.int .i64 a0, .bool a1, .int .i64 a2, .int .u32 a3] rfl (by (try simp only [List.map_toArray, List.map_cons, List.map_nil]); first | done | rfl | (simp only [List.length_drop, List.length_take]; rfl)) ?_; (with_reducible refine (linkreloc_Ppc64Variant.calls k a0 a1 a2 a3 t102 t103 _ A5.out).mono ?_); rintro e w' ⟨rfl, ⟨nd, rfl⟩⟩; refine ⟨_, rfl, ?_⟩))
  go_ret2
  exact ⟨by first | rfl | (simp; done) | (simp [*]; done), by repeat (first | exact Drawn0.refl _ | apply Drawn0.step)⟩

/-! ### linkreloc_ComputeLO: function 37 -/
def linkreloc_ComputeLO.f (a0 : Int) : Option (Int) := some ((IntKind.u16.wrap (a0)) % 4294967296)
set_option maxHeartbeats 8000000 in
set_option maxRecDepth 100000 in
theorem linkreloc_ComputeLO.calls (a0 : Int) (r : Int) (w : World) (h : linkreloc_ComputeLO.f a0 = some r) :
    Calls Try.prog 37 #[.int .i32 a0] w fun e w' => e = .returned (.int .u32 r) ∧ Drawn0 w w' := by
  have H : (some ((IntKind.u16.wrap (a0)) % 4294967296)) = some r := h
  clear h
  obtain rfl := Option.some.inj H
  go_enter Try.func37, Try.ntmps37
  go_wp2
  go_ret
  exact ⟨by first | rfl | (simp; done) | (simp [*]; done), by repeat (first | exact Drawn0.refl _ | apply Drawn0.step)⟩

/-! ### impl_ComputeLO: function 30 -/
def impl_ComputeLO.f (a0 : Int) : Option (Int) := (linkreloc_ComputeLO.f a0).bind fun t104 => (some t104)
set_option maxHeartbeats 8000000 in
set_option maxRecDepth 100000 in
theorem impl_ComputeLO.calls (a0 : Int) (r : Int) (w : World) (h : impl_ComputeLO.f a0 = some r) :
    Calls Try.prog 30 #[.int .i32 a0] w fun e w' => e = .returned (.int .u32 r) ∧ Drawn0 w w' := by
  have H : ((linkreloc_ComputeLO.f a0).bind fun t104 => (some t104)) = some r := h
  clear h
  replace H := Option.bind_eq_some_iff.mp H
  obtain ⟨t104, A20, H⟩ := H
  replace H : (some t104) = some r := H
  have A2 := Aside0.mk A20
  clear A20
  obtain rfl := Option.some.inj H
  go_enter Try.func30, Try.ntmps30
  go_wp2_with (first | ((with_reducible refine gate_callee (f := 37) rfl ?_); refine goesL_ (some 4) rfl rfl Try.func37 (by kernel_rfl) rfl #[.int .i32 a0] rfl (by (try simp only [List.map_toArray, List.map_cons, List.map_nil]); first | done | rfl | (simp only [List.length_drop, List.length_take]; rfl)) ?_; (with_reducible refine (linkreloc_ComputeLO.calls a0 t104 _ A2.out).mono ?_); rintro e w' ⟨rfl, ⟨nd, rfl⟩⟩; refine ⟨_, rfl, ?_⟩))
  go_ret
  exact ⟨by first | rfl | (simp; done) | (simp [*]; done), by repeat (first | exact Drawn0.refl _ | apply Drawn0.step)⟩

end Go.Proofs.Ytijikeoehbllcaa.PFnPowerVariant
