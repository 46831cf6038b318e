-- PRINTED BY print.sh 35421559b90ae4d0a3588c463048766b98c2df88dd9212a6774a882060cdf62d: not written by this session
import Derived.Test.YtijikeoehbllcaaPFnPowerVariantx0
import Derived.Test.YtijikeoehbllcaaPFnPowerVariantx1
namespace Go.Proofs.Ytijikeoehbllcaa.PFnPowerVariant
open Go.RowKit Go.Proofs.YtijikeoehbllcaaW.PrintWords Go.Proofs.YtijikeoehbllcaaW.PrintLast Go.Proofs.YtijikeoehbllcaaW.PrintMore
attribute [local go_sem] max2_int min2_int max_two min_two max_three min_three max_four min_four   -- for this text's walks alone
set_option linter.unusedVariables false
set_option linter.unusedSimpArgs false

/-! ### laws_FnPowerVariant: function 11 -/
def laws_FnPowerVariant.j0 : Nat → Int → Int → Int → Option (Bool)
  | 0, _, _, _ => none
  | k + 1, x1, x2, x7 => (impl_Ppc64Variant.f k x7 false (wrap64 (x1)) x2).bind fun bt105 => ((spec_Half.f ((x1) % 4294967296)).bind fun t107 => (if x7 = 1 then (if bt105.2 = 0 then ((spec_Sext.f bt105.1 16).bind fun t108 => (if t108 = ((wrap64 (x1)) / 65536) then ((impl_ComputeLO.f 1).bind fun t109 => (some (t109 == 1))) else (some false))) else (some false)) else (if x7 = 2 then ((spec_Sext.f ((wrap64 ((wrap64 (x1)) + 32768)) / 65536) 16).bind fun t110 => (if bt105.2 = 0 then ((spec_Sext.f bt105.1 16).bind fun t111 => (if t111 = t110 then ((impl_ComputeLO.f 1).bind fun t112 => (some (t112 == 1))) else (some false))) else (some false))) else (if x7 = 3 then (if bt105.2 = 0 then ((spec_Sext.f bt105.1 16).bind fun t113 => (if t113 = (Go.bits .or .i64 t107 (wrap64 (Go.bits .and .u32 x2 3))) then ((impl_ComputeLO.f 1).bind fun t114 => (some (t114 == 1))) else (some false))) else (some false)) else (if bt105.2 = 0 then ((spec_Sext.f bt105.1 16).bind fun t115 => (if t115 = t107 then ((impl_ComputeLO.f 1).bind fun t116 => (some (t116 == 1))) else (some false))) else (some false))))))
def laws_FnPowerVariant.f (k : Nat) (a0 : Int) (a1 : Int) (a2 : Int) : Option (Bool) := if (wrap64 (Int.tmod a0 4)) = 3 then (laws_FnPowerVariant.j0 k (Go.bits .andNot .i32 a1 3) a2 (wrap64 (Int.tmod a0 4))) else (laws_FnPowerVariant.j0 k a1 a2 (wrap64 (Int.tmod a0 4)))
theorem laws_FnPowerVariant.mono_l : ∀ k, (∀ y0 y1 y2, LeO (laws_FnPowerVariant.j0 k y0 y1 y2) (laws_FnPowerVariant.j0 (k + 1) y0 y1 y2))
  | 0 => fun _ _ _ r h => by simp [laws_FnPowerVariant.j0] at h
  | k + 1 => by
    have ih0 := laws_FnPowerVariant.mono_l k
    · intro y0 y1 y2
      unfold laws_FnPowerVariant.j0
      repeat' first
      | (with_reducible exact ih0 _ _ _)
      | (with_reducible exact impl_Ppc64Variant.mono _ _ _ _ _)
      | (with_reducible exact LeO.refl _)
      | (with_reducible exact LeO.none _)
      | (with_reducible refine LeO.ite ?_ ?_)
      | (with_reducible refine LeO.bind ?_ (fun _ => ?_))
      | exact ih0 _ _ _
      | exact impl_Ppc64Variant.mono _ _ _ _ _
      | exact LeO.none _
      | refine LeO.ite ?_ ?_
      | refine LeO.bind ?_ (fun _ => ?_)
theorem laws_FnPowerVariant.mono : ∀ a0 a1 a2 k, LeO (laws_FnPowerVariant.f k a0 a1 a2) (laws_FnPowerVariant.f (k + 1) a0 a1 a2) := by
  intro a0 a1 a2 k
  have ih0 := laws_FnPowerVariant.mono_l k
  unfold laws_FnPowerVariant.f
  repeat' first
      | (with_reducible exact ih0 _ _ _)
      | (with_reducible exact impl_Ppc64Variant.mono _ _ _ _ _)
      | (with_reducible exact LeO.refl _)
      | (with_reducible exact LeO.none _)
      | (with_reducible refine LeO.ite ?_ ?_)
      | (with_reducible refine LeO.bind ?_ (fun _ => ?_))
      | exact ih0 _ _ _
      | exact impl_Ppc64Variant.mono _ _ _ _ _
      | exact LeO.none _
      | refine LeO.ite ?_ ?_
      | refine LeO.bind ?_ (fun _ => ?_)
set_option maxHeartbeats 8000000 in
set_option maxRecDepth 100000 in
theorem laws_FnPowerVariant.calls (k : Nat) (a0 : Int) (a1 : Int) (a2 : Int) (r : Bool) (w : World) (h : laws_FnPowerVariant.f k a0 a1 a2 = some r) :
    Calls Try.prog 11 #[.int .u8 a0, .int .i32 a1, .int .u32 a2] w fun e w' => e = .returned (.bool r) ∧ Drawn0 w w' := by
  have H : (if (wrap64 (Int.tmod a0 4)) = 3 then (laws_FnPowerVariant.j0 k (Go.bits .andNot .i32 a1 3) a2 (wrap64 (Int.tmod a0 4))) else (laws_FnPowerVariant.j0 k a1 a2 (wrap64 (Int.tmod a0 4)))) = some r := h
  clear h
  have HC4 := Aside0.mk H
  clear H
  go_enter Try.func11, Try.ntmps11
  go_upto_if 15 with (fail)
  go_cut [1] (fun v1 wc => ∃ (kq : Nat) (x1_3 : Int), v1 = .int .i32 x1_3 ∧ Aside0 (laws_FnPowerVariant.j0 kq x1_3 a2 (wrap64 (Int.tmod a0 4)) = some r) ∧ Aside0 (kq ≤ k) ∧ Drawn0 w wc)
  case first =>
    have H := HC4.out
    clear HC4
    by_cases c5 : (wrap64 (Int.tmod a0 4)) = 3
    · rw [if_pos c5] at H
      have c5b0 : ((wrap64 (Int.tmod a0 4)) == 3) = true := beq_iff_eq.mpr c5
      have c5b1 : ((wrap64 (Int.tmod a0 4)) != 3) = false := bne_eq_false_iff_eq.mpr c5
      clear c5
      (first | rw [c5b0] | (simp only [i64_w, i32_w]; rw [c5b0]) | skip)
      have H' := Aside0.mk H
      clear H
      go_wp2
      go_meet
      case rel => exact ⟨_, (Go.bits .andNot .i32 a1 3), (by first | rfl | (simp; done) | (simp [*]; done)), H', ⟨by first | omega | exact Nat.le_refl _⟩, by repeat (first | exact Drawn0.refl _ | apply Drawn0.step)⟩
    · rw [if_neg c5] at H
      have c5b0 : ((wrap64 (Int.tmod a0 4)) == 3) = false := beq_eq_false_iff_ne.mpr c5
      have c5b1 : ((wrap64 (Int.tmod a0 4)) != 3) = true := bne_iff_ne.mpr c5
      (first | rw [c5b0] | (simp only [i64_w, i32_w]; rw [c5b0]) | skip)
      have H' := Aside0.mk H
      clear H
      go_wp2
      go_meet
      case rel => exact ⟨_, (a1), (by first | rfl | (simp; done) | (simp [*]; done)), H', ⟨by first | omega | exact Nat.le_refl _⟩, by repeat (first | exact Drawn0.refl _ | apply Drawn0.step)⟩
  case rest =>
    clear HC4
    try clear c1
    try clear p2
    try clear c5
    try clear c5b0
    try clear c5b1
    obtain ⟨kq, x1_3, rfl, HA, HJ3, ⟨mc3, rfl⟩⟩ := hcut
    cases kq with
    | zero => exact absurd HA.out (by simp [laws_FnPowerVariant.j0])
    | succ kj3 =>
      have H := HA.out
      clear HA
      simp only [laws_FnPowerVariant.j0] at H
      replace H := Option.bind_eq_some_iff.mp H
      obtain ⟨⟨t105, t106⟩, A60, H⟩ := H
      replace H : ((spec_Half.f ((x1_3) % 4294967296)).bind fun t107 => (if (wrap64 (Int.tmod a0 4)) = 1 then (if t106 = 0 then ((spec_Sext.f t105 16).bind fun t108 => (if t108 = ((wrap64 (x1_3)) / 65536) then ((impl_ComputeLO.f 1).bind fun t109 => (some (t109 == 1))) else (some false))) else (some false)) else (if (wrap64 (Int.tmod a0 4)) = 2 then ((spec_Sext.f ((wrap64 ((wrap64 (x1_3)) + 32768)) / 65536) 16).bind fun t110 => (if t106 = 0 then ((spec_Sext.f t105 16).bind fun t111 => (if t111 = t110 then ((impl_ComputeLO.f 1).bind fun t112 => (some (t112 == 1))) else (some false))) else (some false))) else (if (wrap64 (Int.tmod a0 4)) = 3 then (if t106 = 0 then ((spec_Sext.f t105 16).bind fun t113 => (if t113 = (Go.bits .or .i64 t107 (wrap64 (Go.bits .and .u32 a2 3))) then ((impl_ComputeLO.f 1).bind fun t114 => (some (t114 == 1))) else (some false))) else (some false)) else (if t106 = 0 then ((spec_Sext.f t105 16).bind fun t115 => (if t115 = t107 then ((impl_ComputeLO.f 1).bind fun t116 => (some (t116 == 1))) else (some false))) else (some false)))))) = some r := H
      have A6 := Aside0.mk A60
      clear A60
      replace H := Option.bind_eq_some_iff.mp H
      obtain ⟨t107, A70, H⟩ := H
      replace H : (if (wrap64 (Int.tmod a0 4)) = 1 then (if t106 = 0 then ((spec_Sext.f t105 16).bind fun t108 => (if t108 = ((wrap64 (x1_3)) / 65536) then ((impl_ComputeLO.f 1).bind fun t109 => (some (t109 == 1))) else (some false))) else (some false)) else (if (wrap64 (Int.tmod a0 4)) = 2 then ((spec_Sext.f ((wrap64 ((wrap64 (x1_3)) + 32768)) / 65536) 16).bind fun t110 => (if t106 = 0 then ((spec_Sext.f t105 16).bind fun t111 => (if t111 = t110 then ((impl_ComputeLO.f 1).bind fun t112 => (some (t112 == 1))) else (some false))) else (some false))) else (if (wrap64 (Int.tmod a0 4)) = 3 then (if t106 = 0 then ((spec_Sext.f t105 16).bind fun t113 => (if t113 = (Go.bits .or .i64 t107 (wrap64 (Go.bits .and .u32 a2 3))) then ((impl_ComputeLO.f 1).bind fun t114 => (some (t114 == 1))) else (some false))) else (some false)) else (if t106 = 0 then ((spec_Sext.f t105 16).bind fun t115 => (if t115 = t107 then ((impl_ComputeLO.f 1).bind fun t116 => (some (t116 == 1))) else (some false))) else (some false))))) = some r := H
      have A7 := Aside0.mk A70
      clear A70
      by_cases c8 : (wrap64 (Int.tmod a0 4)) = 1
      · rw [if_pos c8] at H
        have c8b0 : ((wrap64 (Int.tmod a0 4)) == 1) = true := beq_iff_eq.mpr c8
        have c8b1 : ((wrap64 (Int.tmod a0 4)) != 1) = false := bne_eq_false_iff_eq.mpr c8
        clear c8
        by_cases c9 : t106 = 0
        · rw [if_pos c9] at H
          have c9b0 : (t106 == 0) = true := beq_iff_eq.mpr c9
          have c9b1 : (t106 != 0) = false := bne_eq_false_iff_eq.mpr c9
          clear c9
          replace H := Option.bind_eq_some_iff.mp H
          obtain ⟨t108, A100, H⟩ := H
          replace H : (if t108 = ((wrap64 (x1_3)) / 65536) then ((impl_ComputeLO.f 1).bind fun t109 => (some (t109 == 1))) else (some false)) = some r := H
          have A10 := Aside0.mk A100
          clear A100
          by_cases c11 : t108 = ((wrap64 (x1_3)) / 65536)
          · rw [if_pos c11] at H
            have c11b0 : (t108 == ((wrap64 (x1_3)) / 65536)) = true := beq_iff_eq.mpr c11
            have c11b1 : (t108 != ((wrap64 (x1_3)) / 65536)) = false := bne_eq_false_iff_eq.mpr c11
            clear c11
            replace H := Option.bind_eq_some_iff.mp H
            obtain ⟨t109, A120, H⟩ := H
            replace H : (some (t109 == 1)) = some r := H
            have A12 := Aside0.mk A120
            clear A120
            obtain rfl := Option.some.inj H
            go_wp2_with (first | ((with_reducible refine gate_callee (f := 29) rfl ?_); refine goesL_ (some 23) rfl rfl Try.func29 (by kernel_rfl) rfl #[.int .i64 (wrap64 (Int.tmod a0 4)), .bool false, .int .i64 (wrap64 (x1_3)), .int .u32 a2] rfl (by (try simp only [List.map_toArray, List.map_cons, List.map_nil]); first | done | rfl | (simp only [List.length_drop, List.length_take]; rfl)) ?_; (with_reducible refine (impl_Ppc64Variant.calls kj3 (wrap64 (Int.tmod a0 4)) false (wrap64 (x1_3)) a2 t105 t106 _ A6.out).mono ?_); rintro e w' ⟨rfl, ⟨nd, rfl⟩⟩; refine ⟨_, rfl, ?_⟩) | ((with_reducible refine gate_callee (f := 28) rfl ?_); refine goesL_ (some 28) rfl rfl Try.func28 (by kernel_rfl) rfl #[.int .u32 ((x1_3) % 4294967296)] rfl (by (try simp only [List.map_toArray, List.map_cons, List.map_nil]); first | done | rfl | (simp only [List.length_drop, List.length_take]; rfl)) ?_; (with_reducible refine (spec_Half.calls ((x1_3) % 4294967296) t107 _ A7.out).mono ?_); rintro e w' ⟨rfl, ⟨nd, rfl⟩⟩; refine ⟨_, rfl, ?_⟩) | (go_at_call 23; (with_reducible refine (spec_Sext.calls t105 16 t108 _ A10.out).mono ?_); rintro e w' ⟨rfl, ⟨nd, rfl⟩⟩) | (go_at_call 30; (with_reducible refine (impl_ComputeLO.calls 1 t109 _ A12.out).mono ?_); rintro e w' ⟨rfl, ⟨nd, rfl⟩⟩))
            go_ret
            exact ⟨by first | rfl | (simp; done) | (simp [*]; done), by repeat (first | exact Drawn0.refl _ | apply Drawn0.step)⟩
          · rw [if_neg c11] at H
            have c11b0 : (t108 == ((wrap64 (x1_3)) / 65536)) = false := beq_eq_false_iff_ne.mpr c11
            have c11b1 : (t108 != ((wrap64 (x1_3)) / 65536)) = true := bne_iff_ne.mpr c11
            obtain rfl := Option.some.inj H
            go_wp2_with (first | ((with_reducible refine gate_callee (f := 29) rfl ?_); refine goesL_ (some 23) rfl rfl Try.func29 (by kernel_rfl) rfl #[.int .i64 (wrap64 (Int.tmod a0 4)), .bool false, .int .i64 (wrap64 (x1_3)), .int .u32 a2] rfl (by (try simp only [List.map_toArray, List.map_cons, List.map_nil]); first | done | rfl | (simp only [List.length_drop, List.length_take]; rfl)) ?_; (with_reducible refine (impl_Ppc64Variant.calls kj3 (wrap64 (Int.tmod a0 4)) false (wrap64 (x1_3)) a2 t105 t106 _ A6.out).mono ?_); rintro e w' ⟨rfl, ⟨nd, rfl⟩⟩; refine ⟨_, rfl, ?_⟩) | ((with_reducible refine gate_callee (f := 28) rfl ?_); refine goesL_ (some 28) rfl rfl Try.func28 (by kernel_rfl) rfl #[.int .u32 ((x1_3) % 4294967296)] rfl (by (try simp only [List.map_toArray, List.map_cons, List.map_nil]); first | done | rfl | (simp only [List.length_drop, List.length_take]; rfl)) ?_; (with_reducible refine (spec_Half.calls ((x1_3) % 4294967296) t107 _ A7.out).mono ?_); rintro e w' ⟨rfl, ⟨nd, rfl⟩⟩; refine ⟨_, rfl, ?_⟩) | (go_at_call 23; (with_reducible refine (spec_Sext.calls t105 16 t108 _ A10.out).mono ?_); rintro e w' ⟨rfl, ⟨nd, rfl⟩⟩))
            go_ret
            exact ⟨by first | rfl | (simp; done) | (simp [*]; done), by repeat (first | exact Drawn0.refl _ | apply Drawn0.step)⟩
        · rw [if_neg c9] at H
          have c9b0 : (t106 == 0) = false := beq_eq_false_iff_ne.mpr c9
          have c9b1 : (t106 != 0) = true := bne_iff_ne.mpr c9
          obtain rfl := Option.some.inj H
          go_wp2_with (first | ((with_reducible refine gate_callee (f := 29) rfl ?_); refine goesL_ (some 23) rfl rfl Try.func29 (by kernel_rfl) rfl #[.int .i64 (wrap64 (Int.tmod a0 4)), .bool false, .int .i64 (wrap64 (x1_3)), .int .u32 a2] rfl (by (try simp only [List.map_toArray, List.map_cons, List.map_nil]); first | done | rfl | (simp only [List.length_drop, List.length_take]; rfl)) ?_; (with_reducible refine (impl_Ppc64Variant.calls kj3 (wrap64 (Int.tmod a0 4)) false (wrap64 (x1_3)) a2 t105 t106 _ A6.out).mono ?_); rintro e w' ⟨rfl, ⟨nd, rfl⟩⟩; refine ⟨_, rfl, ?_⟩) | ((with_reducible refine gate_callee (f := 28) rfl ?_); refine goesL_ (some 28) rfl rfl Try.func28 (by kernel_rfl) rfl #[.int .u32 ((x1_3) % 4294967296)] rfl (by (try simp only [List.map_toArray, List.map_cons, List.map_nil]); first | done | rfl | (simp only [List.length_drop, List.length_take]; rfl)) ?_; (with_reducible refine (spec_Half.calls ((x1_3) % 4294967296) t107 _ A7.out).mono ?_); rintro e w' ⟨rfl, ⟨nd, rfl⟩⟩; refine ⟨_, rfl, ?_⟩))
          go_ret
          exact ⟨by first | rfl | (simp; done) | (simp [*]; done), by repeat (first | exact Drawn0.refl _ | apply Drawn0.step)⟩
      · rw [if_neg c8] at H
        have c8b0 : ((wrap64 (Int.tmod a0 4)) == 1) = false := beq_eq_false_iff_ne.mpr c8
        have c8b1 : ((wrap64 (Int.tmod a0 4)) != 1) = true := bne_iff_ne.mpr c8
        by_cases c13 : (wrap64 (Int.tmod a0 4)) = 2
        · rw [if_pos c13] at H
          have c13b0 : ((wrap64 (Int.tmod a0 4)) == 2) = true := beq_iff_eq.mpr c13
          have c13b1 : ((wrap64 (Int.tmod a0 4)) != 2) = false := bne_eq_false_iff_eq.mpr c13
          clear c13
          replace H := Option.bind_eq_some_iff.mp H
          obtain ⟨t110, A140, H⟩ := H
          replace H : (if t106 = 0 then ((spec_Sext.f t105 16).bind fun t111 => (if t111 = t110 then ((impl_ComputeLO.f 1).bind fun t112 => (some (t112 == 1))) else (some false))) else (some false)) = some r := H
          have A14 := Aside0.mk A140
          clear A140
          by_cases c15 : t106 = 0
          · rw [if_pos c15] at H
            have c15b0 : (t106 == 0) = true := beq_iff_eq.mpr c15
            have c15b1 : (t106 != 0) = false := bne_eq_false_iff_eq.mpr c15
            clear c15
            replace H := Option.bind_eq_some_iff.mp H
            obtain ⟨t111, A160, H⟩ := H
            replace H : (if t111 = t110 then ((impl_ComputeLO.f 1).bind fun t112 => (some (t112 == 1))) else (some false)) = some r := H
            have A16 := Aside0.mk A160
            clear A160
            by_cases c17 : t111 = t110
            · rw [if_pos c17] at H
              have c17b0 : (t111 == t110) = true := beq_iff_eq.mpr c17
              have c17b1 : (t111 != t110) = false := bne_eq_false_iff_eq.mpr c17
              clear c17
              replace H := Option.bind_eq_some_iff.mp H
              obtain ⟨t112, A180, H⟩ := H
              replace H : (some (t112 == 1)) = some r := H
              have A18 := Aside0.mk A180
              clear A180
              obtain rfl := Option.some.inj H
              go_wp2_with (first | ((with_reducible refine gate_callee (f := 29) rfl ?_); refine goesL_ (some 23) rfl rfl Try.func29 (by kernel_rfl) rfl #[.int .i64 (wrap64 (Int.tmod a0 4)), .bool false, .int .i64 (wrap64 (x1_3)), .int .u32 a2] rfl (by (try simp only [List.map_toArray, List.map_cons, List.map_nil]); first | done | rfl | (simp only [List.length_drop, List.length_take]; rfl)) ?_; (with_reducible refine (impl_Ppc64Variant.calls kj3 (wrap64 (Int.tmod a0 4)) false (wrap64 (x1_3)) a2 t105 t106 _ A6.out).mono ?_); rintro e w' ⟨rfl, ⟨nd, rfl⟩⟩; refine ⟨_, rfl, ?_⟩) | ((with_reducible refine gate_callee (f := 28) rfl ?_); refine goesL_ (some 28) rfl rfl Try.func28 (by kernel_rfl) rfl #[.int .u32 ((x1_3) % 4294967296)] rfl (by (try simp only [List.map_toArray, List.map_cons, List.map_nil]); first | done | rfl | (simp only [List.length_drop, List.length_take]; rfl)) ?_; (with_reducible refine (spec_Half.calls ((x1_3) % 4294967296) t107 _ A7.out).mono ?_); rintro e w' ⟨rfl, ⟨nd, rfl⟩⟩; refine ⟨_, rfl, ?_⟩) | ((with_reducible refine gate_callee (f := 23) rfl ?_); refine goesL_ (some 41) rfl rfl Try.func23 (by kernel_rfl) rfl #[.int .i64 ((wrap64 ((wrap64 (x1_3)) + 32768)) / 65536), .int .i64 16] rfl (by (try simp only [List.map_toArray, List.map_cons, List.map_nil]); first | done | rfl | (simp only [List.length_drop, List.length_take]; rfl)) ?_; (with_reducible refine (spec_Sext.calls ((wrap64 ((wrap64 (x1_3)) + 32768)) / 65536) 16 t110 _ A14.out).mono ?_); rintro e w' ⟨rfl, ⟨nd, rfl⟩⟩; refine ⟨_, rfl, ?_⟩) | (go_at_call 23; (with_reducible refine (spec_Sext.calls t105 16 t111 _ A16.out).mono ?_); rintro e w' ⟨rfl, ⟨nd, rfl⟩⟩) | (go_at_call 30; (with_reducible refine (impl_ComputeLO.calls 1 t112 _ A18.out).mono ?_); rintro e w' ⟨rfl, ⟨nd, rfl⟩⟩))
              go_ret
              exact ⟨by first | rfl | (simp; done) | (simp [*]; done), by repeat (first | exact Drawn0.refl _ | apply Drawn0.step)⟩
            · rw [if_neg c17] at H
              have c17b0 : (t111 == t110) = false := beq_eq_false_iff_ne.mpr c17
              have c17b1 : (t111 != t110) = true := bne_iff_ne.mpr c17
              obtain rfl := Option.some.inj H
              go_wp2_with (first | ((with_reducible refine gate_callee (f := 29) rfl ?_); refine goesL_ (some 23) rfl rfl Try.func29 (by kernel_rfl) rfl #[.int .i64 (wrap64 (Int.tmod a0 4)), .bool false, .int .i64 (wrap64 (x1_3)), .int .u32 a2] rfl (by (try simp only [List.map_toArray, List.map_cons, List.map_nil]); first | done | rfl | (simp only [List.length_drop, List.length_take]; rfl)) ?_; (with_reducible refine (impl_Ppc64Variant.calls kj3 (wrap64 (Int.tmod a0 4)) false (wrap64 (x1_3)) a2 t105 t106 _ A6.out).mono ?_); rintro e w' ⟨rfl, ⟨nd, rfl⟩⟩; refine ⟨_, rfl, ?_⟩) | ((with_reducible refine gate_callee (f := 28) rfl ?_); refine goesL_ (some 28) rfl rfl Try.func28 (by kernel_rfl) rfl #[.int .u32 ((x1_3) % 4294967296)] rfl (by (try simp only [List.map_toArray, List.map_cons, List.map_nil]); first | done | rfl | (simp only [List.length_drop, List.length_take]; rfl)) ?_; (with_reducible refine (spec_Half.calls ((x1_3) % 4294967296) t107 _ A7.out).mono ?_); rintro e w' ⟨rfl, ⟨nd, rfl⟩⟩; refine ⟨_, rfl, ?_⟩) | ((with_reducible refine gate_callee (f := 23) rfl ?_); refine goesL_ (some 41) rfl rfl Try.func23 (by kernel_rfl) rfl #[.int .i64 ((wrap64 ((wrap64 (x1_3)) + 32768)) / 65536), .int .i64 16] rfl (by (try simp only [List.map_toArray, List.map_cons, List.map_nil]); first | done | rfl | (simp only [List.length_drop, List.length_take]; rfl)) ?_; (with_reducible refine (spec_Sext.calls ((wrap64 ((wrap64 (x1_3)) + 32768)) / 65536) 16 t110 _ A14.out).mono ?_); rintro e w' ⟨rfl, ⟨nd, rfl⟩⟩; refine ⟨_, rfl, ?_⟩) | (go_at_call 23; (with_reducible refine (spec_Sext.calls t105 16 t111 _ A16.out).mono ?_); rintro e w' ⟨rfl, ⟨nd, rfl⟩⟩))
              go_ret
              exact ⟨by first | rfl | (simp; done) | (simp [*]; done), by repeat (first | exact Drawn0.refl _ | apply Drawn0.step)⟩
          · rw [if_neg c15] at H
            have c15b0 : (t106 == 0) = false := beq_eq_false_iff_ne.mpr c15
            have c15b1 : (t106 != 0) = true := bne_iff_ne.mpr c15
            obtain rfl := Option.some.inj H
            go_wp2_with (first | ((with_reducible refine gate_callee (f := 29) rfl ?_); refine goesL_ (some 23) rfl rfl Try.func29 (by kernel_rfl) rfl #[.int .i64 (wrap64 (Int.tmod a0 4)), .bool false, .int .i64 (wrap64 (x1_3)), .int .u32 a2] rfl (by (try simp only [List.map_toArray, List.map_cons, List.map_nil]); first | done | rfl | (simp only [List.length_drop, List.length_take]; rfl)) ?_; (with_reducible refine (impl_Ppc64Variant.calls kj3 (wrap64 (Int.tmod a0 4)) false (wrap64 (x1_3)) a2 t105 t106 _ A6.out).mono ?_); rintro e w' ⟨rfl, ⟨nd, rfl⟩⟩; refine ⟨_, rfl, ?_⟩) | ((with_reducible refine gate_callee (f := 28) rfl ?_); refine goesL_ (some 28) rfl rfl Try.func28 (by kernel_rfl) rfl #[.int .u32 ((x1_3) % 4294967296)] rfl (by (try simp only [List.map_toArray, List.map_cons, List.map_nil]); first | done | rfl | (simp only [List.length_drop, List.length_take]; rfl)) ?_; (with_reducible refine (spec_Half.calls ((x1_3) % 4294967296) t107 _ A7.out).mono ?_); rintro e w' ⟨rfl, ⟨nd, rfl⟩⟩; refine ⟨_, rfl, ?_⟩) | ((with_reducible refine gate_callee (f := 23) rfl ?_); refine goesL_ (some 41) rfl rfl Try.func23 (by kernel_rfl) rfl #[.int .i64 ((wrap64 ((wrap64 (x1_3)) + 32768)) / 65536), .int .i64 16] rfl (by (try simp only [List.map_toArray, List.map_cons, List.map_nil]); first | done | rfl | (simp only [List.length_drop, List.length_take]; rfl)) ?_; (with_reducible refine (spec_Sext.calls ((wrap64 ((wrap64 (x1_3)) + 32768)) / 65536) 16 t110 _ A14.out).mono ?_); rintro e w' ⟨rfl, ⟨nd, rfl⟩⟩; refine ⟨_, rfl, ?_⟩))
            go_ret
            exact ⟨by first | rfl | (simp; done) | (simp [*]; done), by repeat (first | exact Drawn0.refl _ | apply Drawn0.step)⟩
        · rw [if_neg c13] at H
          have c13b0 : ((wrap64 (Int.tmod a0 4)) == 2) = false := beq_eq_false_iff_ne.mpr c13
          have c13b1 : ((wrap64 (Int.tmod a0 4)) != 2) = true := bne_iff_ne.mpr c13
          by_cases c19 : (wrap64 (Int.tmod a0 4)) = 3
          · rw [if_pos c19] at H
            have c19b0 : ((wrap64 (Int.tmod a0 4)) == 3) = true := beq_iff_eq.mpr c19
            have c19b1 : ((wrap64 (Int.tmod a0 4)) != 3) = false := bne_eq_false_iff_eq.mpr c19
            clear c19
            by_cases c20 : t106 = 0
            · rw [if_pos c20] at H
              have c20b0 : (t106 == 0) = true := beq_iff_eq.mpr c20
              have c20b1 : (t106 != 0) = false := bne_eq_false_iff_eq.mpr c20
              clear c20
              replace H := Option.bind_eq_some_iff.mp H
              obtain ⟨t113, A210, H⟩ := H
              replace H : (if t113 = (Go.bits .or .i64 t107 (wrap64 (Go.bits .and .u32 a2 3))) then ((impl_ComputeLO.f 1).bind fun t114 => (some (t114 == 1))) else (some false)) = some r := H
              have A21 := Aside0.mk A210
              clear A210
              by_cases c22 : t113 = (Go.bits .or .i64 t107 (wrap64 (Go.bits .and .u32 a2 3)))
              · rw [if_pos c22] at H
                have c22b0 : (t113 == (Go.bits .or .i64 t107 (wrap64 (Go.bits .and .u32 a2 3)))) = true := beq_iff_eq.mpr c22
                have c22b1 : (t113 != (Go.bits .or .i64 t107 (wrap64 (Go.bits .and .u32 a2 3)))) = false := bne_eq_false_iff_eq.mpr c22
                clear c22
                replace H := Option.bind_eq_some_iff.mp H
                obtain ⟨t114, A230, H⟩ := H
                replace H : (some (t114 == 1)) = some r := H
                have A23 := Aside0.mk A230
                clear A230
                obtain rfl := Option.some.inj H
                go_wp2_with (first | ((with_reducible refine gate_callee (f := 29) rfl ?_); refine goesL_ (some 23) rfl rfl Try.func29 (by kernel_rfl) rfl #[.int .i64 (wrap64 (Int.tmod a0 4)), .bool false, .int .i64 (wrap64 (x1_3)), .int .u32 a2] rfl (by (try simp only [List.map_toArray, List.map_cons, List.map_nil]); first | done | rfl | (simp only [List.length_drop, List.length_take]; rfl)) ?_; (with_reducible refine (impl_Ppc64Variant.calls kj3 (wrap64 (Int.tmod a0 4)) false (wrap64 (x1_3)) a2 t105 t106 _ A6.out).mono ?_); rintro e w' ⟨rfl, ⟨nd, rfl⟩⟩; refine ⟨_, rfl, ?_⟩) | ((with_reducible refine gate_callee (f := 28) rfl ?_); refine goesL_ (some 28) rfl rfl Try.func28 (by kernel_rfl) rfl #[.int .u32 ((x1_3) % 4294967296)] rfl (by (try simp only [List.map_toArray, List.map_cons, List.map_nil]); first | done | rfl | (simp only [List.length_drop, List.length_take]; rfl)) ?_; (with_reducible refine (spec_Half.calls ((x1_3) % 4294967296) t107 _ A7.out).mono ?_); rintro e w' ⟨rfl, ⟨nd, rfl⟩⟩; refine ⟨_, rfl, ?_⟩) | (go_at_call 23; (with_reducible refine (spec_Sext.calls t105 16 t113 _ A21.out).mono ?_); rintro e w' ⟨rfl, ⟨nd, rfl⟩⟩) | (go_at_call 30; (with_reducible refine (impl_ComputeLO.calls 1 t114 _ A23.out).mono ?_); rintro e w' ⟨rfl, ⟨nd, rfl⟩⟩))
                go_ret
                exact ⟨by first | rfl | (simp; done) | (simp [*]; done), by repeat (first | exact Drawn0.refl _ | apply Drawn0.step)⟩
              · rw [if_neg c22] at H
                have c22b0 : (t113 == (Go.bits .or .i64 t107 (wrap64 (Go.bits .and .u32 a2 3)))) = false := beq_eq_false_iff_ne.mpr c22
                have c22b1 : (t113 != (Go.bits .or .i64 t107 (wrap64 (Go.bits .and .u32 a2 3)))) = true := bne_iff_ne.mpr c22
                obtain rfl := Option.some.inj H
                go_wp2_with (first | ((with_reducible refine gate_callee (f := 29) rfl ?_); refine goesL_ (some 23) rfl rfl Try.func29 (by kernel_rfl) rfl #[.int .i64 (wrap64 (Int.tmod a0 4)), .bool false, .int .i64 (wrap64 (x1_3)), .int .u32 a2] rfl (by (try simp only [List.map_toArray, List.map_cons, List.map_nil]); first | done | rfl | (simp only [List.length_drop, List.length_take]; rfl)) ?_; (with_reducible refine (impl_Ppc64Variant.calls kj3 (wrap64 (Int.tmod a0 4)) false (wrap64 (x1_3)) a2 t105 t106 _ A6.out).mono ?_); rintro e w' ⟨rfl, ⟨nd, rfl⟩⟩; refine ⟨_, rfl, ?_⟩) | ((with_reducible refine gate_callee (f := 28) rfl ?_); refine goesL_ (some 28) rfl rfl Try.func28 (by kernel_rfl) rfl #[.int .u32 ((x1_3) % 4294967296)] rfl (by (try simp only [List.map_toArray, List.map_cons, List.map_nil]); first | done | rfl | (simp only [List.length_drop, List.length_take]; rfl)) ?_; (with_reducible refine (spec_Half.calls ((x1_3) % 4294967296) t107 _ A7.out).mono ?_); rintro e w' ⟨rfl, ⟨nd, rfl⟩⟩; refine ⟨_, rfl, ?_⟩) | (go_at_call 23; (with_reducible refine (spec_Sext.calls t105 16 t113 _ A21.out).mono ?_); rintro e w' ⟨rfl, ⟨nd, rfl⟩⟩))
                go_ret
                exact ⟨by first | rfl | (simp; done) | (simp [*]; done), by repeat (first | exact Drawn0.refl _ | apply Drawn0.step)⟩
            · rw [if_neg c20] at H
              have c20b0 : (t106 == 0) = false := beq_eq_false_iff_ne.mpr c20
              have c20b1 : (t106 != 0) = true := bne_iff_ne.mpr c20
              obtain rfl := Option.some.inj H
              go_wp2_with (first | ((with_reducible refine gate_callee (f := 29) rfl ?_); refine goesL_ (some 23) rfl rfl Try.func29 (by kernel_rfl) rfl #[.int .i64 (wrap64 (Int.tmod a0 4)), .bool false, .int .i64 (wrap64 (x1_3)), .int .u32 a2] rfl (by (try simp only [List.map_toArray, List.map_cons, List.map_nil]); first | done | rfl | (simp only [List.length_drop, List.length_take]; rfl)) ?_; (with_reducible refine (impl_Ppc64Variant.calls kj3 (wrap64 (Int.tmod a0 4)) false (wrap64 (x1_3)) a2 t105 t106 _ A6.out).mono ?_); rintro e w' ⟨rfl, ⟨nd, rfl⟩⟩; refine ⟨_, rfl, ?_⟩) | ((with_reducible refine gate_callee (f := 28) rfl ?_); refine goesL_ (some 28) rfl rfl Try.func28 (by kernel_rfl) rfl #[.int .u32 ((x1_3) % 4294967296)] rfl (by (try simp only [List.map_toArray, List.map_cons, List.map_nil]); first | done | rfl | (simp only [List.length_drop, List.length_take]; rfl)) ?_; (with_reducible refine (spec_Half.calls ((x1_3) % 4294967296) t107 _ A7.out).mono ?_); rintro e w' ⟨rfl, ⟨nd, rfl⟩⟩; refine ⟨_, rfl, ?_⟩))
              go_ret
              exact ⟨by first | rfl | (simp; done) | (simp [*]; done), by repeat (first | exact Drawn0.refl _ | apply Drawn0.step)⟩
          · rw [if_neg c19] at H
            have c19b0 : ((wrap64 (Int.tmod a0 4)) == 3) = false := beq_eq_false_iff_ne.mpr c19
            have c19b1 : ((wrap64 (Int.tmod a0 4)) != 3) = true := bne_iff_ne.mpr c19
            by_cases c24 : t106 = 0
            · rw [if_pos c24] at H
              have c24b0 : (t106 == 0) = true := beq_iff_eq.mpr c24
              have c24b1 : (t106 != 0) = false := bne_eq_false_iff_eq.mpr c24
              clear c24
              replace H := Option.bind_eq_some_iff.mp H
              obtain ⟨t115, A250, H⟩ := H
              replace H : (if t115 = t107 then ((impl_ComputeLO.f 1).bind fun t116 => (some (t116 == 1))) else (some false)) = some r := H
              have A25 := Aside0.mk A250
              clear A250
              by_cases c26 : t115 = t107
              · rw [if_pos c26] at H
                have c26b0 : (t115 == t107) = true := beq_iff_eq.mpr c26
                have c26b1 : (t115 != t107) = false := bne_eq_false_iff_eq.mpr c26
                clear c26
                replace H := Option.bind_eq_some_iff.mp H
                obtain ⟨t116, A270, H⟩ := H
                replace H : (some (t116 == 1)) = some r := H
                have A27 := Aside0.mk A270
                clear A270
                obtain rfl := Option.some.inj H
                go_wp2_with (first | ((with_reducible refine gate_callee (f := 29) rfl ?_); refine goesL_ (some 23) rfl rfl Try.func29 (by kernel_rfl) rfl #[.int .i64 (wrap64 (Int.tmod a0 4)), .bool false, .int .i64 (wrap64 (x1_3)), .int .u32 a2] rfl (by (try simp only [List.map_toArray, List.map_cons, List.map_nil]); first | done | rfl | (simp only [List.length_drop, List.length_take]; rfl)) ?_; (with_reducible refine (impl_Ppc64Variant.calls kj3 (wrap64 (Int.tmod a0 4)) false (wrap64 (x1_3)) a2 t105 t106 _ A6.out).mono ?_); rintro e w' ⟨rfl, ⟨nd, rfl⟩⟩; refine ⟨_, rfl, ?_⟩) | ((with_reducible refine gate_callee (f := 28) rfl ?_); refine goesL_ (some 28) rfl rfl Try.func28 (by kernel_rfl) rfl #[.int .u32 ((x1_3) % 4294967296)] rfl (by (try simp only [List.map_toArray, List.map_cons, List.map_nil]); first | done | rfl | (simp only [List.length_drop, List.length_take]; rfl)) ?_; (with_reducible refine (spec_Half.calls ((x1_3) % 4294967296) t107 _ A7.out).mono ?_); rintro e w' ⟨rfl, ⟨nd, rfl⟩⟩; refine ⟨_, rfl, ?_⟩) | (go_at_call 23; (with_reducible refine (spec_Sext.calls t105 16 t115 _ A25.out).mono ?_); rintro e w' ⟨rfl, ⟨nd, rfl⟩⟩) | (go_at_call 30; (with_reducible refine (impl_ComputeLO.calls 1 t116 _ A27.out).mono ?_); rintro e w' ⟨rfl, ⟨nd, rfl⟩⟩))
                go_ret
                exact ⟨by first | rfl | (simp; done) | (simp [*]; done), by repeat (first | exact Drawn0.refl _ | apply Drawn0.step)⟩
              · rw [if_neg c26] at H
                have c26b0 : (t115 == t107) = false := beq_eq_false_iff_ne.mpr c26
                have c26b1 : (t115 != t107) = true := bne_iff_ne.mpr c26
                obtain rfl := Option.some.inj H
                go_wp2_with (first | ((with_reducible refine gate_callee (f := 29) rfl ?_); refine goesL_ (some 23) rfl rfl Try.func29 (by kernel_rfl) rfl #[.int .i64 (wrap64 (Int.tmod a0 4)), .bool false, .int .i64 (wrap64 (x1_3)), .int .u32 a2] rfl (by (try simp only [List.map_toArray, List.map_cons, List.map_nil]); first | done | rfl | (simp only [List.length_drop, List.length_take]; rfl)) ?_; (with_reducible refine (impl_Ppc64Variant.calls kj3 (wrap64 (Int.tmod a0 4)) false (wrap64 (x1_3)) a2 t105 t106 _ A6.out).mono ?_); rintro e w' ⟨rfl, ⟨nd, rfl⟩⟩; refine ⟨_, rfl, ?_⟩) | ((with_reducible refine gate_callee (f := 28) rfl ?_); refine goesL_ (some 28) rfl rfl Try.func28 (by kernel_rfl) rfl #[.int .u32 ((x1_3) % 4294967296)] rfl (by (try simp only [List.map_toArray, List.map_cons, List.map_nil]); first | done | rfl | (simp only [List.length_drop, List.length_take]; rfl)) ?_; (with_reducible refine (spec_Half.calls ((x1_3) % 4294967296) t107 _ A7.out).mono ?_); rintro e w' ⟨rfl, ⟨nd, rfl⟩⟩; refine ⟨_, rfl, ?_⟩) | (go_at_call 23; (with_reducible refine (spec_Sext.calls t105 16 t115 _ A25.out).mono ?_); rintro e w' ⟨rfl, ⟨nd, rfl⟩⟩))
                go_ret
                exact ⟨by first | rfl | (simp; done) | (simp [*]; done), by repeat (first | exact Drawn0.refl _ | apply Drawn0.step)⟩
            · rw [if_neg c24] at H
              have c24b0 : (t106 == 0) = false := beq_eq_false_iff_ne.mpr c24
              have c24b1 : (t106 != 0) = true := bne_iff_ne.mpr c24
              obtain rfl := Option.some.inj H
              go_wp2_with (first | ((with_reducible refine gate_callee (f := 29) rfl ?_); refine goesL_ (some 23) rfl rfl Try.func29 (by kernel_rfl) rfl #[.int .i64 (wrap64 (Int.tmod a0 4)), .bool false, .int .i64 (wrap64 (x1_3)), .int .u32 a2] rfl (by (try simp only [List.map_toArray, List.map_cons, List.map_nil]); first | done | rfl | (simp only [List.length_drop, List.length_take]; rfl)) ?_; (with_reducible refine (impl_Ppc64Variant.calls kj3 (wrap64 (Int.tmod a0 4)) false (wrap64 (x1_3)) a2 t105 t106 _ A6.out).mono ?_); rintro e w' ⟨rfl, ⟨nd, rfl⟩⟩; refine ⟨_, rfl, ?_⟩) | ((with_reducible refine gate_callee (f := 28) rfl ?_); refine goesL_ (some 28) rfl rfl Try.func28 (by kernel_rfl) rfl #[.int .u32 ((x1_3) % 4294967296)] rfl (by (try simp only [List.map_toArray, List.map_cons, List.map_nil]); first | done | rfl | (simp only [List.length_drop, List.length_take]; rfl)) ?_; (with_reducible refine (spec_Half.calls ((x1_3) % 4294967296) t107 _ A7.out).mono ?_); rintro e w' ⟨rfl, ⟨nd, rfl⟩⟩; refine ⟨_, rfl, ?_⟩))
              go_ret
              exact ⟨by first | rfl | (simp; done) | (simp [*]; done), by repeat (first | exact Drawn0.refl _ | apply Drawn0.step)⟩

/-- THE ONE PURE STATEMENT of laws_FnPowerVariant: yours. -/
def laws_FnPowerVariant.Pure : Prop := ∀ (a0 : Int) (a1 : Int) (a2 : Int), (Lit.int .u8 a0).wf = true → (Lit.int .i32 a1).wf = true → (Lit.int .u32 a2).wf = true → ∃ k, laws_FnPowerVariant.f k a0 a1 a2 = some true
theorem laws_FnPowerVariant.walk (P : laws_FnPowerVariant.Pure) (a0 : Int) (a1 : Int) (a2 : Int) (w : World) (w0 : (Lit.int .u8 a0).wf = true) (w1 : (Lit.int .i32 a1).wf = true) (w2 : (Lit.int .u32 a2).wf = true) :
    Calls Try.prog 11 #[.int .u8 a0, .int .i32 a1, .int .u32 a2] w fun e w' => e = .returned (.bool true) ∧ Below w.heap.size w w' := by
  obtain ⟨k, h⟩ := P a0 a1 a2 w0 w1 w2
  refine (laws_FnPowerVariant.calls k a0 a1 a2 true w h).mono ?_
  rintro e w' ⟨rfl, hd⟩
  exact ⟨rfl, hd.below⟩

end Go.Proofs.Ytijikeoehbllcaa.PFnPowerVariant
