-- PRINTED BY print.sh 35421559b90ae4d0a3588c463048766b98c2df88dd9212a6774a882060cdf62d: not written by this session
import Derived.Test.YtcfeljdbjhamiaaPFnSignext24x0
namespace Go.Proofs.Ytcfeljdbjhamiaa.PFnSignext24
open Go.RowKit Go.Proofs.YtcfeljdbjhamiaaW.PrintWords Go.Proofs.YtcfeljdbjhamiaaW.PrintLast Go.Proofs.YtcfeljdbjhamiaaW.PrintMore
attribute [local go_sem] max2_int min2_int max_two min_two max_three min_three max_four min_four   -- for this text's walks alone
set_option linter.unusedVariables false
set_option linter.unusedSimpArgs false

/-! ### linkreloc_Signext24: function 12 -/
def linkreloc_Signext24.f (a0 : Int) : Option (Int) := some ((wrap32 ((wrap32 (a0)) * 256)) / 256)
set_option maxHeartbeats 8000000 in
set_option maxRecDepth 100000 in
theorem linkreloc_Signext24.calls (a0 : Int) (r : Int) (w : World) (h : linkreloc_Signext24.f a0 = some r) :
    Calls Try.prog 12 #[.int .i64 a0] w fun e w' => e = .returned (.int .i32 r) ∧ Drawn0 w w' := by
  have H : (some ((wrap32 ((wrap32 (a0)) * 256)) / 256)) = some r := h
  clear h
  obtain rfl := Option.some.inj H
  go_enter Try.func12, Try.ntmps12
  go_wp2
  go_ret
  exact ⟨by first | rfl | (simp; done) | (simp [*]; done), by repeat (first | exact Drawn0.refl _ | apply Drawn0.step)⟩

/-! ### impl_Signext24: function 8 -/
def impl_Signext24.f (a0 : Int) : Option (Int) := (linkreloc_Signext24.f a0).bind fun t101 => (some t101)
set_option maxHeartbeats 8000000 in
set_option maxRecDepth 100000 in
theorem impl_Signext24.calls (a0 : Int) (r : Int) (w : World) (h : impl_Signext24.f a0 = some r) :
    Calls Try.prog 8 #[.int .i64 a0] w fun e w' => e = .returned (.int .i32 r) ∧ Drawn0 w w' := by
  have H : ((linkreloc_Signext24.f a0).bind fun t101 => (some t101)) = some r := h
  clear h
  replace H := Option.bind_eq_some_iff.mp H
  obtain ⟨t101, A20, H⟩ := H
  replace H : (some t101) = some r := H
  have A2 := Aside0.mk A20
  clear A20
  obtain rfl := Option.some.inj H
  go_enter Try.func8, Try.ntmps8
  go_wp2_with (first | ((with_reducible refine gate_callee (f := 12) rfl ?_); refine goesL_ (some 4) rfl rfl Try.func12 (by kernel_rfl) rfl #[.int .i64 a0] rfl (by (try simp only [List.map_toArray, List.map_cons, List.map_nil]); first | done | rfl | (simp only [List.length_drop, List.length_take]; rfl)) ?_; (with_reducible refine (linkreloc_Signext24.calls a0 t101 _ A2.out).mono ?_); rintro e w' ⟨rfl, ⟨nd, rfl⟩⟩; refine ⟨_, rfl, ?_⟩))
  go_ret
  exact ⟨by first | rfl | (simp; done) | (simp [*]; done), by repeat (first | exact Drawn0.refl _ | apply Drawn0.step)⟩

/-! ### spec_Sext: function 9 -/
def spec_Sext.f (a0 : Int) (a1 : Int) : Option (Int) := if 0 ≤ (wrap64 (64 - a1)) then (some (shr .i64 (shl .i64 a0 (wrap64 (64 - a1))) (wrap64 (64 - a1)))) else (none)
set_option maxHeartbeats 8000000 in
set_option maxRecDepth 100000 in
theorem spec_Sext.calls (a0 : Int) (a1 : Int) (r : Int) (w : World) (h : spec_Sext.f a0 a1 = some r) :
    Calls Try.prog 9 #[.int .i64 a0, .int .i64 a1] w fun e w' => e = .returned (.int .i64 r) ∧ Drawn0 w w' := by
  have H : (if 0 ≤ (wrap64 (64 - a1)) then (some (shr .i64 (shl .i64 a0 (wrap64 (64 - a1))) (wrap64 (64 - a1)))) else (none)) = some r := h
  clear h
  obtain ⟨ji3, hji3⟩ : ∃ j_ : Int, (wrap64 (64 - a1)) = j_ := ⟨_, rfl⟩
  replace H : (if 0 ≤ (ji3) then (some (shr .i64 (shl .i64 a0 (ji3)) (ji3))) else (none)) = some r := by first | (rw [hji3] at H; exact H) | (simp only [hji3] at H ⊢; exact H)
  have hji3w : (IntKind.i64.wrap (64 - a1)) = ji3 := (i64_w _).trans hji3
  by_cases c4 : 0 ≤ (ji3)
  · rw [if_pos c4] at H
    have c4b0 := eq_true c4
    have c4b1 : decide (0 ≤ (ji3)) = true := decide_eq_true c4
    clear c4
    obtain ⟨ji5, hji5⟩ : ∃ j_ : Int, (shl .i64 a0 (ji3)) = j_ := ⟨_, rfl⟩
    replace H : (some (shr .i64 (ji5) (ji3))) = some r := by first | (rw [hji5] at H; exact H) | (simp only [hji5] at H ⊢; exact H)
    have hji5_ : (IntKind.i64.wrap (a0 * 2 ^ min (ji3).toNat 64)) = ji5 := hji5
    have hji5z : (ji3) ≤ 64 → (IntKind.i64.wrap (a0 * 2 ^ (ji3).toNat)) = ji5 := shl_small hji5
    have hji5y : (wrap64 (a0 * 2 ^ min (ji3).toNat 64)) = ji5 := (i64_w _).symm.trans hji5_
    have hji5x : (ji3) ≤ 64 → (wrap64 (a0 * 2 ^ (ji3).toNat)) = ji5 := fun h_ => (i64_w _).symm.trans (hji5z h_)
    have c6b0 := eq_true (of_decide_eq_true (by first | (with_reducible assumption) | assumption) : 0 ≤ (ji3))
    obtain ⟨ji7, hji7⟩ : ∃ j_ : Int, (shr .i64 (ji5) (ji3)) = j_ := ⟨_, rfl⟩
    replace H : (some ji7) = some r := by first | (rw [hji7] at H; exact H) | (simp only [hji7] at H ⊢; exact H)
    have hji7_ : ((ji5) / 2 ^ min (ji3).toNat 64) = ji7 := hji7
    have hji7z : (ji3) ≤ 64 → ((ji5) / 2 ^ (ji3).toNat) = ji7 := shr_small hji7
    obtain rfl := Option.some.inj H
    go_enter Try.func9, Try.ntmps9
    go_wp2
    go_ret
    exact ⟨by first | rfl | (simp; done) | (simp only [← hji3, ← hji5, ← hji7] <;> (first | rfl | simp)) | (simp [*]; done), by repeat (first | exact Drawn0.refl _ | apply Drawn0.step)⟩
  · rw [if_neg c4] at H
    exact absurd H (by simp)

/-! ### laws_FnSignext24: function 4 -/
def laws_FnSignext24.f (a0 : Int) : Option (Bool) := (impl_Signext24.f a0).bind fun t102 => ((spec_Sext.f a0 24).bind fun t103 => (some ((wrap64 (t102)) == t103)))
set_option maxHeartbeats 8000000 in
set_option maxRecDepth 100000 in
theorem laws_FnSignext24.calls (a0 : Int) (r : Bool) (w : World) (h : laws_FnSignext24.f a0 = some r) :
    Calls Try.prog 4 #[.int .i64 a0] w fun e w' => e = .returned (.bool r) ∧ Drawn0 w w' := by
  have H : ((impl_Signext24.f a0).bind fun t102 => ((spec_Sext.f a0 24).bind fun t103 => (some ((wrap64 (t102)) == t103)))) = some r := h
  clear h
  replace H := Option.bind_eq_some_iff.mp H
  obtain ⟨t102, A20, H⟩ := H
  replace H : ((spec_Sext.f a0 24).bind fun t103 => (some ((wrap64 (t102)) == t103))) = some r := H
  have A2 := Aside0.mk A20
  clear A20
  replace H := Option.bind_eq_some_iff.mp H
  obtain ⟨t103, A30, H⟩ := H
  replace H : (some ((wrap64 (t102)) == t103)) = some r := H
  have A3 := Aside0.mk A30
  clear A30
  obtain rfl := Option.some.inj H
  go_enter Try.func4, Try.ntmps4
  go_wp2_with (first | ((with_reducible refine gate_callee (f := 8) rfl ?_); refine goesL_ (some 4) rfl rfl Try.func8 (by kernel_rfl) rfl #[.int .i64 a0] rfl (by (try simp only [List.map_toArray, List.map_cons, List.map_nil]); first | done | rfl | (simp only [List.length_drop, List.length_take]; rfl)) ?_; (with_reducible refine (impl_Signext24.calls a0 t102 _ A2.out).mono ?_); rintro e w' ⟨rfl, ⟨nd, rfl⟩⟩; refine ⟨_, rfl, ?_⟩) | ((with_reducible refine gate_callee (f := 9) rfl ?_); refine goesL_ (some 7) rfl rfl Try.func9 (by kernel_rfl) rfl #[.int .i64 a0, .int .i64 24] rfl (by (try simp only [List.map_toArray, List.map_cons, List.map_nil]); first | done | rfl | (simp only [List.length_drop, List.length_take]; rfl)) ?_; (with_reducible refine (spec_Sext.calls a0 24 t103 _ A3.out).mono ?_); rintro e w' ⟨rfl, ⟨nd, rfl⟩⟩; refine ⟨_, rfl, ?_⟩))
  go_ret
  exact ⟨by first | rfl | (simp; done) | (simp [*]; done), by repeat (first | exact Drawn0.refl _ | apply Drawn0.step)⟩

/-- THE ONE PURE STATEMENT of laws_FnSignext24: yours. -/
def laws_FnSignext24.Pure : Prop := ∀ (a0 : Int), (Lit.int .i64 a0).wf = true → laws_FnSignext24.f a0 = some true
theorem laws_FnSignext24.walk (P : laws_FnSignext24.Pure) (a0 : Int) (w : World) (w0 : (Lit.int .i64 a0).wf = true) :
    Calls Try.prog 4 #[.int .i64 a0] w fun e w' => e = .returned (.bool true) ∧ Below w.heap.size w w' := by
  have h := P a0 w0
  refine (laws_FnSignext24.calls a0 true w h).mono ?_
  rintro e w' ⟨rfl, hd⟩
  exact ⟨rfl, hd.below⟩

end Go.Proofs.Ytcfeljdbjhamiaa.PFnSignext24
