-- PRINTED BY print.sh 35421559b90ae4d0a3588c463048766b98c2df88dd9212a6774a882060cdf62d: not written by this session
import Derived.Test.YtaekfekgoleolaaPFnPairx0
namespace Go.Proofs.Ytaekfekgoleolaa.PFnPair
open Go.RowKit Go.Proofs.YtaekfekgoleolaaW.PrintWords Go.Proofs.YtaekfekgoleolaaW.PrintLast Go.Proofs.YtaekfekgoleolaaW.PrintMore
attribute [local go_sem] max2_int min2_int max_two min_two max_three min_three max_four min_four   -- for this text's walks alone
set_option linter.unusedVariables false
set_option linter.unusedSimpArgs false

/-! ### linkreloc_PackInstPair: function 41 -/
def linkreloc_PackInstPair.f (a0 : Bool) (a1 : Int) (a2 : Int) : Option (Int) := if a0 = true then (some (Go.bits .or .i64 (wrap64 ((wrap64 (a1)) * 4294967296)) (wrap64 (a2)))) else (some (Go.bits .or .i64 (wrap64 (a1)) (wrap64 ((wrap64 (a2)) * 4294967296))))
set_option maxHeartbeats 8000000 in
set_option maxRecDepth 100000 in
theorem linkreloc_PackInstPair.calls (a0 : Bool) (a1 : Int) (a2 : Int) (r : Int) (w : World) (h : linkreloc_PackInstPair.f a0 a1 a2 = some r) :
    Calls Try.prog 41 #[.bool a0, .int .u32 a1, .int .u32 a2] w fun e w' => e = .returned (.int .i64 r) ∧ Drawn0 w w' := by
  have H : (if a0 = true then (some (Go.bits .or .i64 (wrap64 ((wrap64 (a1)) * 4294967296)) (wrap64 (a2)))) else (some (Go.bits .or .i64 (wrap64 (a1)) (wrap64 ((wrap64 (a2)) * 4294967296))))) = some r := h
  clear h
  by_cases c4 : a0 = true
  · subst c4
    have H1 : (some (Go.bits .or .i64 (wrap64 ((wrap64 (a1)) * 4294967296)) (wrap64 (a2)))) = some r := by rw [if_pos rfl] at H; exact H
    clear H
    have H := H1
    clear H1
    obtain rfl := Option.some.inj H
    go_enter Try.func41, Try.ntmps41
    go_wp2
    go_ret
    exact ⟨by first | rfl | (simp; done) | (simp [*]; done), by repeat (first | exact Drawn0.refl _ | apply Drawn0.step)⟩
  · replace c4 := Bool.eq_false_iff.mpr c4
    subst c4
    have H1 : (some (Go.bits .or .i64 (wrap64 (a1)) (wrap64 ((wrap64 (a2)) * 4294967296)))) = some r := by rw [if_neg (show ¬ (false = true) by decide)] at H; exact H
    clear H
    have H := H1
    clear H1
    obtain rfl := Option.some.inj H
    go_enter Try.func41, Try.ntmps41
    go_wp2
    go_ret
    exact ⟨by first | rfl | (simp; done) | (simp [*]; done), by repeat (first | exact Drawn0.refl _ | apply Drawn0.step)⟩

/-! ### impl_PackInstPair: function 17 -/
def impl_PackInstPair.f (a0 : Bool) (a1 : Int) (a2 : Int) : Option (Int) := (linkreloc_PackInstPair.f a0 a1 a2).bind fun t101 => (some t101)
set_option maxHeartbeats 8000000 in
set_option maxRecDepth 100000 in
theorem impl_PackInstPair.calls (a0 : Bool) (a1 : Int) (a2 : Int) (r : Int) (w : World) (h : impl_PackInstPair.f a0 a1 a2 = some r) :
    Calls Try.prog 17 #[.bool a0, .int .u32 a1, .int .u32 a2] w fun e w' => e = .returned (.int .i64 r) ∧ Drawn0 w w' := by
  have H : ((linkreloc_PackInstPair.f a0 a1 a2).bind fun t101 => (some t101)) = some r := h
  clear h
  replace H := Option.bind_eq_some_iff.mp H
  obtain ⟨t101, A40, H⟩ := H
  replace H : (some t101) = some r := H
  have A4 := Aside0.mk A40
  clear A40
  obtain rfl := Option.some.inj H
  go_enter Try.func17, Try.ntmps17
  go_wp2_with (first | ((with_reducible refine gate_callee (f := 41) rfl ?_); refine goesL_ (some 10) rfl rfl Try.func41 (by kernel_rfl) rfl #[.bool a0, .int .u32 a1, .int .u32 a2] rfl (by (try simp only [List.map_toArray, List.map_cons, List.map_nil]); first | done | rfl | (simp only [List.length_drop, List.length_take]; rfl)) ?_; (with_reducible refine (linkreloc_PackInstPair.calls a0 a1 a2 t101 _ A4.out).mono ?_); rintro e w' ⟨rfl, ⟨nd, rfl⟩⟩; refine ⟨_, rfl, ?_⟩))
  go_ret
  exact ⟨by first | rfl | (simp; done) | (simp [*]; done), by repeat (first | exact Drawn0.refl _ | apply Drawn0.step)⟩

/-! ### linkreloc_UnpackInstPair: function 42 -/
def linkreloc_UnpackInstPair.f (a0 : Bool) (a1 : Int) : Option (Int × Int) := if a0 = true then (some ((a1 / 4294967296) % 4294967296, (a1) % 4294967296)) else (some ((a1) % 4294967296, (a1 / 4294967296) % 4294967296))
set_option maxHeartbeats 8000000 in
set_option maxRecDepth 100000 in
theorem linkreloc_UnpackInstPair.calls (a0 : Bool) (a1 : Int) (r1 : Int) (r2 : Int) (w : World) (h : linkreloc_UnpackInstPair.f a0 a1 = some (r1, r2)) :
    Calls Try.prog 42 #[.bool a0, .int .i64 a1] w fun e w' => e = .returned (.tuple #[.int .u32 r1, .int .u32 r2]) ∧ Drawn0 w w' := by
  have H : (if a0 = true then (some ((a1 / 4294967296) % 4294967296, (a1) % 4294967296)) else (some ((a1) % 4294967296, (a1 / 4294967296) % 4294967296))) = some (r1, r2) := h
  clear h
  by_cases c3 : a0 = true
  · subst c3
    have H1 : (some ((a1 / 4294967296) % 4294967296, (a1) % 4294967296)) = some (r1, r2) := by rw [if_pos rfl] at H; exact H
    clear H
    have H := H1
    clear H1
    simp only [Option.some.injEq, Prod.mk.injEq] at H
    obtain ⟨rfl, rfl⟩ := H
    go_enter Try.func42, Try.ntmps42
    go_wp2
    go_ret2
    exact ⟨by first | rfl | (simp; done) | (simp [*]; done), by repeat (first | exact Drawn0.refl _ | apply Drawn0.step)⟩
  · replace c3 := Bool.eq_false_iff.mpr c3
    subst c3
    have H1 : (some ((a1) % 4294967296, (a1 / 4294967296) % 4294967296)) = some (r1, r2) := by rw [if_neg (show ¬ (false = true) by decide)] at H; exact H
    clear H
    have H := H1
    clear H1
    simp only [Option.some.injEq, Prod.mk.injEq] at H
    obtain ⟨rfl, rfl⟩ := H
    go_enter Try.func42, Try.ntmps42
    go_wp2
    go_ret2
    exact ⟨by first | rfl | (simp; done) | (simp [*]; done), by repeat (first | exact Drawn0.refl _ | apply Drawn0.step)⟩

/-! ### impl_UnpackInstPair: function 18 -/
def impl_UnpackInstPair.f (a0 : Bool) (a1 : Int) : Option (Int × Int) := (linkreloc_UnpackInstPair.f a0 a1).bind fun bt102 => (some (bt102.1, bt102.2))
set_option maxHeartbeats 8000000 in
set_option maxRecDepth 100000 in
theorem impl_UnpackInstPair.calls (a0 : Bool) (a1 : Int) (r1 : Int) (r2 : Int) (w : World) (h : impl_UnpackInstPair.f a0 a1 = some (r1, r2)) :
    Calls Try.prog 18 #[.bool a0, .int .i64 a1] w fun e w' => e = .returned (.tuple #[.int .u32 r1, .int .u32 r2]) ∧ Drawn0 w w' := by
  have H : ((linkreloc_UnpackInstPair.f a0 a1).bind fun bt102 => (some (bt102.1, bt102.2))) = some (r1, r2) := h
  clear h
  replace H := Option.bind_eq_some_iff.mp H
  obtain ⟨⟨t102, t103⟩, A30, H⟩ := H
  replace H : (some (t102, t103)) = some (r1, r2) := H
  have A3 := Aside0.mk A30
  clear A30
  simp only [Option.some.injEq, Prod.mk.injEq] at H
  obtain ⟨rfl, rfl⟩ := H
  go_enter Try.func18, Try.ntmps18
  go_wp2_with (first | ((with_reducible refine gate_callee (f := 42) rfl ?_); refine goesL_ (some 8) rfl rfl Try.func42 (by kernel_rfl) rfl #[.bool a0, .int .i64 a1] rfl (by (try simp only [List.map_toArray, List.map_cons, List.map_nil]); first | done | rfl | (simp only [List.length_drop, List.length_take]; rfl)) ?_; (with_reducible refine (linkreloc_UnpackInstPair.calls a0 a1 t102 t103 _ A3.out).mono ?_); rintro e w' ⟨rfl, ⟨nd, rfl⟩⟩; refine ⟨_, rfl, ?_⟩))
  go_ret2
  exact ⟨by first | rfl | (simp; done) | (simp [*]; done), by repeat (first | exact Drawn0.refl _ | apply Drawn0.step)⟩

/-! ### laws_FnPair: function 4 -/
def laws_FnPair.f (a0 : Bool) (a1 : Int) (a2 : Int) : Option (Bool) := (impl_PackInstPair.f a0 a1 a2).bind fun t104 => ((impl_UnpackInstPair.f a0 t104).bind fun bt105 => (if a0 = true then (if bt105.1 = a1 then (if bt105.2 = a2 then (some ((IntKind.u64.wrap (t104)) == (Go.bits .or .u64 (IntKind.u64.wrap ((IntKind.u64.wrap (a1)) * 4294967296)) (IntKind.u64.wrap (a2))))) else (some false)) else (some false)) else (if bt105.1 = a1 then (if bt105.2 = a2 then (some ((IntKind.u64.wrap (t104)) == (Go.bits .or .u64 (IntKind.u64.wrap ((IntKind.u64.wrap (a2)) * 4294967296)) (IntKind.u64.wrap (a1))))) else (some false)) else (some false))))
set_option maxHeartbeats 8000000 in
set_option maxRecDepth 100000 in
theorem laws_FnPair.calls (a0 : Bool) (a1 : Int) (a2 : Int) (r : Bool) (w : World) (h : laws_FnPair.f a0 a1 a2 = some r) :
    Calls Try.prog 4 #[.bool a0, .int .u32 a1, .int .u32 a2] w fun e w' => e = .returned (.bool r) ∧ Drawn0 w w' := by
  have H : ((impl_PackInstPair.f a0 a1 a2).bind fun t104 => ((impl_UnpackInstPair.f a0 t104).bind fun bt105 => (if a0 = true then (if bt105.1 = a1 then (if bt105.2 = a2 then (some ((IntKind.u64.wrap (t104)) == (Go.bits .or .u64 (IntKind.u64.wrap ((IntKind.u64.wrap (a1)) * 4294967296)) (IntKind.u64.wrap (a2))))) else (some false)) else (some false)) else (if bt105.1 = a1 then (if bt105.2 = a2 then (some ((IntKind.u64.wrap (t104)) == (Go.bits .or .u64 (IntKind.u64.wrap ((IntKind.u64.wrap (a2)) * 4294967296)) (IntKind.u64.wrap (a1))))) else (some false)) else (some false))))) = some r := h
  clear h
  replace H := Option.bind_eq_some_iff.mp H
  obtain ⟨t104, A40, H⟩ := H
  replace H : ((impl_UnpackInstPair.f a0 t104).bind fun bt105 => (if a0 = true then (if bt105.1 = a1 then (if bt105.2 = a2 then (some ((IntKind.u64.wrap (t104)) == (Go.bits .or .u64 (IntKind.u64.wrap ((IntKind.u64.wrap (a1)) * 4294967296)) (IntKind.u64.wrap (a2))))) else (some false)) else (some false)) else (if bt105.1 = a1 then (if bt105.2 = a2 then (some ((IntKind.u64.wrap (t104)) == (Go.bits .or .u64 (IntKind.u64.wrap ((IntKind.u64.wrap (a2)) * 4294967296)) (IntKind.u64.wrap (a1))))) else (some false)) else (some false)))) = some r := H
  have A4 := Aside0.mk A40
  clear A40
  replace H := Option.bind_eq_some_iff.mp H
  obtain ⟨⟨t105, t106⟩, A50, H⟩ := H
  replace H : (if a0 = true then (if t105 = a1 then (if t106 = a2 then (some ((IntKind.u64.wrap (t104)) == (Go.bits .or .u64 (IntKind.u64.wrap ((IntKind.u64.wrap (a1)) * 4294967296)) (IntKind.u64.wrap (a2))))) else (some false)) else (some false)) else (if t105 = a1 then (if t106 = a2 then (some ((IntKind.u64.wrap (t104)) == (Go.bits .or .u64 (IntKind.u64.wrap ((IntKind.u64.wrap (a2)) * 4294967296)) (IntKind.u64.wrap (a1))))) else (some false)) else (some false))) = some r := H
  have A5 := Aside0.mk A50
  clear A50
  by_cases c6 : a0 = true
  · subst c6
    have H1 : (if t105 = a1 then (if t106 = a2 then (some ((IntKind.u64.wrap (t104)) == (Go.bits .or .u64 (IntKind.u64.wrap ((IntKind.u64.wrap (a1)) * 4294967296)) (IntKind.u64.wrap (a2))))) else (some false)) else (some false)) = some r := by rw [if_pos rfl] at H; exact H
    clear H
    have H := H1
    clear H1
    by_cases c7 : t105 = a1
    · rw [if_pos c7] at H
      have c7b0 : (t105 == a1) = true := beq_iff_eq.mpr c7
      have c7b1 : (t105 != a1) = false := bne_eq_false_iff_eq.mpr c7
      clear c7
      by_cases c8 : t106 = a2
      · rw [if_pos c8] at H
        have c8b0 : (t106 == a2) = true := beq_iff_eq.mpr c8
        have c8b1 : (t106 != a2) = false := bne_eq_false_iff_eq.mpr c8
        clear c8
        obtain rfl := Option.some.inj H
        go_enter Try.func4, Try.ntmps4
        go_wp2_with (first | ((with_reducible refine gate_callee (f := 17) rfl ?_); refine goesL_ (some 14) rfl rfl Try.func17 (by kernel_rfl) rfl #[.bool true, .int .u32 a1, .int .u32 a2] rfl (by (try simp only [List.map_toArray, List.map_cons, List.map_nil]); first | done | rfl | (simp only [List.length_drop, List.length_take]; rfl)) ?_; (with_reducible refine (impl_PackInstPair.calls true a1 a2 t104 _ A4.out).mono ?_); rintro e w' ⟨rfl, ⟨nd, rfl⟩⟩; refine ⟨_, rfl, ?_⟩) | ((with_reducible refine gate_callee (f := 18) rfl ?_); refine goesL_ (some 18) rfl rfl Try.func18 (by kernel_rfl) rfl #[.bool true, .int .i64 t104] rfl (by (try simp only [List.map_toArray, List.map_cons, List.map_nil]); first | done | rfl | (simp only [List.length_drop, List.length_take]; rfl)) ?_; (with_reducible refine (impl_UnpackInstPair.calls true t104 t105 t106 _ A5.out).mono ?_); rintro e w' ⟨rfl, ⟨nd, rfl⟩⟩; refine ⟨_, rfl, ?_⟩))
        go_ret
        exact ⟨by first | rfl | (simp; done) | (simp [*]; done), by repeat (first | exact Drawn0.refl _ | apply Drawn0.step)⟩
      · rw [if_neg c8] at H
        have c8b0 : (t106 == a2) = false := beq_eq_false_iff_ne.mpr c8
        have c8b1 : (t106 != a2) = true := bne_iff_ne.mpr c8
        obtain rfl := Option.some.inj H
        go_enter Try.func4, Try.ntmps4
        go_wp2_with (first | ((with_reducible refine gate_callee (f := 17) rfl ?_); refine goesL_ (some 14) rfl rfl Try.func17 (by kernel_rfl) rfl #[.bool true, .int .u32 a1, .int .u32 a2] rfl (by (try simp only [List.map_toArray, List.map_cons, List.map_nil]); first | done | rfl | (simp only [List.length_drop, List.length_take]; rfl)) ?_; (with_reducible refine (impl_PackInstPair.calls true a1 a2 t104 _ A4.out).mono ?_); rintro e w' ⟨rfl, ⟨nd, rfl⟩⟩; refine ⟨_, rfl, ?_⟩) | ((with_reducible refine gate_callee (f := 18) rfl ?_); refine goesL_ (some 18) rfl rfl Try.func18 (by kernel_rfl) rfl #[.bool true, .int .i64 t104] rfl (by (try simp only [List.map_toArray, List.map_cons, List.map_nil]); first | done | rfl | (simp only [List.length_drop, List.length_take]; rfl)) ?_; (with_reducible refine (impl_UnpackInstPair.calls true t104 t105 t106 _ A5.out).mono ?_); rintro e w' ⟨rfl, ⟨nd, rfl⟩⟩; refine ⟨_, rfl, ?_⟩))
        go_ret
        exact ⟨by first | rfl | (simp; done) | (simp [*]; done), by repeat (first | exact Drawn0.refl _ | apply Drawn0.step)⟩
    · rw [if_neg c7] at H
      have c7b0 : (t105 == a1) = false := beq_eq_false_iff_ne.mpr c7
      have c7b1 : (t105 != a1) = true := bne_iff_ne.mpr c7
      obtain rfl := Option.some.inj H
      go_enter Try.func4, Try.ntmps4
      go_wp2_with (first | ((with_reducible refine gate_callee (f := 17) rfl ?_); refine goesL_ (some 14) rfl rfl Try.func17 (by kernel_rfl) rfl #[.bool true, .int .u32 a1, .int .u32 a2] rfl (by (try simp only [List.map_toArray, List.map_cons, List.map_nil]); first | done | rfl | (simp only [List.length_drop, List.length_take]; rfl)) ?_; (with_reducible refine (impl_PackInstPair.calls true a1 a2 t104 _ A4.out).mono ?_); rintro e w' ⟨rfl, ⟨nd, rfl⟩⟩; refine ⟨_, rfl, ?_⟩) | ((with_reducible refine gate_callee (f := 18) rfl ?_); refine goesL_ (some 18) rfl rfl Try.func18 (by kernel_rfl) rfl #[.bool true, .int .i64 t104] rfl (by (try simp only [List.map_toArray, List.map_cons, List.map_nil]); first | done | rfl | (simp only [List.length_drop, List.length_take]; rfl)) ?_; (with_reducible refine (impl_UnpackInstPair.calls true t104 t105 t106 _ A5.out).mono ?_); rintro e w' ⟨rfl, ⟨nd, rfl⟩⟩; refine ⟨_, rfl, ?_⟩))
      go_ret
      exact ⟨by first | rfl | (simp; done) | (simp [*]; done), by repeat (first | exact Drawn0.refl _ | apply Drawn0.step)⟩
  · replace c6 := Bool.eq_false_iff.mpr c6
    subst c6
    have H1 : (if t105 = a1 then (if t106 = a2 then (some ((IntKind.u64.wrap (t104)) == (Go.bits .or .u64 (IntKind.u64.wrap ((IntKind.u64.wrap (a2)) * 4294967296)) (IntKind.u64.wrap (a1))))) else (some false)) else (some false)) = some r := by rw [if_neg (show ¬ (false = true) by decide)] at H; exact H
    clear H
    have H := H1
    clear H1
    by_cases c9 : t105 = a1
    · rw [if_pos c9] at H
      have c9b0 : (t105 == a1) = true := beq_iff_eq.mpr c9
      have c9b1 : (t105 != a1) = false := bne_eq_false_iff_eq.mpr c9
      clear c9
      by_cases c10 : t106 = a2
      · rw [if_pos c10] at H
        have c10b0 : (t106 == a2) = true := beq_iff_eq.mpr c10
        have c10b1 : (t106 != a2) = false := bne_eq_false_iff_eq.mpr c10
        clear c10
        obtain rfl := Option.some.inj H
        go_enter Try.func4, Try.ntmps4
        go_wp2_with (first | ((with_reducible refine gate_callee (f := 17) rfl ?_); refine goesL_ (some 14) rfl rfl Try.func17 (by kernel_rfl) rfl #[.bool false, .int .u32 a1, .int .u32 a2] rfl (by (try simp only [List.map_toArray, List.map_cons, List.map_nil]); first | done | rfl | (simp only [List.length_drop, List.length_take]; rfl)) ?_; (with_reducible refine (impl_PackInstPair.calls false a1 a2 t104 _ A4.out).mono ?_); rintro e w' ⟨rfl, ⟨nd, rfl⟩⟩; refine ⟨_, rfl, ?_⟩) | ((with_reducible refine gate_callee (f := 18) rfl ?_); refine goesL_ (some 18) rfl rfl Try.func18 (by kernel_rfl) rfl #[.bool false, .int .i64 t104] rfl (by (try simp only [List.map_toArray, List.map_cons, List.map_nil]); first | done | rfl | (simp only [List.length_drop, List.length_take]; rfl)) ?_; (with_reducible refine (impl_UnpackInstPair.calls false t104 t105 t106 _ A5.out).mono ?_); rintro e w' ⟨rfl, ⟨nd, rfl⟩⟩; refine ⟨_, rfl, ?_⟩))
        go_ret
        exact ⟨by first | rfl | (simp; done) | (simp [*]; done), by repeat (first | exact Drawn0.refl _ | apply Drawn0.step)⟩
      · rw [if_neg c10] at H
        have c10b0 : (t106 == a2) = false := beq_eq_false_iff_ne.mpr c10
        have c10b1 : (t106 != a2) = true := bne_iff_ne.mpr c10
        obtain rfl := Option.some.inj H
        go_enter Try.func4, Try.ntmps4
        go_wp2_with (first | ((with_reducible refine gate_callee (f := 17) rfl ?_); refine goesL_ (some 14) rfl rfl Try.func17 (by kernel_rfl) rfl #[.bool false, .int .u32 a1, .int .u32 a2] rfl (by (try simp only [List.map_toArray, List.map_cons, List.map_nil]); first | done | rfl | (simp only [List.length_drop, List.length_take]; rfl)) ?_; (with_reducible refine (impl_PackInstPair.calls false a1 a2 t104 _ A4.out).mono ?_); rintro e w' ⟨rfl, ⟨nd, rfl⟩⟩; refine ⟨_, rfl, ?_⟩) | ((with_reducible refine gate_callee (f := 18) rfl ?_); refine goesL_ (some 18) rfl rfl Try.func18 (by kernel_rfl) rfl #[.bool false, .int .i64 t104] rfl (by (try simp only [List.map_toArray, List.map_cons, List.map_nil]); first | done | rfl | (simp only [List.length_drop, List.length_take]; rfl)) ?_; (with_reducible refine (impl_UnpackInstPair.calls false t104 t105 t106 _ A5.out).mono ?_); rintro e w' ⟨rfl, ⟨nd, rfl⟩⟩; refine ⟨_, rfl, ?_⟩))
        go_ret
        exact ⟨by first | rfl | (simp; done) | (simp [*]; done), by repeat (first | exact Drawn0.refl _ | apply Drawn0.step)⟩
    · rw [if_neg c9] at H
      have c9b0 : (t105 == a1) = false := beq_eq_false_iff_ne.mpr c9
      have c9b1 : (t105 != a1) = true := bne_iff_ne.mpr c9
      obtain rfl := Option.some.inj H
      go_enter Try.func4, Try.ntmps4
      go_wp2_with (first | ((with_reducible refine gate_callee (f := 17) rfl ?_); refine goesL_ (some 14) rfl rfl Try.func17 (by kernel_rfl) rfl #[.bool false, .int .u32 a1, .int .u32 a2] rfl (by (try simp only [List.map_toArray, List.map_cons, List.map_nil]); first | done | rfl | (simp only [List.length_drop, List.length_take]; rfl)) ?_; (with_reducible refine (impl_PackInstPair.calls false a1 a2 t104 _ A4.out).mono ?_); rintro e w' ⟨rfl, ⟨nd, rfl⟩⟩; refine ⟨_, rfl, ?_⟩) | ((with_reducible refine gate_callee (f := 18) rfl ?_); refine goesL_ (some 18) rfl rfl Try.func18 (by kernel_rfl) rfl #[.bool false, .int .i64 t104] rfl (by (try simp only [List.map_toArray, List.map_cons, List.map_nil]); first | done | rfl | (simp only [List.length_drop, List.length_take]; rfl)) ?_; (with_reducible refine (impl_UnpackInstPair.calls false t104 t105 t106 _ A5.out).mono ?_); rintro e w' ⟨rfl, ⟨nd, rfl⟩⟩; refine ⟨_, rfl, ?_⟩))
      go_ret
      exact ⟨by first | rfl | (simp; done) | (simp [*]; done), by repeat (first | exact Drawn0.refl _ | apply Drawn0.step)⟩

/-- THE ONE PURE STATEMENT of laws_FnPair: yours. -/
def laws_FnPair.Pure : Prop := ∀ (a0 : Bool) (a1 : Int) (a2 : Int), (Lit.int .u32 a1).wf = true → (Lit.int .u32 a2).wf = true → laws_FnPair.f a0 a1 a2 = some true
theorem laws_FnPair.walk (P : laws_FnPair.Pure) (a0 : Bool) (a1 : Int) (a2 : Int) (w : World) (w1 : (Lit.int .u32 a1).wf = true) (w2 : (Lit.int .u32 a2).wf = true) :
    Calls Try.prog 4 #[.bool a0, .int .u32 a1, .int .u32 a2] w fun e w' => e = .returned (.bool true) ∧ Below w.heap.size w w' := by
  have h := P a0 a1 a2 w1 w2
  refine (laws_FnPair.calls a0 a1 a2 true w h).mono ?_
  rintro e w' ⟨rfl, hd⟩
  exact ⟨rfl, hd.below⟩

end Go.Proofs.Ytaekfekgoleolaa.PFnPair
