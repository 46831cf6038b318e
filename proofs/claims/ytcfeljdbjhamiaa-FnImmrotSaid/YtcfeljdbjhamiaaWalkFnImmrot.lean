/- The law FnImmrot returns true: a number of 32 bits is told as eight bits that are turned to the right by twice a number of four bits, with bit 25 set, and 0 is told where there are none such: for every number of 32 bits; no condition. -/
import Derived.Test.YtcfeljdbjhamiaaImmOr
namespace Go.Proofs.Ytcfeljdbjhamiaa.Wk
set_option linter.unusedVariables false
open Go.RowKit Go.Proofs.Ytcfeljdbjhamiaa.Aid
set_option maxHeartbeats 6400000 in
theorem law_any (v r : Int) (n : Nat) (w : World) (h0 : 0 ≤ v) (h1 : v < 4294967296) (hn : n ≤ 16) (hno : ∀ j, j < n → 256 ≤ rot v j) (hr : if n < 16 then rot v n < 256 ∧ r = 33554432 + n * 256 + rot v n else r = 0)
    (c : ∀ W : World, Calls Try.prog 10 #[.int .u32 v] W fun e w' => e = .returned (.int .u32 r) ∧ W = w')
    (c1 : ∀ W : World, Calls Try.prog 10 #[.int .u32 1] W fun e w' => e = .returned (.int .u32 33554433) ∧ W = w') :
    Calls Try.prog 5 #[.int .u32 v] w fun e w' => e = .returned (.bool true) ∧ Ext w w' := by
  have HN := Lib.hid hno
  have HY : Hid (n < 16 → rot v n < 256) := Lib.hid (fun h => by rw [if_pos h] at hr; exact hr.1)
  have HR := Lib.hid hr
  clear hno hr
  go_enter Try.func5, Try.ntmps5
  go_wp2_with (go_at_call 10; ((with_reducible refine (c _).mono ?_); rintro e w' ⟨rfl, rfl⟩))
  clear c
  go_loopw [4, 9] (fun t i wr => ∃ (k : Int) (b : Bool), 0 ≤ k ∧ k ≤ 16 ∧ b = decide ((n : Int) < k) ∧ i = .int .i64 k ∧ t = .bool b ∧ Ext w wr) (fun _ i _ => 16 - (intOf i).toNat)
  case atStart => exact ⟨0, false, by decide, by decide, (decide_eq_false (by omega)).symm, rfl, rfl, Ext.refl _⟩
  case round =>
    obtain ⟨k, b, hk0, hk, hb, rfl, rfl, hx⟩ := hrel
    cases b with
    | true =>
      have hn2 : (n : Int) < k := of_decide_eq_true hb.symm
      by_cases h16 : k < 16
      · have hd2 : Hid (true = decide ((n : Int) < k + 1)) := Lib.hid (decide_eq_true (by omega)).symm
        have hk2 : Hid (0 ≤ k + 1 ∧ k + 1 ≤ 16) := Lib.hid (by omega)
        clear HN HY HR hb hn2 hn
        go_wp2
        go_quiet (fail)
        go_wp2
        go_roundw
        case rel => exact ⟨k + 1, true, hk2.out.1, hk2.out.2, hd2.out, by go_num, rfl, hx.drewN _⟩
        case measure => simp [intOf]; omega
      · obtain rfl : k = 16 := by omega
        clear hb hk0 hk h16 HN
        have h := HR.out
        rw [if_pos (by omega)] at h
        obtain ⟨h256, hr⟩ := h
        clear HR HY
        by_cases hj : n = 0
        · subst hj
          clear hn2 hn
          have y0 := (rot_in v h0 h1 0).1
          have X1 := ea0 _ y0 h256
          have X2 := eb0 _ y0 h256
          have X3 := ec0 _ y0 h256
          have X4 : bits .or .u32 (rot v 0) 0 = v := back0 v h0 h1
          have X5 : (33554432 + ((0 : Nat) : Int) * 256 + rot v 0) = 33554432 + rot v 0 := by omega
          rw [X5] at hr
          subst hr
          clear X5
          go_wp2
          go_ret
          exact ⟨rfl, by repeat (first | assumption | apply Ext.drewN | exact Ext.trans ‹_› ‹_›)⟩
        by_cases hj : n = 1
        · subst hj
          clear hn2 hn
          have y0 := (rot_in v h0 h1 1).1
          have X1 := ea1 _ y0 h256
          have X2 := eb1 _ y0 h256
          have X3 := ec1 _ y0 h256
          have X4 : bits .or .u32 (rot v 1 / 4) (rot v 1 * 1073741824 % 4294967296) = v := back1 v h0 h1 h256
          have X5 : (33554432 + ((1 : Nat) : Int) * 256 + rot v 1) = 33554688 + rot v 1 := by omega
          rw [X5] at hr
          subst hr
          clear X5
          go_wp2
          go_ret
          exact ⟨rfl, by repeat (first | assumption | apply Ext.drewN | exact Ext.trans ‹_› ‹_›)⟩
        by_cases hj : n = 2
        · subst hj
          clear hn2 hn
          have y0 := (rot_in v h0 h1 2).1
          have X1 := ea2 _ y0 h256
          have X2 := eb2 _ y0 h256
          have X3 := ec2 _ y0 h256
          have X4 : bits .or .u32 (rot v 2 / 16) (rot v 2 * 268435456 % 4294967296) = v := back2 v h0 h1 h256
          have X5 : (33554432 + ((2 : Nat) : Int) * 256 + rot v 2) = 33554944 + rot v 2 := by omega
          rw [X5] at hr
          subst hr
          clear X5
          go_wp2
          go_ret
          exact ⟨rfl, by repeat (first | assumption | apply Ext.drewN | exact Ext.trans ‹_› ‹_›)⟩
        by_cases hj : n = 3
        · subst hj
          clear hn2 hn
          have y0 := (rot_in v h0 h1 3).1
          have X1 := ea3 _ y0 h256
          have X2 := eb3 _ y0 h256
          have X3 := ec3 _ y0 h256
          have X4 : bits .or .u32 (rot v 3 / 64) (rot v 3 * 67108864 % 4294967296) = v := back3 v h0 h1 h256
          have X5 : (33554432 + ((3 : Nat) : Int) * 256 + rot v 3) = 33555200 + rot v 3 := by omega
          rw [X5] at hr
          subst hr
          clear X5
          go_wp2
          go_ret
          exact ⟨rfl, by repeat (first | assumption | apply Ext.drewN | exact Ext.trans ‹_› ‹_›)⟩
        by_cases hj : n = 4
        · subst hj
          clear hn2 hn
          have y0 := (rot_in v h0 h1 4).1
          have X1 := ea4 _ y0 h256
          have X2 := eb4 _ y0 h256
          have X3 := ec4 _ y0 h256
          have X4 : bits .or .u32 (rot v 4 / 256) (rot v 4 * 16777216) = v := by have h := back4 v h0 h1 h256; rwa [show rot v 4 * 16777216 % 4294967296 = rot v 4 * 16777216 by omega] at h
          have X5 : (33554432 + ((4 : Nat) : Int) * 256 + rot v 4) = 33555456 + rot v 4 := by omega
          rw [X5] at hr
          subst hr
          clear X5
          go_wp2
          go_ret
          exact ⟨rfl, by repeat (first | assumption | apply Ext.drewN | exact Ext.trans ‹_› ‹_›)⟩
        by_cases hj : n = 5
        · subst hj
          clear hn2 hn
          have y0 := (rot_in v h0 h1 5).1
          have X1 := ea5 _ y0 h256
          have X2 := eb5 _ y0 h256
          have X3 := ec5 _ y0 h256
          have X4 : bits .or .u32 (rot v 5 / 1024) (rot v 5 * 4194304) = v := by have h := back5 v h0 h1 h256; rwa [show rot v 5 * 4194304 % 4294967296 = rot v 5 * 4194304 by omega] at h
          have X5 : (33554432 + ((5 : Nat) : Int) * 256 + rot v 5) = 33555712 + rot v 5 := by omega
          rw [X5] at hr
          subst hr
          clear X5
          go_wp2
          go_ret
          exact ⟨rfl, by repeat (first | assumption | apply Ext.drewN | exact Ext.trans ‹_› ‹_›)⟩
        by_cases hj : n = 6
        · subst hj
          clear hn2 hn
          have y0 := (rot_in v h0 h1 6).1
          have X1 := ea6 _ y0 h256
          have X2 := eb6 _ y0 h256
          have X3 := ec6 _ y0 h256
          have X4 : bits .or .u32 (rot v 6 / 4096) (rot v 6 * 1048576) = v := by have h := back6 v h0 h1 h256; rwa [show rot v 6 * 1048576 % 4294967296 = rot v 6 * 1048576 by omega] at h
          have X5 : (33554432 + ((6 : Nat) : Int) * 256 + rot v 6) = 33555968 + rot v 6 := by omega
          rw [X5] at hr
          subst hr
          clear X5
          go_wp2
          go_ret
          exact ⟨rfl, by repeat (first | assumption | apply Ext.drewN | exact Ext.trans ‹_› ‹_›)⟩
        by_cases hj : n = 7
        · subst hj
          clear hn2 hn
          have y0 := (rot_in v h0 h1 7).1
          have X1 := ea7 _ y0 h256
          have X2 := eb7 _ y0 h256
          have X3 := ec7 _ y0 h256
          have X4 : bits .or .u32 (rot v 7 / 16384) (rot v 7 * 262144) = v := by have h := back7 v h0 h1 h256; rwa [show rot v 7 * 262144 % 4294967296 = rot v 7 * 262144 by omega] at h
          have X5 : (33554432 + ((7 : Nat) : Int) * 256 + rot v 7) = 33556224 + rot v 7 := by omega
          rw [X5] at hr
          subst hr
          clear X5
          go_wp2
          go_ret
          exact ⟨rfl, by repeat (first | assumption | apply Ext.drewN | exact Ext.trans ‹_› ‹_›)⟩
        by_cases hj : n = 8
        · subst hj
          clear hn2 hn
          have y0 := (rot_in v h0 h1 8).1
          have X1 := ea8 _ y0 h256
          have X2 := eb8 _ y0 h256
          have X3 := ec8 _ y0 h256
          have X4 : bits .or .u32 (rot v 8 / 65536) (rot v 8 * 65536) = v := by have h := back8 v h0 h1 h256; rwa [show rot v 8 * 65536 % 4294967296 = rot v 8 * 65536 by omega] at h
          have X5 : (33554432 + ((8 : Nat) : Int) * 256 + rot v 8) = 33556480 + rot v 8 := by omega
          rw [X5] at hr
          subst hr
          clear X5
          go_wp2
          go_ret
          exact ⟨rfl, by repeat (first | assumption | apply Ext.drewN | exact Ext.trans ‹_› ‹_›)⟩
        by_cases hj : n = 9
        · subst hj
          clear hn2 hn
          have y0 := (rot_in v h0 h1 9).1
          have X1 := ea9 _ y0 h256
          have X2 := eb9 _ y0 h256
          have X3 := ec9 _ y0 h256
          have X4 : bits .or .u32 (rot v 9 / 262144) (rot v 9 * 16384) = v := by have h := back9 v h0 h1 h256; rwa [show rot v 9 * 16384 % 4294967296 = rot v 9 * 16384 by omega] at h
          have X5 : (33554432 + ((9 : Nat) : Int) * 256 + rot v 9) = 33556736 + rot v 9 := by omega
          rw [X5] at hr
          subst hr
          clear X5
          go_wp2
          go_ret
          exact ⟨rfl, by repeat (first | assumption | apply Ext.drewN | exact Ext.trans ‹_› ‹_›)⟩
        by_cases hj : n = 10
        · subst hj
          clear hn2 hn
          have y0 := (rot_in v h0 h1 10).1
          have X1 := ea10 _ y0 h256
          have X2 := eb10 _ y0 h256
          have X3 := ec10 _ y0 h256
          have X4 : bits .or .u32 (rot v 10 / 1048576) (rot v 10 * 4096) = v := by have h := back10 v h0 h1 h256; rwa [show rot v 10 * 4096 % 4294967296 = rot v 10 * 4096 by omega] at h
          have X5 : (33554432 + ((10 : Nat) : Int) * 256 + rot v 10) = 33556992 + rot v 10 := by omega
          rw [X5] at hr
          subst hr
          clear X5
          go_wp2
          go_ret
          exact ⟨rfl, by repeat (first | assumption | apply Ext.drewN | exact Ext.trans ‹_› ‹_›)⟩
        by_cases hj : n = 11
        · subst hj
          clear hn2 hn
          have y0 := (rot_in v h0 h1 11).1
          have X1 := ea11 _ y0 h256
          have X2 := eb11 _ y0 h256
          have X3 := ec11 _ y0 h256
          have X4 : bits .or .u32 (rot v 11 / 4194304) (rot v 11 * 1024) = v := by have h := back11 v h0 h1 h256; rwa [show rot v 11 * 1024 % 4294967296 = rot v 11 * 1024 by omega] at h
          have X5 : (33554432 + ((11 : Nat) : Int) * 256 + rot v 11) = 33557248 + rot v 11 := by omega
          rw [X5] at hr
          subst hr
          clear X5
          go_wp2
          go_ret
          exact ⟨rfl, by repeat (first | assumption | apply Ext.drewN | exact Ext.trans ‹_› ‹_›)⟩
        by_cases hj : n = 12
        · subst hj
          clear hn2 hn
          have y0 := (rot_in v h0 h1 12).1
          have X1 := ea12 _ y0 h256
          have X2 := eb12 _ y0 h256
          have X3 := ec12 _ y0 h256
          have X4 : bits .or .u32 (rot v 12 / 16777216) (rot v 12 * 256) = v := by have h := back12 v h0 h1 h256; rwa [show rot v 12 * 256 % 4294967296 = rot v 12 * 256 by omega] at h
          have X5 : (33554432 + ((12 : Nat) : Int) * 256 + rot v 12) = 33557504 + rot v 12 := by omega
          rw [X5] at hr
          subst hr
          clear X5
          go_wp2
          go_ret
          exact ⟨rfl, by repeat (first | assumption | apply Ext.drewN | exact Ext.trans ‹_› ‹_›)⟩
        by_cases hj : n = 13
        · subst hj
          clear hn2 hn
          have y0 := (rot_in v h0 h1 13).1
          have X1 := ea13 _ y0 h256
          have X2 := eb13 _ y0 h256
          have X3 := ec13 _ y0 h256
          have X4 : bits .or .u32 (rot v 13 / 67108864) (rot v 13 * 64) = v := by have h := back13 v h0 h1 h256; rwa [show rot v 13 * 64 % 4294967296 = rot v 13 * 64 by omega] at h
          have X5 : (33554432 + ((13 : Nat) : Int) * 256 + rot v 13) = 33557760 + rot v 13 := by omega
          rw [X5] at hr
          subst hr
          clear X5
          go_wp2
          go_ret
          exact ⟨rfl, by repeat (first | assumption | apply Ext.drewN | exact Ext.trans ‹_› ‹_›)⟩
        by_cases hj : n = 14
        · subst hj
          clear hn2 hn
          have y0 := (rot_in v h0 h1 14).1
          have X1 := ea14 _ y0 h256
          have X2 := eb14 _ y0 h256
          have X3 := ec14 _ y0 h256
          have X4 : bits .or .u32 (rot v 14 / 268435456) (rot v 14 * 16) = v := by have h := back14 v h0 h1 h256; rwa [show rot v 14 * 16 % 4294967296 = rot v 14 * 16 by omega] at h
          have X5 : (33554432 + ((14 : Nat) : Int) * 256 + rot v 14) = 33558016 + rot v 14 := by omega
          rw [X5] at hr
          subst hr
          clear X5
          go_wp2
          go_ret
          exact ⟨rfl, by repeat (first | assumption | apply Ext.drewN | exact Ext.trans ‹_› ‹_›)⟩
        by_cases hj : n = 15
        · subst hj
          clear hn2 hn
          have y0 := (rot_in v h0 h1 15).1
          have X1 := ea15 _ y0 h256
          have X2 := eb15 _ y0 h256
          have X3 := ec15 _ y0 h256
          have X4 : bits .or .u32 (rot v 15 / 1073741824) (rot v 15 * 4) = v := by have h := back15 v h0 h1 h256; rwa [show rot v 15 * 4 % 4294967296 = rot v 15 * 4 by omega] at h
          have X5 : (33554432 + ((15 : Nat) : Int) * 256 + rot v 15) = 33558272 + rot v 15 := by omega
          rw [X5] at hr
          subst hr
          clear X5
          go_wp2
          go_ret
          exact ⟨rfl, by repeat (first | assumption | apply Ext.drewN | exact Ext.trans ‹_› ‹_›)⟩
        exfalso; omega
    | false =>
    have hn2 : ¬ (n : Int) < k := of_decide_eq_false hb.symm
    clear hb
    by_cases hlt : k = 0
    · subst hlt
      have hy := or0 v h0 h1
      have w1 : IntKind.i64.wrap 0 = 0 := by decide +kernel
      have w2 : IntKind.i64.wrap 32 = 32 := by decide +kernel
      have w3 := wrap_u32
      by_cases hz : n = 0
      · have hb : rot v 0 < 256 := hz ▸ HY.out (by omega)
        have hd2 : Hid (true = decide ((n : Int) < 1)) := Lib.hid (decide_eq_true (by omega)).symm
        clear HN HY HR hz hn hn2
        go_wp2
        go_quiet (fail)
        go_wp2
        go_roundw
        case rel => exact ⟨1, true, by decide, by decide, hd2.out, rfl, rfl, hx.drewN _⟩
        case measure => simp [intOf]
      · have hb : 256 ≤ rot v 0 := HN.out 0 (by omega)
        have hd2 : Hid (false = decide ((n : Int) < 1)) := Lib.hid (decide_eq_false (by omega)).symm
        clear HN HY HR hz hn hn2
        go_wp2
        go_quiet (fail)
        go_wp2
        go_roundw
        case rel => exact ⟨1, false, by decide, by decide, hd2.out, rfl, congrArg Value.bool (decide_eq_false (Int.not_lt.mpr hb)), hx.drewN _⟩
        case measure => simp [intOf]
    by_cases hlt : k = 1
    · subst hlt
      have hy := or1 v h0 h1
      have w1 : IntKind.i64.wrap 2 = 2 := by decide +kernel
      have w2 : IntKind.i64.wrap 30 = 30 := by decide +kernel
      have w3 := wrap_u32
      by_cases hz : n = 1
      · have hb : rot v 1 < 256 := hz ▸ HY.out (by omega)
        have hd2 : Hid (true = decide ((n : Int) < 2)) := Lib.hid (decide_eq_true (by omega)).symm
        clear HN HY HR hz hn hn2
        go_wp2
        go_quiet (fail)
        go_wp2
        go_roundw
        case rel => exact ⟨2, true, by decide, by decide, hd2.out, rfl, rfl, hx.drewN _⟩
        case measure => simp [intOf]
      · have hb : 256 ≤ rot v 1 := HN.out 1 (by omega)
        have hd2 : Hid (false = decide ((n : Int) < 2)) := Lib.hid (decide_eq_false (by omega)).symm
        clear HN HY HR hz hn hn2
        go_wp2
        go_quiet (fail)
        go_wp2
        go_roundw
        case rel => exact ⟨2, false, by decide, by decide, hd2.out, rfl, congrArg Value.bool (decide_eq_false (Int.not_lt.mpr hb)), hx.drewN _⟩
        case measure => simp [intOf]
    by_cases hlt : k = 2
    · subst hlt
      have hy := or2 v h0 h1
      have w1 : IntKind.i64.wrap 4 = 4 := by decide +kernel
      have w2 : IntKind.i64.wrap 28 = 28 := by decide +kernel
      have w3 := wrap_u32
      by_cases hz : n = 2
      · have hb : rot v 2 < 256 := hz ▸ HY.out (by omega)
        have hd2 : Hid (true = decide ((n : Int) < 3)) := Lib.hid (decide_eq_true (by omega)).symm
        clear HN HY HR hz hn hn2
        go_wp2
        go_quiet (fail)
        go_wp2
        go_roundw
        case rel => exact ⟨3, true, by decide, by decide, hd2.out, rfl, rfl, hx.drewN _⟩
        case measure => simp [intOf]
      · have hb : 256 ≤ rot v 2 := HN.out 2 (by omega)
        have hd2 : Hid (false = decide ((n : Int) < 3)) := Lib.hid (decide_eq_false (by omega)).symm
        clear HN HY HR hz hn hn2
        go_wp2
        go_quiet (fail)
        go_wp2
        go_roundw
        case rel => exact ⟨3, false, by decide, by decide, hd2.out, rfl, congrArg Value.bool (decide_eq_false (Int.not_lt.mpr hb)), hx.drewN _⟩
        case measure => simp [intOf]
    by_cases hlt : k = 3
    · subst hlt
      have hy := or3 v h0 h1
      have w1 : IntKind.i64.wrap 6 = 6 := by decide +kernel
      have w2 : IntKind.i64.wrap 26 = 26 := by decide +kernel
      have w3 := wrap_u32
      by_cases hz : n = 3
      · have hb : rot v 3 < 256 := hz ▸ HY.out (by omega)
        have hd2 : Hid (true = decide ((n : Int) < 4)) := Lib.hid (decide_eq_true (by omega)).symm
        clear HN HY HR hz hn hn2
        go_wp2
        go_quiet (fail)
        go_wp2
        go_roundw
        case rel => exact ⟨4, true, by decide, by decide, hd2.out, rfl, rfl, hx.drewN _⟩
        case measure => simp [intOf]
      · have hb : 256 ≤ rot v 3 := HN.out 3 (by omega)
        have hd2 : Hid (false = decide ((n : Int) < 4)) := Lib.hid (decide_eq_false (by omega)).symm
        clear HN HY HR hz hn hn2
        go_wp2
        go_quiet (fail)
        go_wp2
        go_roundw
        case rel => exact ⟨4, false, by decide, by decide, hd2.out, rfl, congrArg Value.bool (decide_eq_false (Int.not_lt.mpr hb)), hx.drewN _⟩
        case measure => simp [intOf]
    by_cases hlt : k = 4
    · subst hlt
      have hy := or4 v h0 h1
      have w1 : IntKind.i64.wrap 8 = 8 := by decide +kernel
      have w2 : IntKind.i64.wrap 24 = 24 := by decide +kernel
      have w3 := wrap_u32
      by_cases hz : n = 4
      · have hb : rot v 4 < 256 := hz ▸ HY.out (by omega)
        have hd2 : Hid (true = decide ((n : Int) < 5)) := Lib.hid (decide_eq_true (by omega)).symm
        clear HN HY HR hz hn hn2
        go_wp2
        go_quiet (fail)
        go_wp2
        go_roundw
        case rel => exact ⟨5, true, by decide, by decide, hd2.out, rfl, rfl, hx.drewN _⟩
        case measure => simp [intOf]
      · have hb : 256 ≤ rot v 4 := HN.out 4 (by omega)
        have hd2 : Hid (false = decide ((n : Int) < 5)) := Lib.hid (decide_eq_false (by omega)).symm
        clear HN HY HR hz hn hn2
        go_wp2
        go_quiet (fail)
        go_wp2
        go_roundw
        case rel => exact ⟨5, false, by decide, by decide, hd2.out, rfl, congrArg Value.bool (decide_eq_false (Int.not_lt.mpr hb)), hx.drewN _⟩
        case measure => simp [intOf]
    by_cases hlt : k = 5
    · subst hlt
      have hy := or5 v h0 h1
      have w1 : IntKind.i64.wrap 10 = 10 := by decide +kernel
      have w2 : IntKind.i64.wrap 22 = 22 := by decide +kernel
      have w3 := wrap_u32
      by_cases hz : n = 5
      · have hb : rot v 5 < 256 := hz ▸ HY.out (by omega)
        have hd2 : Hid (true = decide ((n : Int) < 6)) := Lib.hid (decide_eq_true (by omega)).symm
        clear HN HY HR hz hn hn2
        go_wp2
        go_quiet (fail)
        go_wp2
        go_roundw
        case rel => exact ⟨6, true, by decide, by decide, hd2.out, rfl, rfl, hx.drewN _⟩
        case measure => simp [intOf]
      · have hb : 256 ≤ rot v 5 := HN.out 5 (by omega)
        have hd2 : Hid (false = decide ((n : Int) < 6)) := Lib.hid (decide_eq_false (by omega)).symm
        clear HN HY HR hz hn hn2
        go_wp2
        go_quiet (fail)
        go_wp2
        go_roundw
        case rel => exact ⟨6, false, by decide, by decide, hd2.out, rfl, congrArg Value.bool (decide_eq_false (Int.not_lt.mpr hb)), hx.drewN _⟩
        case measure => simp [intOf]
    by_cases hlt : k = 6
    · subst hlt
      have hy := or6 v h0 h1
      have w1 : IntKind.i64.wrap 12 = 12 := by decide +kernel
      have w2 : IntKind.i64.wrap 20 = 20 := by decide +kernel
      have w3 := wrap_u32
      by_cases hz : n = 6
      · have hb : rot v 6 < 256 := hz ▸ HY.out (by omega)
        have hd2 : Hid (true = decide ((n : Int) < 7)) := Lib.hid (decide_eq_true (by omega)).symm
        clear HN HY HR hz hn hn2
        go_wp2
        go_quiet (fail)
        go_wp2
        go_roundw
        case rel => exact ⟨7, true, by decide, by decide, hd2.out, rfl, rfl, hx.drewN _⟩
        case measure => simp [intOf]
      · have hb : 256 ≤ rot v 6 := HN.out 6 (by omega)
        have hd2 : Hid (false = decide ((n : Int) < 7)) := Lib.hid (decide_eq_false (by omega)).symm
        clear HN HY HR hz hn hn2
        go_wp2
        go_quiet (fail)
        go_wp2
        go_roundw
        case rel => exact ⟨7, false, by decide, by decide, hd2.out, rfl, congrArg Value.bool (decide_eq_false (Int.not_lt.mpr hb)), hx.drewN _⟩
        case measure => simp [intOf]
    by_cases hlt : k = 7
    · subst hlt
      have hy := or7 v h0 h1
      have w1 : IntKind.i64.wrap 14 = 14 := by decide +kernel
      have w2 : IntKind.i64.wrap 18 = 18 := by decide +kernel
      have w3 := wrap_u32
      by_cases hz : n = 7
      · have hb : rot v 7 < 256 := hz ▸ HY.out (by omega)
        have hd2 : Hid (true = decide ((n : Int) < 8)) := Lib.hid (decide_eq_true (by omega)).symm
        clear HN HY HR hz hn hn2
        go_wp2
        go_quiet (fail)
        go_wp2
        go_roundw
        case rel => exact ⟨8, true, by decide, by decide, hd2.out, rfl, rfl, hx.drewN _⟩
        case measure => simp [intOf]
      · have hb : 256 ≤ rot v 7 := HN.out 7 (by omega)
        have hd2 : Hid (false = decide ((n : Int) < 8)) := Lib.hid (decide_eq_false (by omega)).symm
        clear HN HY HR hz hn hn2
        go_wp2
        go_quiet (fail)
        go_wp2
        go_roundw
        case rel => exact ⟨8, false, by decide, by decide, hd2.out, rfl, congrArg Value.bool (decide_eq_false (Int.not_lt.mpr hb)), hx.drewN _⟩
        case measure => simp [intOf]
    by_cases hlt : k = 8
    · subst hlt
      have hy := or8 v h0 h1
      have w1 : IntKind.i64.wrap 16 = 16 := by decide +kernel
      have w2 : IntKind.i64.wrap 16 = 16 := by decide +kernel
      have w3 := wrap_u32
      by_cases hz : n = 8
      · have hb : rot v 8 < 256 := hz ▸ HY.out (by omega)
        have hd2 : Hid (true = decide ((n : Int) < 9)) := Lib.hid (decide_eq_true (by omega)).symm
        clear HN HY HR hz hn hn2
        go_wp2
        go_quiet (fail)
        go_wp2
        go_roundw
        case rel => exact ⟨9, true, by decide, by decide, hd2.out, rfl, rfl, hx.drewN _⟩
        case measure => simp [intOf]
      · have hb : 256 ≤ rot v 8 := HN.out 8 (by omega)
        have hd2 : Hid (false = decide ((n : Int) < 9)) := Lib.hid (decide_eq_false (by omega)).symm
        clear HN HY HR hz hn hn2
        go_wp2
        go_quiet (fail)
        go_wp2
        go_roundw
        case rel => exact ⟨9, false, by decide, by decide, hd2.out, rfl, congrArg Value.bool (decide_eq_false (Int.not_lt.mpr hb)), hx.drewN _⟩
        case measure => simp [intOf]
    by_cases hlt : k = 9
    · subst hlt
      have hy := or9 v h0 h1
      have w1 : IntKind.i64.wrap 18 = 18 := by decide +kernel
      have w2 : IntKind.i64.wrap 14 = 14 := by decide +kernel
      have w3 := wrap_u32
      by_cases hz : n = 9
      · have hb : rot v 9 < 256 := hz ▸ HY.out (by omega)
        have hd2 : Hid (true = decide ((n : Int) < 10)) := Lib.hid (decide_eq_true (by omega)).symm
        clear HN HY HR hz hn hn2
        go_wp2
        go_quiet (fail)
        go_wp2
        go_roundw
        case rel => exact ⟨10, true, by decide, by decide, hd2.out, rfl, rfl, hx.drewN _⟩
        case measure => simp [intOf]
      · have hb : 256 ≤ rot v 9 := HN.out 9 (by omega)
        have hd2 : Hid (false = decide ((n : Int) < 10)) := Lib.hid (decide_eq_false (by omega)).symm
        clear HN HY HR hz hn hn2
        go_wp2
        go_quiet (fail)
        go_wp2
        go_roundw
        case rel => exact ⟨10, false, by decide, by decide, hd2.out, rfl, congrArg Value.bool (decide_eq_false (Int.not_lt.mpr hb)), hx.drewN _⟩
        case measure => simp [intOf]
    by_cases hlt : k = 10
    · subst hlt
      have hy := or10 v h0 h1
      have w1 : IntKind.i64.wrap 20 = 20 := by decide +kernel
      have w2 : IntKind.i64.wrap 12 = 12 := by decide +kernel
      have w3 := wrap_u32
      by_cases hz : n = 10
      · have hb : rot v 10 < 256 := hz ▸ HY.out (by omega)
        have hd2 : Hid (true = decide ((n : Int) < 11)) := Lib.hid (decide_eq_true (by omega)).symm
        clear HN HY HR hz hn hn2
        go_wp2
        go_quiet (fail)
        go_wp2
        go_roundw
        case rel => exact ⟨11, true, by decide, by decide, hd2.out, rfl, rfl, hx.drewN _⟩
        case measure => simp [intOf]
      · have hb : 256 ≤ rot v 10 := HN.out 10 (by omega)
        have hd2 : Hid (false = decide ((n : Int) < 11)) := Lib.hid (decide_eq_false (by omega)).symm
        clear HN HY HR hz hn hn2
        go_wp2
        go_quiet (fail)
        go_wp2
        go_roundw
        case rel => exact ⟨11, false, by decide, by decide, hd2.out, rfl, congrArg Value.bool (decide_eq_false (Int.not_lt.mpr hb)), hx.drewN _⟩
        case measure => simp [intOf]
    by_cases hlt : k = 11
    · subst hlt
      have hy := or11 v h0 h1
      have w1 : IntKind.i64.wrap 22 = 22 := by decide +kernel
      have w2 : IntKind.i64.wrap 10 = 10 := by decide +kernel
      have w3 := wrap_u32
      by_cases hz : n = 11
      · have hb : rot v 11 < 256 := hz ▸ HY.out (by omega)
        have hd2 : Hid (true = decide ((n : Int) < 12)) := Lib.hid (decide_eq_true (by omega)).symm
        clear HN HY HR hz hn hn2
        go_wp2
        go_quiet (fail)
        go_wp2
        go_roundw
        case rel => exact ⟨12, true, by decide, by decide, hd2.out, rfl, rfl, hx.drewN _⟩
        case measure => simp [intOf]
      · have hb : 256 ≤ rot v 11 := HN.out 11 (by omega)
        have hd2 : Hid (false = decide ((n : Int) < 12)) := Lib.hid (decide_eq_false (by omega)).symm
        clear HN HY HR hz hn hn2
        go_wp2
        go_quiet (fail)
        go_wp2
        go_roundw
        case rel => exact ⟨12, false, by decide, by decide, hd2.out, rfl, congrArg Value.bool (decide_eq_false (Int.not_lt.mpr hb)), hx.drewN _⟩
        case measure => simp [intOf]
    by_cases hlt : k = 12
    · subst hlt
      have hy := or12 v h0 h1
      have w1 : IntKind.i64.wrap 24 = 24 := by decide +kernel
      have w2 : IntKind.i64.wrap 8 = 8 := by decide +kernel
      have w3 := wrap_u32
      by_cases hz : n = 12
      · have hb : rot v 12 < 256 := hz ▸ HY.out (by omega)
        have hd2 : Hid (true = decide ((n : Int) < 13)) := Lib.hid (decide_eq_true (by omega)).symm
        clear HN HY HR hz hn hn2
        go_wp2
        go_quiet (fail)
        go_wp2
        go_roundw
        case rel => exact ⟨13, true, by decide, by decide, hd2.out, rfl, rfl, hx.drewN _⟩
        case measure => simp [intOf]
      · have hb : 256 ≤ rot v 12 := HN.out 12 (by omega)
        have hd2 : Hid (false = decide ((n : Int) < 13)) := Lib.hid (decide_eq_false (by omega)).symm
        clear HN HY HR hz hn hn2
        go_wp2
        go_quiet (fail)
        go_wp2
        go_roundw
        case rel => exact ⟨13, false, by decide, by decide, hd2.out, rfl, congrArg Value.bool (decide_eq_false (Int.not_lt.mpr hb)), hx.drewN _⟩
        case measure => simp [intOf]
    by_cases hlt : k = 13
    · subst hlt
      have hy := or13 v h0 h1
      have w1 : IntKind.i64.wrap 26 = 26 := by decide +kernel
      have w2 : IntKind.i64.wrap 6 = 6 := by decide +kernel
      have w3 := wrap_u32
      by_cases hz : n = 13
      · have hb : rot v 13 < 256 := hz ▸ HY.out (by omega)
        have hd2 : Hid (true = decide ((n : Int) < 14)) := Lib.hid (decide_eq_true (by omega)).symm
        clear HN HY HR hz hn hn2
        go_wp2
        go_quiet (fail)
        go_wp2
        go_roundw
        case rel => exact ⟨14, true, by decide, by decide, hd2.out, rfl, rfl, hx.drewN _⟩
        case measure => simp [intOf]
      · have hb : 256 ≤ rot v 13 := HN.out 13 (by omega)
        have hd2 : Hid (false = decide ((n : Int) < 14)) := Lib.hid (decide_eq_false (by omega)).symm
        clear HN HY HR hz hn hn2
        go_wp2
        go_quiet (fail)
        go_wp2
        go_roundw
        case rel => exact ⟨14, false, by decide, by decide, hd2.out, rfl, congrArg Value.bool (decide_eq_false (Int.not_lt.mpr hb)), hx.drewN _⟩
        case measure => simp [intOf]
    by_cases hlt : k = 14
    · subst hlt
      have hy := or14 v h0 h1
      have w1 : IntKind.i64.wrap 28 = 28 := by decide +kernel
      have w2 : IntKind.i64.wrap 4 = 4 := by decide +kernel
      have w3 := wrap_u32
      by_cases hz : n = 14
      · have hb : rot v 14 < 256 := hz ▸ HY.out (by omega)
        have hd2 : Hid (true = decide ((n : Int) < 15)) := Lib.hid (decide_eq_true (by omega)).symm
        clear HN HY HR hz hn hn2
        go_wp2
        go_quiet (fail)
        go_wp2
        go_roundw
        case rel => exact ⟨15, true, by decide, by decide, hd2.out, rfl, rfl, hx.drewN _⟩
        case measure => simp [intOf]
      · have hb : 256 ≤ rot v 14 := HN.out 14 (by omega)
        have hd2 : Hid (false = decide ((n : Int) < 15)) := Lib.hid (decide_eq_false (by omega)).symm
        clear HN HY HR hz hn hn2
        go_wp2
        go_quiet (fail)
        go_wp2
        go_roundw
        case rel => exact ⟨15, false, by decide, by decide, hd2.out, rfl, congrArg Value.bool (decide_eq_false (Int.not_lt.mpr hb)), hx.drewN _⟩
        case measure => simp [intOf]
    by_cases hlt : k = 15
    · subst hlt
      have hy := or15 v h0 h1
      have w1 : IntKind.i64.wrap 30 = 30 := by decide +kernel
      have w2 : IntKind.i64.wrap 2 = 2 := by decide +kernel
      have w3 := wrap_u32
      by_cases hz : n = 15
      · have hb : rot v 15 < 256 := hz ▸ HY.out (by omega)
        have hd2 : Hid (true = decide ((n : Int) < 16)) := Lib.hid (decide_eq_true (by omega)).symm
        clear HN HY HR hz hn hn2
        go_wp2
        go_quiet (fail)
        go_wp2
        go_roundw
        case rel => exact ⟨16, true, by decide, by decide, hd2.out, rfl, rfl, hx.drewN _⟩
        case measure => simp [intOf]
      · have hb : 256 ≤ rot v 15 := HN.out 15 (by omega)
        have hd2 : Hid (false = decide ((n : Int) < 16)) := Lib.hid (decide_eq_false (by omega)).symm
        clear HN HY HR hz hn hn2
        go_wp2
        go_quiet (fail)
        go_wp2
        go_roundw
        case rel => exact ⟨16, false, by decide, by decide, hd2.out, rfl, congrArg Value.bool (decide_eq_false (Int.not_lt.mpr hb)), hx.drewN _⟩
        case measure => simp [intOf]
    obtain rfl : k = 16 := by omega
    have h := HR.out
    rw [if_neg (by omega)] at h
    subst h
    clear HN HY HR hk0 hk hn hn2
    go_wp2_with (go_at_call 10; ((with_reducible refine (c1 _).mono ?_); rintro e w' ⟨rfl, rfl⟩))
    go_ret
    exact ⟨rfl, by repeat (first | assumption | apply Ext.drewN | exact Ext.trans ‹_› ‹_›)⟩
theorem first_fit (v : Int) (m : Nat) : ∃ n, n ≤ m ∧ (∀ j, j < n → 256 ≤ rot v j) ∧ (n < m → rot v n < 256) := by
  induction m with
  | zero => exact ⟨0, Nat.le_refl _, fun j h => absurd h (Nat.not_lt_zero _), fun h => absurd h (Nat.lt_irrefl _)⟩
  | succ m ih =>
    obtain ⟨n, h1, h2, h3⟩ := ih
    by_cases h : n < m
    · exact ⟨n, by omega, h2, fun _ => h3 h⟩
    · obtain rfl : n = m := by omega
      by_cases hb : rot v n < 256
      · exact ⟨n, by omega, h2, fun _ => hb⟩
      · refine ⟨n + 1, Nat.le_refl _, fun j hj => ?_, fun h => absurd h (Nat.lt_irrefl _)⟩
        by_cases hjn : j < n
        · exact h2 j hjn
        · obtain rfl : j = n := by omega
          omega
theorem walkFnImmrot (a0 : Int) (w : World) (w0 : (Lit.int .u32 a0).wf = true) : Calls Try.prog 5 #[.int .u32 a0] w fun e w' => e = .returned (.bool true) ∧ Ext w w' := by
  have b := wf_u32 w0
  have b1 : a0 < 4294967296 := by omega
  obtain ⟨n, hn, hno, hs⟩ := first_fit a0 16
  have hr : if n < 16 then rot a0 n < 256 ∧ (if n < 16 then 33554432 + (n : Int) * 256 + rot a0 n else 0) = 33554432 + n * 256 + rot a0 n else (if n < 16 then 33554432 + (n : Int) * 256 + rot a0 n else 0) = 0 := by
    by_cases h : n < 16
    · rw [if_pos h, if_pos h]; exact ⟨hs h, rfl⟩
    · rw [if_neg h, if_neg h]
  exact law_any a0 _ n w b.1 b1 hn hno hr (fun W => imp_any _ _ W (imm_any a0 n _ W b.1 b1 hn hno hr))
    (fun W => imp_any _ _ W (imm_any 1 0 33554433 W (by decide) (by decide) (by decide) (fun j h => absurd h (Nat.not_lt_zero _)) (by rw [if_pos (by decide)]; exact ⟨by decide, by decide⟩)))
end Go.Proofs.Ytcfeljdbjhamiaa.Wk
