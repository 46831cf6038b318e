/- Contracts of Ppc64 at the addresses of POWER: of a symbol, from the table of contents, from the place. -/
import Derived.Test.YtcchhdjpmnhfmaaArmAddr
namespace Go.Proofs.Ytcchhdjpmnhfmaa.Wk
set_option linter.unusedVariables false
open Go.RowKit Go.Proofs.Ytcchhdjpmnhfmaa.Aid
set_option maxRecDepth 100000 in
set_option maxHeartbeats 1600000 in
theorem pow0L_in (s a p c V A B X Y o : Int) (w : World) (hs : -2199023255552 ≤ s ∧ s < 2199023255552) (ha : -2199023255552 ≤ a ∧ a < 2199023255552) (hp : -2199023255552 ≤ p ∧ p < 2199023255552) (hc : -2199023255552 ≤ c ∧ c < 2199023255552)
    (e1 : V / 4294967296 % 4294967296 = B) (e2 : V % 4294967296 = A) (t1 : 0 ≤ s + a) (t2 : s + a < 2147450880)
    (hA : bits .andNot .u32 A 65535 = A) (hB : bits .andNot .u32 B 65535 = B) (hX : bits .or .u32 A ((s + a + 32768) / 65536) = X) (hY : bits .or .u32 B (IntKind.u16.wrap (s + a) % 4294967296) = Y) (X0 : 0 ≤ X) (X1 : X < 4294967296) (Y0 : 0 ≤ Y) (Y1 : Y < 4294967296) (hO : bits .or .i64 X (wrap64 (Y * 4294967296)) = o) :
    Calls Try.prog 33 #[.int .i64 5, .bool false, .bool false, .int .i64 s, .int .i64 a, .int .i64 p, .int .i64 c, .int .i64 V] w fun e w' => e = .returned (.tuple #[.int .i64 o, .int .i64 0, .bool true]) ∧ w = w' := by
  obtain ⟨hs1, hs2⟩ := hs
  obtain ⟨ha1, ha2⟩ := ha
  obtain ⟨hp1, hp2⟩ := hp
  obtain ⟨hc1, hc2⟩ := hc
  go_enter Try.func33, Try.ntmps33
  go_wp2
  go_ret3
  exact ⟨rfl, rfl⟩
set_option maxRecDepth 100000 in
set_option maxHeartbeats 1600000 in
theorem pow0G_in (s a p c V A B X Y o : Int) (w : World) (hs : -2199023255552 ≤ s ∧ s < 2199023255552) (ha : -2199023255552 ≤ a ∧ a < 2199023255552) (hp : -2199023255552 ≤ p ∧ p < 2199023255552) (hc : -2199023255552 ≤ c ∧ c < 2199023255552)
    (e1 : V / 4294967296 % 4294967296 = A) (e2 : V % 4294967296 = B) (t1 : 0 ≤ s + a) (t2 : s + a < 2147450880)
    (hA : bits .andNot .u32 A 65535 = A) (hB : bits .andNot .u32 B 65535 = B) (hX : bits .or .u32 A ((s + a + 32768) / 65536) = X) (hY : bits .or .u32 B (IntKind.u16.wrap (s + a) % 4294967296) = Y) (X0 : 0 ≤ X) (X1 : X < 4294967296) (Y0 : 0 ≤ Y) (Y1 : Y < 4294967296) (hO : bits .or .i64 (wrap64 (X * 4294967296)) Y = o) :
    Calls Try.prog 33 #[.int .i64 5, .bool true, .bool false, .int .i64 s, .int .i64 a, .int .i64 p, .int .i64 c, .int .i64 V] w fun e w' => e = .returned (.tuple #[.int .i64 o, .int .i64 0, .bool true]) ∧ w = w' := by
  obtain ⟨hs1, hs2⟩ := hs
  obtain ⟨ha1, ha2⟩ := ha
  obtain ⟨hp1, hp2⟩ := hp
  obtain ⟨hc1, hc2⟩ := hc
  go_enter Try.func33, Try.ntmps33
  go_wp2
  go_ret3
  exact ⟨rfl, rfl⟩
set_option maxRecDepth 100000 in
set_option maxHeartbeats 1600000 in
theorem pow0_edge (g : Bool) (s a p c V : Int) (w : World) (hs : -2199023255552 ≤ s ∧ s < 2199023255552) (ha : -2199023255552 ≤ a ∧ a < 2199023255552) (hp : -2199023255552 ≤ p ∧ p < 2199023255552) (hc : -2199023255552 ≤ c ∧ c < 2199023255552)
    (t1 : 0 ≤ s + a) (t2 : s + a < 2147483648) :
    Calls Try.prog 33 #[.int .i64 5, .bool g, .bool false, .int .i64 s, .int .i64 a, .int .i64 p, .int .i64 c, .int .i64 V] w fun e w' => (∃ o, e = .returned (.tuple #[.int .i64 o, .int .i64 0, .bool true])) ∧ w = w' := by
  obtain ⟨hs1, hs2⟩ := hs
  obtain ⟨ha1, ha2⟩ := ha
  obtain ⟨hp1, hp2⟩ := hp
  obtain ⟨hc1, hc2⟩ := hc
  cases g
  all_goals
    have tok : True := trivial
    all_goals
      go_enter Try.func33, Try.ntmps33
      go_wp2
      all_goals
        go_ret3
        exact ⟨⟨_, rfl⟩, rfl⟩
set_option maxRecDepth 100000 in
set_option maxHeartbeats 1600000 in
theorem pow0_far (g : Bool) (s a p c V : Int) (w : World) (hs : -2199023255552 ≤ s ∧ s < 2199023255552) (ha : -2199023255552 ≤ a ∧ a < 2199023255552) (hp : -2199023255552 ≤ p ∧ p < 2199023255552) (hc : -2199023255552 ≤ c ∧ c < 2199023255552)
    (t1 : 2147483648 ≤ s + a) :
    Calls Try.prog 33 #[.int .i64 5, .bool g, .bool false, .int .i64 s, .int .i64 a, .int .i64 p, .int .i64 c, .int .i64 V] w fun e w' => (∃ o, e = .returned (.tuple #[.int .i64 o, .int .i64 1, .bool true])) ∧ w = w' := by
  obtain ⟨hs1, hs2⟩ := hs
  obtain ⟨ha1, ha2⟩ := ha
  obtain ⟨hp1, hp2⟩ := hp
  obtain ⟨hc1, hc2⟩ := hc
  cases g
  all_goals
    have tok : True := trivial
    all_goals
      go_enter Try.func33, Try.ntmps33
      go_wp2
      all_goals
        go_ret3
        exact ⟨⟨_, rfl⟩, rfl⟩
set_option maxRecDepth 100000 in
set_option maxHeartbeats 1600000 in
theorem pow1L_in (s a p c V A B X Y o : Int) (w : World) (hs : -2199023255552 ≤ s ∧ s < 2199023255552) (ha : -2199023255552 ≤ a ∧ a < 2199023255552) (hp : -2199023255552 ≤ p ∧ p < 2199023255552) (hc : -2199023255552 ≤ c ∧ c < 2199023255552)
    (e1 : V / 4294967296 % 4294967296 = B) (e2 : V % 4294967296 = A) (t1 : -2147483648 ≤ s + a - c) (t2 : s + a - c < 2147450880)
    (b : Bool) (X9 : (bits .and .i64 (s + a - c) 32768 != 0) = b) (q0 : 0 ≤ bits .and .i64 ((if b = true then s + a - c + 65536 else s + a - c) / 65536) 65535) (q1 : bits .and .i64 ((if b = true then s + a - c + 65536 else s + a - c) / 65536) 65535 ≤ 65535) (hX : bits .or .u32 A (bits .and .i64 ((if b = true then s + a - c + 65536 else s + a - c) / 65536) 65535) = X) (hY : bits .or .u32 B (bits .and .u32 ((if b = true then s + a - c + 65536 else s + a - c) % 4294967296) 65535) = Y) (X0 : 0 ≤ X) (X1 : X < 4294967296) (Y0 : 0 ≤ Y) (Y1 : Y < 4294967296) (hO : bits .or .i64 (wrap64 (Y * 4294967296)) X = o) :
    Calls Try.prog 33 #[.int .i64 10, .bool false, .bool false, .int .i64 s, .int .i64 a, .int .i64 p, .int .i64 c, .int .i64 V] w fun e w' => e = .returned (.tuple #[.int .i64 o, .int .i64 0, .bool true]) ∧ w = w' := by
  obtain ⟨hs1, hs2⟩ := hs
  obtain ⟨ha1, ha2⟩ := ha
  obtain ⟨hp1, hp2⟩ := hp
  obtain ⟨hc1, hc2⟩ := hc
  cases b with
  | false =>
    simp only [Bool.false_eq_true, if_false] at q0 q1 hX hY
    go_enter Try.func33, Try.ntmps33
    go_wp2
    go_ret3
    exact ⟨rfl, rfl⟩
  | true =>
    simp only [if_true] at q0 q1 hX hY
    go_enter Try.func33, Try.ntmps33
    go_wp2
    go_ret3
    exact ⟨rfl, rfl⟩
set_option maxRecDepth 100000 in
set_option maxHeartbeats 1600000 in
theorem pow1G_in (s a p c V A B X Y o : Int) (w : World) (hs : -2199023255552 ≤ s ∧ s < 2199023255552) (ha : -2199023255552 ≤ a ∧ a < 2199023255552) (hp : -2199023255552 ≤ p ∧ p < 2199023255552) (hc : -2199023255552 ≤ c ∧ c < 2199023255552)
    (e1 : V / 4294967296 % 4294967296 = A) (e2 : V % 4294967296 = B) (t1 : -2147483648 ≤ s + a - c) (t2 : s + a - c < 2147450880)
    (b : Bool) (X9 : (bits .and .i64 (s + a - c) 32768 != 0) = b) (q0 : 0 ≤ bits .and .i64 ((if b = true then s + a - c + 65536 else s + a - c) / 65536) 65535) (q1 : bits .and .i64 ((if b = true then s + a - c + 65536 else s + a - c) / 65536) 65535 ≤ 65535) (hX : bits .or .u32 A (bits .and .i64 ((if b = true then s + a - c + 65536 else s + a - c) / 65536) 65535) = X) (hY : bits .or .u32 B (bits .and .u32 ((if b = true then s + a - c + 65536 else s + a - c) % 4294967296) 65535) = Y) (X0 : 0 ≤ X) (X1 : X < 4294967296) (Y0 : 0 ≤ Y) (Y1 : Y < 4294967296) (hO : bits .or .i64 (wrap64 (X * 4294967296)) Y = o) :
    Calls Try.prog 33 #[.int .i64 10, .bool true, .bool false, .int .i64 s, .int .i64 a, .int .i64 p, .int .i64 c, .int .i64 V] w fun e w' => e = .returned (.tuple #[.int .i64 o, .int .i64 0, .bool true]) ∧ w = w' := by
  obtain ⟨hs1, hs2⟩ := hs
  obtain ⟨ha1, ha2⟩ := ha
  obtain ⟨hp1, hp2⟩ := hp
  obtain ⟨hc1, hc2⟩ := hc
  cases b with
  | false =>
    simp only [Bool.false_eq_true, if_false] at q0 q1 hX hY
    go_enter Try.func33, Try.ntmps33
    go_wp2
    go_ret3
    exact ⟨rfl, rfl⟩
  | true =>
    simp only [if_true] at q0 q1 hX hY
    go_enter Try.func33, Try.ntmps33
    go_wp2
    go_ret3
    exact ⟨rfl, rfl⟩
set_option maxRecDepth 100000 in
set_option maxHeartbeats 1600000 in
theorem pow1_edge (g : Bool) (s a p c V : Int) (w : World) (hs : -2199023255552 ≤ s ∧ s < 2199023255552) (ha : -2199023255552 ≤ a ∧ a < 2199023255552) (hp : -2199023255552 ≤ p ∧ p < 2199023255552) (hc : -2199023255552 ≤ c ∧ c < 2199023255552)
    (t1 : -2147483648 ≤ s + a - c) (t2 : s + a - c < 2147483648) :
    Calls Try.prog 33 #[.int .i64 10, .bool g, .bool false, .int .i64 s, .int .i64 a, .int .i64 p, .int .i64 c, .int .i64 V] w fun e w' => (∃ o, e = .returned (.tuple #[.int .i64 o, .int .i64 0, .bool true])) ∧ w = w' := by
  obtain ⟨hs1, hs2⟩ := hs
  obtain ⟨ha1, ha2⟩ := ha
  obtain ⟨hp1, hp2⟩ := hp
  obtain ⟨hc1, hc2⟩ := hc
  cases g
  all_goals
    have tok : True := trivial
    all_goals
      go_enter Try.func33, Try.ntmps33
      go_wp2
      all_goals
        go_ret3
        exact ⟨⟨_, rfl⟩, rfl⟩
set_option maxRecDepth 100000 in
set_option maxHeartbeats 1600000 in
theorem pow1_far (g : Bool) (s a p c V : Int) (w : World) (hs : -2199023255552 ≤ s ∧ s < 2199023255552) (ha : -2199023255552 ≤ a ∧ a < 2199023255552) (hp : -2199023255552 ≤ p ∧ p < 2199023255552) (hc : -2199023255552 ≤ c ∧ c < 2199023255552)
    (ht : s + a - c < -2147483648 ∨ 2147483648 ≤ s + a - c) (X8 : (s + a - c != wrap64 (wrap32 (s + a - c))) = true) :
    Calls Try.prog 33 #[.int .i64 10, .bool g, .bool false, .int .i64 s, .int .i64 a, .int .i64 p, .int .i64 c, .int .i64 V] w fun e w' => (∃ o, e = .returned (.tuple #[.int .i64 o, .int .i64 1, .bool true])) ∧ w = w' := by
  obtain ⟨hs1, hs2⟩ := hs
  obtain ⟨ha1, ha2⟩ := ha
  obtain ⟨hp1, hp2⟩ := hp
  obtain ⟨hc1, hc2⟩ := hc
  cases g
  all_goals
    rcases ht with ht | ht
    all_goals
      go_enter Try.func33, Try.ntmps33
      go_wp2
      all_goals
        go_ret3
        exact ⟨⟨_, rfl⟩, rfl⟩
set_option maxRecDepth 100000 in
set_option maxHeartbeats 1600000 in
theorem pow2L_in (s a p c V A B X Y o : Int) (w : World) (hs : -2199023255552 ≤ s ∧ s < 2199023255552) (ha : -2199023255552 ≤ a ∧ a < 2199023255552) (hp : -2199023255552 ≤ p ∧ p < 2199023255552) (hc : -2199023255552 ≤ c ∧ c < 2199023255552)
    (e1 : V / 4294967296 % 4294967296 = B) (e2 : V % 4294967296 = A) (t1 : -2147483648 ≤ s + a - p) (t2 : s + a - p < 2147450880)
    (hX : bits .or .u32 A (IntKind.u16.wrap ((s + a - p + 32768) / 65536) % 4294967296) = X) (hY : bits .or .u32 B (IntKind.u16.wrap (s + a - p) % 4294967296) = Y) (X0 : 0 ≤ X) (X1 : X < 4294967296) (Y0 : 0 ≤ Y) (Y1 : Y < 4294967296) (hO : bits .or .i64 X (wrap64 (Y * 4294967296)) = o) :
    Calls Try.prog 33 #[.int .i64 8, .bool false, .bool false, .int .i64 s, .int .i64 a, .int .i64 p, .int .i64 c, .int .i64 V] w fun e w' => e = .returned (.tuple #[.int .i64 o, .int .i64 0, .bool true]) ∧ w = w' := by
  obtain ⟨hs1, hs2⟩ := hs
  obtain ⟨ha1, ha2⟩ := ha
  obtain ⟨hp1, hp2⟩ := hp
  obtain ⟨hc1, hc2⟩ := hc
  go_enter Try.func33, Try.ntmps33
  go_wp2
  go_ret3
  exact ⟨rfl, rfl⟩
set_option maxRecDepth 100000 in
set_option maxHeartbeats 1600000 in
theorem pow2G_in (s a p c V A B X Y o : Int) (w : World) (hs : -2199023255552 ≤ s ∧ s < 2199023255552) (ha : -2199023255552 ≤ a ∧ a < 2199023255552) (hp : -2199023255552 ≤ p ∧ p < 2199023255552) (hc : -2199023255552 ≤ c ∧ c < 2199023255552)
    (e1 : V / 4294967296 % 4294967296 = A) (e2 : V % 4294967296 = B) (t1 : -2147483648 ≤ s + a - p) (t2 : s + a - p < 2147450880)
    (hX : bits .or .u32 A (IntKind.u16.wrap ((s + a - p + 32768) / 65536) % 4294967296) = X) (hY : bits .or .u32 B (IntKind.u16.wrap (s + a - p) % 4294967296) = Y) (X0 : 0 ≤ X) (X1 : X < 4294967296) (Y0 : 0 ≤ Y) (Y1 : Y < 4294967296) (hO : bits .or .i64 (wrap64 (X * 4294967296)) Y = o) :
    Calls Try.prog 33 #[.int .i64 8, .bool true, .bool false, .int .i64 s, .int .i64 a, .int .i64 p, .int .i64 c, .int .i64 V] w fun e w' => e = .returned (.tuple #[.int .i64 o, .int .i64 0, .bool true]) ∧ w = w' := by
  obtain ⟨hs1, hs2⟩ := hs
  obtain ⟨ha1, ha2⟩ := ha
  obtain ⟨hp1, hp2⟩ := hp
  obtain ⟨hc1, hc2⟩ := hc
  go_enter Try.func33, Try.ntmps33
  go_wp2
  go_ret3
  exact ⟨rfl, rfl⟩
set_option maxRecDepth 100000 in
set_option maxHeartbeats 1600000 in
theorem pow2_any (g : Bool) (s a p c V : Int) (w : World) (hs : -2199023255552 ≤ s ∧ s < 2199023255552) (ha : -2199023255552 ≤ a ∧ a < 2199023255552) (hp : -2199023255552 ≤ p ∧ p < 2199023255552) (hc : -2199023255552 ≤ c ∧ c < 2199023255552)
    (tok0 : True) :
    Calls Try.prog 33 #[.int .i64 8, .bool g, .bool false, .int .i64 s, .int .i64 a, .int .i64 p, .int .i64 c, .int .i64 V] w fun e w' => (∃ o, e = .returned (.tuple #[.int .i64 o, .int .i64 0, .bool true])) ∧ w = w' := by
  obtain ⟨hs1, hs2⟩ := hs
  obtain ⟨ha1, ha2⟩ := ha
  obtain ⟨hp1, hp2⟩ := hp
  obtain ⟨hc1, hc2⟩ := hc
  cases g
  all_goals
    have tok : True := trivial
    all_goals
      go_enter Try.func33, Try.ntmps33
      go_wp2
      all_goals
        go_ret3
        exact ⟨⟨_, rfl⟩, rfl⟩
theorem impPow {rt s a p c V o n : Int} {g b : Bool} {w : World} (h : Calls Try.prog 33 #[.int .i64 rt, .bool g, .bool false, .int .i64 s, .int .i64 a, .int .i64 p, .int .i64 c, .int .i64 V] w fun e w' => e = .returned (.tuple #[.int .i64 o, .int .i64 n, .bool b]) ∧ w = w') :
    Calls Try.prog 21 #[.int .i64 rt, .bool g, .bool false, .int .i64 s, .int .i64 a, .int .i64 p, .int .i64 c, .int .i64 V] w fun e w' => e = .returned (.tuple #[.int .i64 o, .int .i64 n, .bool b]) ∧ w = w' := by
  go_enter Try.func21, Try.ntmps21
  go_wp2_with (go_at_call 33; ((with_reducible refine h.mono ?_); rintro e w' ⟨rfl, rfl⟩))
  go_ret3
  exact ⟨rfl, rfl⟩
theorem impPow_bad {rt s a p c V n : Int} {g b : Bool} {w : World} (h : Calls Try.prog 33 #[.int .i64 rt, .bool g, .bool false, .int .i64 s, .int .i64 a, .int .i64 p, .int .i64 c, .int .i64 V] w fun e w' => (∃ o, e = .returned (.tuple #[.int .i64 o, .int .i64 n, .bool b])) ∧ w = w') :
    Calls Try.prog 21 #[.int .i64 rt, .bool g, .bool false, .int .i64 s, .int .i64 a, .int .i64 p, .int .i64 c, .int .i64 V] w fun e w' => (∃ o, e = .returned (.tuple #[.int .i64 o, .int .i64 n, .bool b])) ∧ w = w' := by
  go_enter Try.func21, Try.ntmps21
  go_wp2_with (go_at_call 33; ((with_reducible refine h.mono ?_); rintro e w' ⟨⟨o, rfl⟩, rfl⟩))
  go_ret3
  exact ⟨⟨_, rfl⟩, rfl⟩
end Go.Proofs.Ytcchhdjpmnhfmaa.Wk
