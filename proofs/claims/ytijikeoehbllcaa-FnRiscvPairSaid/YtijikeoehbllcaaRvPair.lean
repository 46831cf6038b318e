/- Contracts of Riscv64 at the kinds that split a distance into an upper and a lower number: AUIPC with an instruction of form I or a store, and the two alone. -/
import Derived.Test.YtijikeoehbllcaaRvImp
import Derived.Test.YtijikeoehbllcaaSplit
namespace Go.Proofs.Ytijikeoehbllcaa.Wk
set_option linter.unusedVariables false
open Go.RowKit Go.Proofs.Ytijikeoehbllcaa.Aid
theorem together (x : Int) (h1 : -2147483648 ≤ x) (h2 : x ≤ 2147483647) : (wrap32 (hi x * 4096 + lo x) == x) = true := by
  obtain ⟨c, hc⟩ : ∃ c : Int, hi x = x / 4096 + x / 2048 % 2 + c * 1048576 := ⟨-((x / 4096 + x / 2048 % 2 + 524288) / 1048576), by simp only [hi, sx]; omega⟩
  have hl : lo x = x % 4096 - x / 2048 % 2 * 4096 := by simp only [lo, sx]; omega
  rw [hc, hl, beq_iff_eq]
  unfold wrap32
  omega
/-- Two instructions as a number. -/
theorem two_words (X Y : Int) (x0 : 0 ≤ X) (x1 : X < 4294967296) (y0 : 0 ≤ Y) (y1 : Y < 4294967296) : bits .or .i64 (wrap64 (Y * 4294967296)) X = wrap64 (Y * 4294967296 + X) := by
  rw [or_mid .i64 0 32 (by unfold wrap64; omega) (by omega) (by omega) (by omega) (by decide) (by decide), wrap_i64]
  unfold wrap64; omega
set_option maxRecDepth 100000 in
set_option maxHeartbeats 1600000 in
theorem pairI_in (s a p v A B X Y o : Int) (w : World) (hs : -2199023255552 ≤ s ∧ s < 2199023255552) (ha : -2199023255552 ≤ a ∧ a < 2199023255552) (hp : -2199023255552 ≤ p ∧ p < 2199023255552)
    (e1 : v % 4294967296 = A) (e2 : v / 4294967296 % 4294967296 = B) (t1 : -2147483648 ≤ s + a - p) (t2 : s + a - p ≤ 2147483647)
    (hX : bits .or .i64 (bits .andNot .i64 A 4294963200) (eU (hi (s + a - p)) % 4294967296) = X) (hY : bits .or .i64 (bits .andNot .i64 B 4293918720) (eI (lo (s + a - p)) % 4294967296) = Y)
    (hO : bits .or .i64 (wrap64 (Y * 4294967296)) X = o) :
    Calls Try.prog 31 #[.int .i64 58, .int .i64 s, .int .i64 a, .int .i64 p, .int .i64 v] w fun e w' => e = .returned (.tuple #[.int .i64 o, .int .i64 0, .bool true]) ∧ Ext w w' := by
  obtain ⟨hs1, hs2⟩ := hs
  obtain ⟨ha1, ha2⟩ := ha
  obtain ⟨hp1, hp2⟩ := hp
  obtain ⟨l1, l2⟩ := lo_in (s + a - p)
  obtain ⟨m1, m2⟩ := hi_in (s + a - p)
  have c := split_in (s + a - p) w t1 t2
  have d := fun W => encU_in (hi (s + a - p)) W m1 m2
  have f := fun W => encI_in (lo (s + a - p)) W l1 l2
  go_enter Try.func31, Try.ntmps31
  go_wp2_with (first | (go_at_call 39; ((with_reducible refine c.mono ?_); rintro e w' ⟨rfl, hx⟩)) | (go_at_call 40; ((with_reducible refine (d _).mono ?_); rintro e w' ⟨rfl, rfl⟩)) | (go_at_call 41; ((with_reducible refine (f _).mono ?_); rintro e w' ⟨rfl, rfl⟩)))
  go_ret3
  exact ⟨rfl, hx⟩
set_option maxRecDepth 100000 in
set_option maxHeartbeats 1600000 in
theorem pairS_in (s a p v A B X Y o : Int) (w : World) (hs : -2199023255552 ≤ s ∧ s < 2199023255552) (ha : -2199023255552 ≤ a ∧ a < 2199023255552) (hp : -2199023255552 ≤ p ∧ p < 2199023255552)
    (e1 : v % 4294967296 = A) (e2 : v / 4294967296 % 4294967296 = B) (t1 : -2147483648 ≤ s + a - p) (t2 : s + a - p ≤ 2147483647)
    (hX : bits .or .i64 (bits .andNot .i64 A 4294963200) (eU (hi (s + a - p)) % 4294967296) = X) (hY : bits .or .i64 (bits .andNot .i64 B 4261416832) (eS (lo (s + a - p)) % 4294967296) = Y)
    (hO : bits .or .i64 (wrap64 (Y * 4294967296)) X = o) :
    Calls Try.prog 31 #[.int .i64 61, .int .i64 s, .int .i64 a, .int .i64 p, .int .i64 v] w fun e w' => e = .returned (.tuple #[.int .i64 o, .int .i64 0, .bool true]) ∧ Ext w w' := by
  obtain ⟨hs1, hs2⟩ := hs
  obtain ⟨ha1, ha2⟩ := ha
  obtain ⟨hp1, hp2⟩ := hp
  obtain ⟨l1, l2⟩ := lo_in (s + a - p)
  obtain ⟨m1, m2⟩ := hi_in (s + a - p)
  have c := split_in (s + a - p) w t1 t2
  have d := fun W => encU_in (hi (s + a - p)) W m1 m2
  have f := fun W => encS_in (lo (s + a - p)) W l1 l2
  go_enter Try.func31, Try.ntmps31
  go_wp2_with (first | (go_at_call 39; ((with_reducible refine c.mono ?_); rintro e w' ⟨rfl, hx⟩)) | (go_at_call 40; ((with_reducible refine (d _).mono ?_); rintro e w' ⟨rfl, rfl⟩)) | (go_at_call 45; ((with_reducible refine (f _).mono ?_); rintro e w' ⟨rfl, rfl⟩)))
  go_ret3
  exact ⟨rfl, hx⟩
set_option maxRecDepth 100000 in
set_option maxHeartbeats 1600000 in
theorem pairI_bad (s a p v : Int) (w : World) (hs : -2199023255552 ≤ s ∧ s < 2199023255552) (ha : -2199023255552 ≤ a ∧ a < 2199023255552) (hp : -2199023255552 ≤ p ∧ p < 2199023255552)
    (ht : s + a - p < -2147483648 ∨ 2147483647 < s + a - p) :
    Calls Try.prog 31 #[.int .i64 58, .int .i64 s, .int .i64 a, .int .i64 p, .int .i64 v] w fun e w' => (∃ o, e = .returned (.tuple #[.int .i64 o, .int .i64 1, .bool true])) ∧ Ext w w' := by
  obtain ⟨hs1, hs2⟩ := hs
  obtain ⟨ha1, ha2⟩ := ha
  obtain ⟨hp1, hp2⟩ := hp
  have c := split_out (s + a - p) w ht
  have d := fun W => encU_in 0 W (by decide) (by decide)
  have f := fun W => encI_in 0 W (by decide) (by decide)
  clear ht
  go_enter Try.func31, Try.ntmps31
  go_wp2_with (first | (go_at_call 39; ((with_reducible refine c.mono ?_); rintro e w' ⟨⟨y, ⟨b, rfl⟩, rfl⟩, hx⟩)) | (go_at_call 40; ((with_reducible refine (d _).mono ?_); rintro e w' ⟨rfl, rfl⟩)) | (go_at_call 41; ((with_reducible refine (f _).mono ?_); rintro e w' ⟨rfl, rfl⟩)))
  go_ret3
  exact ⟨⟨_, rfl⟩, hx⟩
set_option maxRecDepth 100000 in
set_option maxHeartbeats 1600000 in
theorem pairS_bad (s a p v : Int) (w : World) (hs : -2199023255552 ≤ s ∧ s < 2199023255552) (ha : -2199023255552 ≤ a ∧ a < 2199023255552) (hp : -2199023255552 ≤ p ∧ p < 2199023255552)
    (ht : s + a - p < -2147483648 ∨ 2147483647 < s + a - p) :
    Calls Try.prog 31 #[.int .i64 61, .int .i64 s, .int .i64 a, .int .i64 p, .int .i64 v] w fun e w' => (∃ o, e = .returned (.tuple #[.int .i64 o, .int .i64 1, .bool true])) ∧ Ext w w' := by
  obtain ⟨hs1, hs2⟩ := hs
  obtain ⟨ha1, ha2⟩ := ha
  obtain ⟨hp1, hp2⟩ := hp
  have c := split_out (s + a - p) w ht
  have d := fun W => encU_in 0 W (by decide) (by decide)
  have f := fun W => encS_in 0 W (by decide) (by decide)
  clear ht
  go_enter Try.func31, Try.ntmps31
  go_wp2_with (first | (go_at_call 39; ((with_reducible refine c.mono ?_); rintro e w' ⟨⟨y, ⟨b, rfl⟩, rfl⟩, hx⟩)) | (go_at_call 40; ((with_reducible refine (d _).mono ?_); rintro e w' ⟨rfl, rfl⟩)) | (go_at_call 45; ((with_reducible refine (f _).mono ?_); rintro e w' ⟨rfl, rfl⟩)))
  go_ret3
  exact ⟨⟨_, rfl⟩, hx⟩
set_option maxRecDepth 100000 in
set_option maxHeartbeats 1600000 in
theorem hi20_in (s a p v o : Int) (w : World) (hs : -2199023255552 ≤ s ∧ s < 2199023255552) (ha : -2199023255552 ≤ a ∧ a < 2199023255552) (hp : -2199023255552 ≤ p ∧ p < 2199023255552)
    (v0 : 0 ≤ v) (v1 : v < 4294967296) (t1 : -2147483648 ≤ s + a - p) (t2 : s + a - p ≤ 2147483647)
    (hO : bits .or .i64 (bits .andNot .i64 v 4294963200) (eU (hi (s + a - p)) % 4294967296) = o) :
    Calls Try.prog 31 #[.int .i64 57, .int .i64 s, .int .i64 a, .int .i64 p, .int .i64 v] w fun e w' => e = .returned (.tuple #[.int .i64 o, .int .i64 0, .bool true]) ∧ Ext w w' := by
  obtain ⟨hs1, hs2⟩ := hs
  obtain ⟨ha1, ha2⟩ := ha
  obtain ⟨hp1, hp2⟩ := hp
  obtain ⟨l1, l2⟩ := lo_in (s + a - p)
  obtain ⟨m1, m2⟩ := hi_in (s + a - p)
  have c := split_in (s + a - p) w t1 t2
  have d := fun W => encU_in (hi (s + a - p)) W m1 m2
  go_enter Try.func31, Try.ntmps31
  go_wp2_with (first | (go_at_call 39; ((with_reducible refine c.mono ?_); rintro e w' ⟨rfl, hx⟩)) | (go_at_call 40; ((with_reducible refine (d _).mono ?_); rintro e w' ⟨rfl, rfl⟩)))
  go_ret3
  exact ⟨rfl, hx⟩
set_option maxRecDepth 100000 in
set_option maxHeartbeats 1600000 in
theorem lo12I_in (s a p v o : Int) (w : World) (hs : -2199023255552 ≤ s ∧ s < 2199023255552) (ha : -2199023255552 ≤ a ∧ a < 2199023255552) (hp : -2199023255552 ≤ p ∧ p < 2199023255552)
    (v0 : 0 ≤ v) (v1 : v < 4294967296) (t1 : -2147483648 ≤ s + a - p) (t2 : s + a - p ≤ 2147483647)
    (hO : bits .or .i64 (bits .andNot .i64 v 4293918720) (eI (lo (s + a - p)) % 4294967296) = o) :
    Calls Try.prog 31 #[.int .i64 59, .int .i64 s, .int .i64 a, .int .i64 p, .int .i64 v] w fun e w' => e = .returned (.tuple #[.int .i64 o, .int .i64 0, .bool true]) ∧ Ext w w' := by
  obtain ⟨hs1, hs2⟩ := hs
  obtain ⟨ha1, ha2⟩ := ha
  obtain ⟨hp1, hp2⟩ := hp
  obtain ⟨l1, l2⟩ := lo_in (s + a - p)
  obtain ⟨m1, m2⟩ := hi_in (s + a - p)
  have c := split_in (s + a - p) w t1 t2
  have d := fun W => encI_in (lo (s + a - p)) W l1 l2
  go_enter Try.func31, Try.ntmps31
  go_wp2_with (first | (go_at_call 39; ((with_reducible refine c.mono ?_); rintro e w' ⟨rfl, hx⟩)) | (go_at_call 41; ((with_reducible refine (d _).mono ?_); rintro e w' ⟨rfl, rfl⟩)))
  go_ret3
  exact ⟨rfl, hx⟩
set_option maxRecDepth 100000 in
set_option maxHeartbeats 1600000 in
theorem lo12S_in (s a p v o : Int) (w : World) (hs : -2199023255552 ≤ s ∧ s < 2199023255552) (ha : -2199023255552 ≤ a ∧ a < 2199023255552) (hp : -2199023255552 ≤ p ∧ p < 2199023255552)
    (v0 : 0 ≤ v) (v1 : v < 4294967296) (t1 : -2147483648 ≤ s + a - p) (t2 : s + a - p ≤ 2147483647)
    (hO : bits .or .i64 (bits .andNot .i64 v 4261416832) (eS (lo (s + a - p)) % 4294967296) = o) :
    Calls Try.prog 31 #[.int .i64 60, .int .i64 s, .int .i64 a, .int .i64 p, .int .i64 v] w fun e w' => e = .returned (.tuple #[.int .i64 o, .int .i64 0, .bool true]) ∧ Ext w w' := by
  obtain ⟨hs1, hs2⟩ := hs
  obtain ⟨ha1, ha2⟩ := ha
  obtain ⟨hp1, hp2⟩ := hp
  obtain ⟨l1, l2⟩ := lo_in (s + a - p)
  obtain ⟨m1, m2⟩ := hi_in (s + a - p)
  have c := split_in (s + a - p) w t1 t2
  have d := fun W => encS_in (lo (s + a - p)) W l1 l2
  go_enter Try.func31, Try.ntmps31
  go_wp2_with (first | (go_at_call 39; ((with_reducible refine c.mono ?_); rintro e w' ⟨rfl, hx⟩)) | (go_at_call 45; ((with_reducible refine (d _).mono ?_); rintro e w' ⟨rfl, rfl⟩)))
  go_ret3
  exact ⟨rfl, hx⟩
end Go.Proofs.Ytijikeoehbllcaa.Wk
