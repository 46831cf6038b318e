/- The law FnImmrot returns true: a number of 32 bits is told as eight bits that are turned to the right by twice a number of four bits, with bit 25 set, and 0 is told where there are none such: for every number of 32 bits; no condition. -/
import Derived.Test.YtcfeljdbjhamiaaImmRot
namespace Go.Proofs.Ytcfeljdbjhamiaa.Wk
set_option linter.unusedVariables false
open Go.RowKit Go.Proofs.Ytcfeljdbjhamiaa.Aid
theorem or0 (v : Int) (h0 : 0 ≤ v) (h1 : v < 4294967296) : bits .or .u32 (v % 4294967296) (v / 4294967296) = rot v 0 := by
  rw [show v % 4294967296 = v by omega, show v / 4294967296 = 0 by omega, or_eq, and_zero .u32 0 0 (by omega) (by decide) (by decide) (by decide) (by decide) (by decide), wrap_u32]; simp only [rot]; omega
theorem or1 (v : Int) (h0 : 0 ≤ v) (h1 : v < 4294967296) : bits .or .u32 (v * 4 % 4294967296) (v / 1073741824) = rot v 1 := by
  rw [joinu 2 (by omega) (by omega) (by omega) (by decide) (by omega) (by omega), rot1 v h0 h1]; omega
theorem or2 (v : Int) (h0 : 0 ≤ v) (h1 : v < 4294967296) : bits .or .u32 (v * 16 % 4294967296) (v / 268435456) = rot v 2 := by
  rw [joinu 4 (by omega) (by omega) (by omega) (by decide) (by omega) (by omega), rot2 v h0 h1]; omega
theorem or3 (v : Int) (h0 : 0 ≤ v) (h1 : v < 4294967296) : bits .or .u32 (v * 64 % 4294967296) (v / 67108864) = rot v 3 := by
  rw [joinu 6 (by omega) (by omega) (by omega) (by decide) (by omega) (by omega), rot3 v h0 h1]; omega
theorem or4 (v : Int) (h0 : 0 ≤ v) (h1 : v < 4294967296) : bits .or .u32 (v * 256 % 4294967296) (v / 16777216) = rot v 4 := by
  rw [joinu 8 (by omega) (by omega) (by omega) (by decide) (by omega) (by omega), rot4 v h0 h1]; omega
theorem or5 (v : Int) (h0 : 0 ≤ v) (h1 : v < 4294967296) : bits .or .u32 (v * 1024 % 4294967296) (v / 4194304) = rot v 5 := by
  rw [joinu 10 (by omega) (by omega) (by omega) (by decide) (by omega) (by omega), rot5 v h0 h1]; omega
theorem or6 (v : Int) (h0 : 0 ≤ v) (h1 : v < 4294967296) : bits .or .u32 (v * 4096 % 4294967296) (v / 1048576) = rot v 6 := by
  rw [joinu 12 (by omega) (by omega) (by omega) (by decide) (by omega) (by omega), rot6 v h0 h1]; omega
theorem or7 (v : Int) (h0 : 0 ≤ v) (h1 : v < 4294967296) : bits .or .u32 (v * 16384 % 4294967296) (v / 262144) = rot v 7 := by
  rw [joinu 14 (by omega) (by omega) (by omega) (by decide) (by omega) (by omega), rot7 v h0 h1]; omega
theorem or8 (v : Int) (h0 : 0 ≤ v) (h1 : v < 4294967296) : bits .or .u32 (v * 65536 % 4294967296) (v / 65536) = rot v 8 := by
  rw [joinu 16 (by omega) (by omega) (by omega) (by decide) (by omega) (by omega), rot8 v h0 h1]; omega
theorem or9 (v : Int) (h0 : 0 ≤ v) (h1 : v < 4294967296) : bits .or .u32 (v * 262144 % 4294967296) (v / 16384) = rot v 9 := by
  rw [joinu 18 (by omega) (by omega) (by omega) (by decide) (by omega) (by omega), rot9 v h0 h1]; omega
theorem or10 (v : Int) (h0 : 0 ≤ v) (h1 : v < 4294967296) : bits .or .u32 (v * 1048576 % 4294967296) (v / 4096) = rot v 10 := by
  rw [joinu 20 (by omega) (by omega) (by omega) (by decide) (by omega) (by omega), rot10 v h0 h1]; omega
theorem or11 (v : Int) (h0 : 0 ≤ v) (h1 : v < 4294967296) : bits .or .u32 (v * 4194304 % 4294967296) (v / 1024) = rot v 11 := by
  rw [joinu 22 (by omega) (by omega) (by omega) (by decide) (by omega) (by omega), rot11 v h0 h1]; omega
theorem or12 (v : Int) (h0 : 0 ≤ v) (h1 : v < 4294967296) : bits .or .u32 (v * 16777216 % 4294967296) (v / 256) = rot v 12 := by
  rw [joinu 24 (by omega) (by omega) (by omega) (by decide) (by omega) (by omega), rot12 v h0 h1]; omega
theorem or13 (v : Int) (h0 : 0 ≤ v) (h1 : v < 4294967296) : bits .or .u32 (v * 67108864 % 4294967296) (v / 64) = rot v 13 := by
  rw [joinu 26 (by omega) (by omega) (by omega) (by decide) (by omega) (by omega), rot13 v h0 h1]; omega
theorem or14 (v : Int) (h0 : 0 ≤ v) (h1 : v < 4294967296) : bits .or .u32 (v * 268435456 % 4294967296) (v / 16) = rot v 14 := by
  rw [joinu 28 (by omega) (by omega) (by omega) (by decide) (by omega) (by omega), rot14 v h0 h1]; omega
theorem or15 (v : Int) (h0 : 0 ≤ v) (h1 : v < 4294967296) : bits .or .u32 (v * 1073741824 % 4294967296) (v / 4) = rot v 15 := by
  rw [joinu 30 (by omega) (by omega) (by omega) (by decide) (by omega) (by omega), rot15 v h0 h1]; omega
theorem ea0 (x : Int) (h0 : 0 ≤ x) (h1 : x < 256) : bits .and .u32 ((33554432 + x) / 256) 15 = 0 := by rw [segu 4 _ _ (by decide) (by decide)]; omega
theorem eb0 (x : Int) (h0 : 0 ≤ x) (h1 : x < 256) : bits .andNot .u32 (33554432 + x) 4095 = 33554432 := by rw [andNot_eq, segu 12 _ _ (by decide) (by decide), wrap_u32]; omega
theorem ec0 (x : Int) (h0 : 0 ≤ x) (h1 : x < 256) : bits .and .u32 (33554432 + x) 255 = x := by rw [segu 8 _ _ (by decide) (by decide)]; omega
theorem back0 (v : Int) (h0 : 0 ≤ v) (h1 : v < 4294967296) : bits .or .u32 v 0 = v := by
  have h := or0 v h0 h1
  rw [show v % 4294967296 = v by omega, show v / 4294967296 = 0 by omega] at h; exact h
theorem ea1 (x : Int) (h0 : 0 ≤ x) (h1 : x < 256) : bits .and .u32 ((33554688 + x) / 256) 15 = 1 := by rw [segu 4 _ _ (by decide) (by decide)]; omega
theorem eb1 (x : Int) (h0 : 0 ≤ x) (h1 : x < 256) : bits .andNot .u32 (33554688 + x) 4095 = 33554432 := by rw [andNot_eq, segu 12 _ _ (by decide) (by decide), wrap_u32]; omega
theorem ec1 (x : Int) (h0 : 0 ≤ x) (h1 : x < 256) : bits .and .u32 (33554688 + x) 255 = x := by rw [segu 8 _ _ (by decide) (by decide)]; omega
theorem back1 (v : Int) (h0 : 0 ≤ v) (h1 : v < 4294967296) (hb : rot v 1 < 256) : bits .or .u32 (rot v 1 / 4) (rot v 1 * 1073741824 % 4294967296) = v := by
  rw [rot1 v h0 h1] at hb ⊢
  have e1 : (v % 1073741824 * 4 + v / 1073741824) / 4 = v % 1073741824 := by omega
  have e2 : (v % 1073741824 * 4 + v / 1073741824) * 1073741824 % 4294967296 = v / 1073741824 * 1073741824 := by omega
  rw [e1, e2, or_comm', joinu 30 (by omega) (by omega) (by omega) (by decide) (by omega) (by omega)]; omega
theorem ea2 (x : Int) (h0 : 0 ≤ x) (h1 : x < 256) : bits .and .u32 ((33554944 + x) / 256) 15 = 2 := by rw [segu 4 _ _ (by decide) (by decide)]; omega
theorem eb2 (x : Int) (h0 : 0 ≤ x) (h1 : x < 256) : bits .andNot .u32 (33554944 + x) 4095 = 33554432 := by rw [andNot_eq, segu 12 _ _ (by decide) (by decide), wrap_u32]; omega
theorem ec2 (x : Int) (h0 : 0 ≤ x) (h1 : x < 256) : bits .and .u32 (33554944 + x) 255 = x := by rw [segu 8 _ _ (by decide) (by decide)]; omega
theorem back2 (v : Int) (h0 : 0 ≤ v) (h1 : v < 4294967296) (hb : rot v 2 < 256) : bits .or .u32 (rot v 2 / 16) (rot v 2 * 268435456 % 4294967296) = v := by
  rw [rot2 v h0 h1] at hb ⊢
  have e1 : (v % 268435456 * 16 + v / 268435456) / 16 = v % 268435456 := by omega
  have e2 : (v % 268435456 * 16 + v / 268435456) * 268435456 % 4294967296 = v / 268435456 * 268435456 := by omega
  rw [e1, e2, or_comm', joinu 28 (by omega) (by omega) (by omega) (by decide) (by omega) (by omega)]; omega
theorem ea3 (x : Int) (h0 : 0 ≤ x) (h1 : x < 256) : bits .and .u32 ((33555200 + x) / 256) 15 = 3 := by rw [segu 4 _ _ (by decide) (by decide)]; omega
theorem eb3 (x : Int) (h0 : 0 ≤ x) (h1 : x < 256) : bits .andNot .u32 (33555200 + x) 4095 = 33554432 := by rw [andNot_eq, segu 12 _ _ (by decide) (by decide), wrap_u32]; omega
theorem ec3 (x : Int) (h0 : 0 ≤ x) (h1 : x < 256) : bits .and .u32 (33555200 + x) 255 = x := by rw [segu 8 _ _ (by decide) (by decide)]; omega
theorem back3 (v : Int) (h0 : 0 ≤ v) (h1 : v < 4294967296) (hb : rot v 3 < 256) : bits .or .u32 (rot v 3 / 64) (rot v 3 * 67108864 % 4294967296) = v := by
  rw [rot3 v h0 h1] at hb ⊢
  have e1 : (v % 67108864 * 64 + v / 67108864) / 64 = v % 67108864 := by omega
  have e2 : (v % 67108864 * 64 + v / 67108864) * 67108864 % 4294967296 = v / 67108864 * 67108864 := by omega
  rw [e1, e2, or_comm', joinu 26 (by omega) (by omega) (by omega) (by decide) (by omega) (by omega)]; omega
theorem ea4 (x : Int) (h0 : 0 ≤ x) (h1 : x < 256) : bits .and .u32 ((33555456 + x) / 256) 15 = 4 := by rw [segu 4 _ _ (by decide) (by decide)]; omega
theorem eb4 (x : Int) (h0 : 0 ≤ x) (h1 : x < 256) : bits .andNot .u32 (33555456 + x) 4095 = 33554432 := by rw [andNot_eq, segu 12 _ _ (by decide) (by decide), wrap_u32]; omega
theorem ec4 (x : Int) (h0 : 0 ≤ x) (h1 : x < 256) : bits .and .u32 (33555456 + x) 255 = x := by rw [segu 8 _ _ (by decide) (by decide)]; omega
theorem back4 (v : Int) (h0 : 0 ≤ v) (h1 : v < 4294967296) (hb : rot v 4 < 256) : bits .or .u32 (rot v 4 / 256) (rot v 4 * 16777216 % 4294967296) = v := by
  rw [rot4 v h0 h1] at hb ⊢
  have e1 : (v % 16777216 * 256 + v / 16777216) / 256 = v % 16777216 := by omega
  have e2 : (v % 16777216 * 256 + v / 16777216) * 16777216 % 4294967296 = v / 16777216 * 16777216 := by omega
  rw [e1, e2, or_comm', joinu 24 (by omega) (by omega) (by omega) (by decide) (by omega) (by omega)]; omega
theorem ea5 (x : Int) (h0 : 0 ≤ x) (h1 : x < 256) : bits .and .u32 ((33555712 + x) / 256) 15 = 5 := by rw [segu 4 _ _ (by decide) (by decide)]; omega
theorem eb5 (x : Int) (h0 : 0 ≤ x) (h1 : x < 256) : bits .andNot .u32 (33555712 + x) 4095 = 33554432 := by rw [andNot_eq, segu 12 _ _ (by decide) (by decide), wrap_u32]; omega
theorem ec5 (x : Int) (h0 : 0 ≤ x) (h1 : x < 256) : bits .and .u32 (33555712 + x) 255 = x := by rw [segu 8 _ _ (by decide) (by decide)]; omega
theorem back5 (v : Int) (h0 : 0 ≤ v) (h1 : v < 4294967296) (hb : rot v 5 < 256) : bits .or .u32 (rot v 5 / 1024) (rot v 5 * 4194304 % 4294967296) = v := by
  rw [rot5 v h0 h1] at hb ⊢
  have e1 : (v % 4194304 * 1024 + v / 4194304) / 1024 = v % 4194304 := by omega
  have e2 : (v % 4194304 * 1024 + v / 4194304) * 4194304 % 4294967296 = v / 4194304 * 4194304 := by omega
  rw [e1, e2, or_comm', joinu 22 (by omega) (by omega) (by omega) (by decide) (by omega) (by omega)]; omega
theorem ea6 (x : Int) (h0 : 0 ≤ x) (h1 : x < 256) : bits .and .u32 ((33555968 + x) / 256) 15 = 6 := by rw [segu 4 _ _ (by decide) (by decide)]; omega
theorem eb6 (x : Int) (h0 : 0 ≤ x) (h1 : x < 256) : bits .andNot .u32 (33555968 + x) 4095 = 33554432 := by rw [andNot_eq, segu 12 _ _ (by decide) (by decide), wrap_u32]; omega
theorem ec6 (x : Int) (h0 : 0 ≤ x) (h1 : x < 256) : bits .and .u32 (33555968 + x) 255 = x := by rw [segu 8 _ _ (by decide) (by decide)]; omega
theorem back6 (v : Int) (h0 : 0 ≤ v) (h1 : v < 4294967296) (hb : rot v 6 < 256) : bits .or .u32 (rot v 6 / 4096) (rot v 6 * 1048576 % 4294967296) = v := by
  rw [rot6 v h0 h1] at hb ⊢
  have e1 : (v % 1048576 * 4096 + v / 1048576) / 4096 = v % 1048576 := by omega
  have e2 : (v % 1048576 * 4096 + v / 1048576) * 1048576 % 4294967296 = v / 1048576 * 1048576 := by omega
  rw [e1, e2, or_comm', joinu 20 (by omega) (by omega) (by omega) (by decide) (by omega) (by omega)]; omega
theorem ea7 (x : Int) (h0 : 0 ≤ x) (h1 : x < 256) : bits .and .u32 ((33556224 + x) / 256) 15 = 7 := by rw [segu 4 _ _ (by decide) (by decide)]; omega
theorem eb7 (x : Int) (h0 : 0 ≤ x) (h1 : x < 256) : bits .andNot .u32 (33556224 + x) 4095 = 33554432 := by rw [andNot_eq, segu 12 _ _ (by decide) (by decide), wrap_u32]; omega
theorem ec7 (x : Int) (h0 : 0 ≤ x) (h1 : x < 256) : bits .and .u32 (33556224 + x) 255 = x := by rw [segu 8 _ _ (by decide) (by decide)]; omega
theorem back7 (v : Int) (h0 : 0 ≤ v) (h1 : v < 4294967296) (hb : rot v 7 < 256) : bits .or .u32 (rot v 7 / 16384) (rot v 7 * 262144 % 4294967296) = v := by
  rw [rot7 v h0 h1] at hb ⊢
  have e1 : (v % 262144 * 16384 + v / 262144) / 16384 = v % 262144 := by omega
  have e2 : (v % 262144 * 16384 + v / 262144) * 262144 % 4294967296 = v / 262144 * 262144 := by omega
  rw [e1, e2, or_comm', joinu 18 (by omega) (by omega) (by omega) (by decide) (by omega) (by omega)]; omega
theorem ea8 (x : Int) (h0 : 0 ≤ x) (h1 : x < 256) : bits .and .u32 ((33556480 + x) / 256) 15 = 8 := by rw [segu 4 _ _ (by decide) (by decide)]; omega
theorem eb8 (x : Int) (h0 : 0 ≤ x) (h1 : x < 256) : bits .andNot .u32 (33556480 + x) 4095 = 33554432 := by rw [andNot_eq, segu 12 _ _ (by decide) (by decide), wrap_u32]; omega
theorem ec8 (x : Int) (h0 : 0 ≤ x) (h1 : x < 256) : bits .and .u32 (33556480 + x) 255 = x := by rw [segu 8 _ _ (by decide) (by decide)]; omega
theorem back8 (v : Int) (h0 : 0 ≤ v) (h1 : v < 4294967296) (hb : rot v 8 < 256) : bits .or .u32 (rot v 8 / 65536) (rot v 8 * 65536 % 4294967296) = v := by
  rw [rot8 v h0 h1] at hb ⊢
  have e1 : (v % 65536 * 65536 + v / 65536) / 65536 = v % 65536 := by omega
  have e2 : (v % 65536 * 65536 + v / 65536) * 65536 % 4294967296 = v / 65536 * 65536 := by omega
  rw [e1, e2, or_comm', joinu 16 (by omega) (by omega) (by omega) (by decide) (by omega) (by omega)]; omega
theorem ea9 (x : Int) (h0 : 0 ≤ x) (h1 : x < 256) : bits .and .u32 ((33556736 + x) / 256) 15 = 9 := by rw [segu 4 _ _ (by decide) (by decide)]; omega
theorem eb9 (x : Int) (h0 : 0 ≤ x) (h1 : x < 256) : bits .andNot .u32 (33556736 + x) 4095 = 33554432 := by rw [andNot_eq, segu 12 _ _ (by decide) (by decide), wrap_u32]; omega
theorem ec9 (x : Int) (h0 : 0 ≤ x) (h1 : x < 256) : bits .and .u32 (33556736 + x) 255 = x := by rw [segu 8 _ _ (by decide) (by decide)]; omega
theorem back9 (v : Int) (h0 : 0 ≤ v) (h1 : v < 4294967296) (hb : rot v 9 < 256) : bits .or .u32 (rot v 9 / 262144) (rot v 9 * 16384 % 4294967296) = v := by
  rw [rot9 v h0 h1] at hb ⊢
  have e1 : (v % 16384 * 262144 + v / 16384) / 262144 = v % 16384 := by omega
  have e2 : (v % 16384 * 262144 + v / 16384) * 16384 % 4294967296 = v / 16384 * 16384 := by omega
  rw [e1, e2, or_comm', joinu 14 (by omega) (by omega) (by omega) (by decide) (by omega) (by omega)]; omega
theorem ea10 (x : Int) (h0 : 0 ≤ x) (h1 : x < 256) : bits .and .u32 ((33556992 + x) / 256) 15 = 10 := by rw [segu 4 _ _ (by decide) (by decide)]; omega
theorem eb10 (x : Int) (h0 : 0 ≤ x) (h1 : x < 256) : bits .andNot .u32 (33556992 + x) 4095 = 33554432 := by rw [andNot_eq, segu 12 _ _ (by decide) (by decide), wrap_u32]; omega
theorem ec10 (x : Int) (h0 : 0 ≤ x) (h1 : x < 256) : bits .and .u32 (33556992 + x) 255 = x := by rw [segu 8 _ _ (by decide) (by decide)]; omega
theorem back10 (v : Int) (h0 : 0 ≤ v) (h1 : v < 4294967296) (hb : rot v 10 < 256) : bits .or .u32 (rot v 10 / 1048576) (rot v 10 * 4096 % 4294967296) = v := by
  rw [rot10 v h0 h1] at hb ⊢
  have e1 : (v % 4096 * 1048576 + v / 4096) / 1048576 = v % 4096 := by omega
  have e2 : (v % 4096 * 1048576 + v / 4096) * 4096 % 4294967296 = v / 4096 * 4096 := by omega
  rw [e1, e2, or_comm', joinu 12 (by omega) (by omega) (by omega) (by decide) (by omega) (by omega)]; omega
theorem ea11 (x : Int) (h0 : 0 ≤ x) (h1 : x < 256) : bits .and .u32 ((33557248 + x) / 256) 15 = 11 := by rw [segu 4 _ _ (by decide) (by decide)]; omega
theorem eb11 (x : Int) (h0 : 0 ≤ x) (h1 : x < 256) : bits .andNot .u32 (33557248 + x) 4095 = 33554432 := by rw [andNot_eq, segu 12 _ _ (by decide) (by decide), wrap_u32]; omega
theorem ec11 (x : Int) (h0 : 0 ≤ x) (h1 : x < 256) : bits .and .u32 (33557248 + x) 255 = x := by rw [segu 8 _ _ (by decide) (by decide)]; omega
theorem back11 (v : Int) (h0 : 0 ≤ v) (h1 : v < 4294967296) (hb : rot v 11 < 256) : bits .or .u32 (rot v 11 / 4194304) (rot v 11 * 1024 % 4294967296) = v := by
  rw [rot11 v h0 h1] at hb ⊢
  have e1 : (v % 1024 * 4194304 + v / 1024) / 4194304 = v % 1024 := by omega
  have e2 : (v % 1024 * 4194304 + v / 1024) * 1024 % 4294967296 = v / 1024 * 1024 := by omega
  rw [e1, e2, or_comm', joinu 10 (by omega) (by omega) (by omega) (by decide) (by omega) (by omega)]; omega
theorem ea12 (x : Int) (h0 : 0 ≤ x) (h1 : x < 256) : bits .and .u32 ((33557504 + x) / 256) 15 = 12 := by rw [segu 4 _ _ (by decide) (by decide)]; omega
theorem eb12 (x : Int) (h0 : 0 ≤ x) (h1 : x < 256) : bits .andNot .u32 (33557504 + x) 4095 = 33554432 := by rw [andNot_eq, segu 12 _ _ (by decide) (by decide), wrap_u32]; omega
theorem ec12 (x : Int) (h0 : 0 ≤ x) (h1 : x < 256) : bits .and .u32 (33557504 + x) 255 = x := by rw [segu 8 _ _ (by decide) (by decide)]; omega
theorem back12 (v : Int) (h0 : 0 ≤ v) (h1 : v < 4294967296) (hb : rot v 12 < 256) : bits .or .u32 (rot v 12 / 16777216) (rot v 12 * 256 % 4294967296) = v := by
  rw [rot12 v h0 h1] at hb ⊢
  have e1 : (v % 256 * 16777216 + v / 256) / 16777216 = v % 256 := by omega
  have e2 : (v % 256 * 16777216 + v / 256) * 256 % 4294967296 = v / 256 * 256 := by omega
  rw [e1, e2, or_comm', joinu 8 (by omega) (by omega) (by omega) (by decide) (by omega) (by omega)]; omega
theorem ea13 (x : Int) (h0 : 0 ≤ x) (h1 : x < 256) : bits .and .u32 ((33557760 + x) / 256) 15 = 13 := by rw [segu 4 _ _ (by decide) (by decide)]; omega
theorem eb13 (x : Int) (h0 : 0 ≤ x) (h1 : x < 256) : bits .andNot .u32 (33557760 + x) 4095 = 33554432 := by rw [andNot_eq, segu 12 _ _ (by decide) (by decide), wrap_u32]; omega
theorem ec13 (x : Int) (h0 : 0 ≤ x) (h1 : x < 256) : bits .and .u32 (33557760 + x) 255 = x := by rw [segu 8 _ _ (by decide) (by decide)]; omega
theorem back13 (v : Int) (h0 : 0 ≤ v) (h1 : v < 4294967296) (hb : rot v 13 < 256) : bits .or .u32 (rot v 13 / 67108864) (rot v 13 * 64 % 4294967296) = v := by
  rw [rot13 v h0 h1] at hb ⊢
  have e1 : (v % 64 * 67108864 + v / 64) / 67108864 = v % 64 := by omega
  have e2 : (v % 64 * 67108864 + v / 64) * 64 % 4294967296 = v / 64 * 64 := by omega
  rw [e1, e2, or_comm', joinu 6 (by omega) (by omega) (by omega) (by decide) (by omega) (by omega)]; omega
theorem ea14 (x : Int) (h0 : 0 ≤ x) (h1 : x < 256) : bits .and .u32 ((33558016 + x) / 256) 15 = 14 := by rw [segu 4 _ _ (by decide) (by decide)]; omega
theorem eb14 (x : Int) (h0 : 0 ≤ x) (h1 : x < 256) : bits .andNot .u32 (33558016 + x) 4095 = 33554432 := by rw [andNot_eq, segu 12 _ _ (by decide) (by decide), wrap_u32]; omega
theorem ec14 (x : Int) (h0 : 0 ≤ x) (h1 : x < 256) : bits .and .u32 (33558016 + x) 255 = x := by rw [segu 8 _ _ (by decide) (by decide)]; omega
theorem back14 (v : Int) (h0 : 0 ≤ v) (h1 : v < 4294967296) (hb : rot v 14 < 256) : bits .or .u32 (rot v 14 / 268435456) (rot v 14 * 16 % 4294967296) = v := by
  rw [rot14 v h0 h1] at hb ⊢
  have e1 : (v % 16 * 268435456 + v / 16) / 268435456 = v % 16 := by omega
  have e2 : (v % 16 * 268435456 + v / 16) * 16 % 4294967296 = v / 16 * 16 := by omega
  rw [e1, e2, or_comm', joinu 4 (by omega) (by omega) (by omega) (by decide) (by omega) (by omega)]; omega
theorem ea15 (x : Int) (h0 : 0 ≤ x) (h1 : x < 256) : bits .and .u32 ((33558272 + x) / 256) 15 = 15 := by rw [segu 4 _ _ (by decide) (by decide)]; omega
theorem eb15 (x : Int) (h0 : 0 ≤ x) (h1 : x < 256) : bits .andNot .u32 (33558272 + x) 4095 = 33554432 := by rw [andNot_eq, segu 12 _ _ (by decide) (by decide), wrap_u32]; omega
theorem ec15 (x : Int) (h0 : 0 ≤ x) (h1 : x < 256) : bits .and .u32 (33558272 + x) 255 = x := by rw [segu 8 _ _ (by decide) (by decide)]; omega
theorem back15 (v : Int) (h0 : 0 ≤ v) (h1 : v < 4294967296) (hb : rot v 15 < 256) : bits .or .u32 (rot v 15 / 1073741824) (rot v 15 * 4 % 4294967296) = v := by
  rw [rot15 v h0 h1] at hb ⊢
  have e1 : (v % 4 * 1073741824 + v / 4) / 1073741824 = v % 4 := by omega
  have e2 : (v % 4 * 1073741824 + v / 4) * 4 % 4294967296 = v / 4 * 4 := by omega
  rw [e1, e2, or_comm', joinu 2 (by omega) (by omega) (by omega) (by decide) (by omega) (by omega)]; omega
end Go.Proofs.Ytcfeljdbjhamiaa.Wk
