/-
  The six bounds on total length ('zzBytes_..'): each returns some bool and turns nothing. Written by a program of mine. By an AI agent.
-/
import Derived.Test.Qxb6601557aBase
namespace Go.Proofs.Qxb6601557a
open Go.RowKit

structure SomeBool (w : World) (e : Ending) (w' : World) : Prop where
  ret : ∃ r, e = .returned (.bool r)
  same : w' = w

set_option maxHeartbeats 1000000 in
theorem bytes34_any (S : Nat → Prop) (a : Option Addr) (n cap : Nat) (d : Nat → Nat) (A : Nat → Nat → Int) (w : World) (hbig : n ≤ 17592186044416) (hr : RdAdj S w a n d A) (a1 : Option Addr) (n1 c1 : Nat) (a2 : Option Addr) (n2 c2 : Nat) (a3 : Option Addr) (n3 c3 : Nat) (h1 : n1 ≤ 140737488355328) (h2 : n2 ≤ 140737488355328) (h3 : n3 ≤ 140737488355328) :
    Calls Try.prog 34 #[.slice a n cap, .slice a1 n1 c1, .slice a2 n2 c2, .slice a3 n3 c3] w (SomeBool w) := by
  by_cases hn : n ≤ 1048576
  · go_enter Try.func34, Try.ntmps34
    go_wp2_with fail
    go_loop [9, 10] (fun t i => ∃ (k : Nat) (m : Int), k ≤ n ∧ i = .int .i64 k ∧ t = .int .i64 m ∧ 0 ≤ m ∧ m ≤ 1048576)
      (fun _ i => n - (intOf i).toNat)
    case atStart => exact ⟨0, _, Nat.zero_le _, rfl, rfl, by omega, by omega⟩
    case round =>
      obtain ⟨k, m, hk, rfl, rfl, hm0, hm1⟩ := hrel
      by_cases hlt : k < n
      · obtain ⟨b, off, ra, rc, rfl, hSb, hcell, hdm, hrow⟩ := hr k hlt
        clear hrow
        by_cases hdk : d k ≤ 1048576
        · by_cases hsum : m + (d k : Int) ≤ 1048576
          · go_wp2_with fail
            go_round
            case rel => exact ⟨k + 1, m + d k, by omega, by go_num, rfl, by omega, by omega⟩
            case measure => simp [intOf]; omega
          · go_wp2_with fail
            go_ret
            exact ⟨⟨_, rfl⟩, rfl⟩
        · go_wp2_with fail
          go_ret
          exact ⟨⟨_, rfl⟩, rfl⟩
      · obtain rfl : k = n := by omega
        go_wp2_with fail
        all_goals (go_ret; exact ⟨⟨_, rfl⟩, rfl⟩)
  · go_enter Try.func34, Try.ntmps34
    go_wp2_with fail
    go_ret
    exact ⟨⟨_, rfl⟩, rfl⟩

set_option maxHeartbeats 1000000 in
theorem bytes40_any (S : Nat → Prop) (a : Option Addr) (n cap : Nat) (d : Nat → Nat) (A : Nat → Nat → Int) (w : World) (hbig : n ≤ 17592186044416) (hr : RdAdj S w a n d A) (a1 : Option Addr) (n1 c1 : Nat) (a2 : Option Addr) (n2 c2 : Nat) (a3 : Option Addr) (n3 c3 : Nat) (h1 : n1 ≤ 140737488355328) (h2 : n2 ≤ 140737488355328) (h3 : n3 ≤ 140737488355328) :
    Calls Try.prog 40 #[.slice a n cap, .slice a1 n1 c1, .slice a2 n2 c2, .slice a3 n3 c3] w (SomeBool w) := by
  by_cases hn : n ≤ 1048576
  · go_enter Try.func40, Try.ntmps40
    go_wp2_with fail
    go_loop [9, 10] (fun t i => ∃ (k : Nat) (m : Int), k ≤ n ∧ i = .int .i64 k ∧ t = .int .i64 m ∧ 0 ≤ m ∧ m ≤ 1048576)
      (fun _ i => n - (intOf i).toNat)
    case atStart => exact ⟨0, _, Nat.zero_le _, rfl, rfl, by omega, by omega⟩
    case round =>
      obtain ⟨k, m, hk, rfl, rfl, hm0, hm1⟩ := hrel
      by_cases hlt : k < n
      · obtain ⟨b, off, ra, rc, rfl, hSb, hcell, hdm, hrow⟩ := hr k hlt
        clear hrow
        by_cases hdk : d k ≤ 1048576
        · by_cases hsum : m + (d k : Int) ≤ 1048576
          · go_wp2_with fail
            go_round
            case rel => exact ⟨k + 1, m + d k, by omega, by go_num, rfl, by omega, by omega⟩
            case measure => simp [intOf]; omega
          · go_wp2_with fail
            go_ret
            exact ⟨⟨_, rfl⟩, rfl⟩
        · go_wp2_with fail
          go_ret
          exact ⟨⟨_, rfl⟩, rfl⟩
      · obtain rfl : k = n := by omega
        go_wp2_with fail
        all_goals (go_ret; exact ⟨⟨_, rfl⟩, rfl⟩)
  · go_enter Try.func40, Try.ntmps40
    go_wp2_with fail
    go_ret
    exact ⟨⟨_, rfl⟩, rfl⟩

set_option maxHeartbeats 1000000 in
theorem bytes24_any (S : Nat → Prop) (a : Option Addr) (n cap : Nat) (d : Nat → Nat) (A : Nat → Nat → Int) (w : World) (hbig : n ≤ 17592186044416) (hr : RdAdj S w a n d A) (a1 : Option Addr) (n1 c1 : Nat) (a2 : Option Addr) (n2 c2 : Nat) (x3 : Int) (h1 : n1 ≤ 140737488355328) (h2 : n2 ≤ 140737488355328) :
    Calls Try.prog 24 #[.slice a n cap, .slice a1 n1 c1, .slice a2 n2 c2, .int .i64 x3] w (SomeBool w) := by
  by_cases hn : n ≤ 1048576
  · go_enter Try.func24, Try.ntmps24
    go_wp2_with fail
    go_loop [9, 10] (fun t i => ∃ (k : Nat) (m : Int), k ≤ n ∧ i = .int .i64 k ∧ t = .int .i64 m ∧ 0 ≤ m ∧ m ≤ 1048576)
      (fun _ i => n - (intOf i).toNat)
    case atStart => exact ⟨0, _, Nat.zero_le _, rfl, rfl, by omega, by omega⟩
    case round =>
      obtain ⟨k, m, hk, rfl, rfl, hm0, hm1⟩ := hrel
      by_cases hlt : k < n
      · obtain ⟨b, off, ra, rc, rfl, hSb, hcell, hdm, hrow⟩ := hr k hlt
        clear hrow
        by_cases hdk : d k ≤ 1048576
        · by_cases hsum : m + (d k : Int) ≤ 1048576
          · go_wp2_with fail
            go_round
            case rel => exact ⟨k + 1, m + d k, by omega, by go_num, rfl, by omega, by omega⟩
            case measure => simp [intOf]; omega
          · go_wp2_with fail
            go_ret
            exact ⟨⟨_, rfl⟩, rfl⟩
        · go_wp2_with fail
          go_ret
          exact ⟨⟨_, rfl⟩, rfl⟩
      · obtain rfl : k = n := by omega
        go_wp2_with fail
        all_goals (go_ret; exact ⟨⟨_, rfl⟩, rfl⟩)
  · go_enter Try.func24, Try.ntmps24
    go_wp2_with fail
    go_ret
    exact ⟨⟨_, rfl⟩, rfl⟩

set_option maxHeartbeats 1000000 in
theorem bytes28_any (S : Nat → Prop) (a : Option Addr) (n cap : Nat) (d : Nat → Nat) (A : Nat → Nat → Int) (w : World) (hbig : n ≤ 17592186044416) (hr : RdAdj S w a n d A) (a1 : Option Addr) (n1 c1 : Nat) (a2 : Option Addr) (n2 c2 : Nat) (x3 : Int) (a4 : Option Addr) (n4 c4 : Nat) (a5 : Option Addr) (n5 c5 : Nat) (h1 : n1 ≤ 140737488355328) (h2 : n2 ≤ 140737488355328) (h4 : n4 ≤ 140737488355328) (h5 : n5 ≤ 140737488355328) :
    Calls Try.prog 28 #[.slice a n cap, .slice a1 n1 c1, .slice a2 n2 c2, .int .i64 x3, .slice a4 n4 c4, .slice a5 n5 c5] w (SomeBool w) := by
  by_cases hn : n ≤ 1048576
  · go_enter Try.func28, Try.ntmps28
    go_wp2_with fail
    go_loop [13, 14] (fun t i => ∃ (k : Nat) (m : Int), k ≤ n ∧ i = .int .i64 k ∧ t = .int .i64 m ∧ 0 ≤ m ∧ m ≤ 1048576)
      (fun _ i => n - (intOf i).toNat)
    case atStart => exact ⟨0, _, Nat.zero_le _, rfl, rfl, by omega, by omega⟩
    case round =>
      obtain ⟨k, m, hk, rfl, rfl, hm0, hm1⟩ := hrel
      by_cases hlt : k < n
      · obtain ⟨b, off, ra, rc, rfl, hSb, hcell, hdm, hrow⟩ := hr k hlt
        clear hrow
        by_cases hdk : d k ≤ 1048576
        · by_cases hsum : m + (d k : Int) ≤ 1048576
          · go_wp2_with fail
            go_round
            case rel => exact ⟨k + 1, m + d k, by omega, by go_num, rfl, by omega, by omega⟩
            case measure => simp [intOf]; omega
          · go_wp2_with fail
            go_ret
            exact ⟨⟨_, rfl⟩, rfl⟩
        · go_wp2_with fail
          go_ret
          exact ⟨⟨_, rfl⟩, rfl⟩
      · obtain rfl : k = n := by omega
        go_wp2_with fail
        all_goals (go_ret; exact ⟨⟨_, rfl⟩, rfl⟩)
  · go_enter Try.func28, Try.ntmps28
    go_wp2_with fail
    go_ret
    exact ⟨⟨_, rfl⟩, rfl⟩

set_option maxHeartbeats 1000000 in
theorem bytes36_any (S : Nat → Prop) (a : Option Addr) (n cap : Nat) (d : Nat → Nat) (A : Nat → Nat → Int) (w : World) (hbig : n ≤ 17592186044416) (hr : RdAdj S w a n d A) (a1 : Option Addr) (n1 c1 : Nat) (a2 : Option Addr) (n2 c2 : Nat) (x3 : Int) (a4 : Option Addr) (n4 c4 : Nat) (a5 : Option Addr) (n5 c5 : Nat) (a6 : Option Addr) (n6 c6 : Nat) (h1 : n1 ≤ 140737488355328) (h2 : n2 ≤ 140737488355328) (h4 : n4 ≤ 140737488355328) (h5 : n5 ≤ 140737488355328) (h6 : n6 ≤ 140737488355328) :
    Calls Try.prog 36 #[.slice a n cap, .slice a1 n1 c1, .slice a2 n2 c2, .int .i64 x3, .slice a4 n4 c4, .slice a5 n5 c5, .slice a6 n6 c6] w (SomeBool w) := by
  by_cases hn : n ≤ 1048576
  · go_enter Try.func36, Try.ntmps36
    go_wp2_with fail
    go_loop [15, 16] (fun t i => ∃ (k : Nat) (m : Int), k ≤ n ∧ i = .int .i64 k ∧ t = .int .i64 m ∧ 0 ≤ m ∧ m ≤ 1048576)
      (fun _ i => n - (intOf i).toNat)
    case atStart => exact ⟨0, _, Nat.zero_le _, rfl, rfl, by omega, by omega⟩
    case round =>
      obtain ⟨k, m, hk, rfl, rfl, hm0, hm1⟩ := hrel
      by_cases hlt : k < n
      · obtain ⟨b, off, ra, rc, rfl, hSb, hcell, hdm, hrow⟩ := hr k hlt
        clear hrow
        by_cases hdk : d k ≤ 1048576
        · by_cases hsum : m + (d k : Int) ≤ 1048576
          · go_wp2_with fail
            go_round
            case rel => exact ⟨k + 1, m + d k, by omega, by go_num, rfl, by omega, by omega⟩
            case measure => simp [intOf]; omega
          · go_wp2_with fail
            go_ret
            exact ⟨⟨_, rfl⟩, rfl⟩
        · go_wp2_with fail
          go_ret
          exact ⟨⟨_, rfl⟩, rfl⟩
      · obtain rfl : k = n := by omega
        go_wp2_with fail
        all_goals (go_ret; exact ⟨⟨_, rfl⟩, rfl⟩)
  · go_enter Try.func36, Try.ntmps36
    go_wp2_with fail
    go_ret
    exact ⟨⟨_, rfl⟩, rfl⟩

set_option maxHeartbeats 1000000 in
theorem bytes10_any (S : Nat → Prop) (a : Option Addr) (n cap : Nat) (d : Nat → Nat) (A : Nat → Nat → Int) (w : World) (hbig : n ≤ 17592186044416) (hr : RdAdj S w a n d A) (a1 : Option Addr) (n1 c1 : Nat) (a2 : Option Addr) (n2 c2 : Nat) (a3 : Option Addr) (n3 c3 : Nat) (x4 : Int) (a5 : Option Addr) (n5 c5 : Nat) (a6 : Option Addr) (n6 c6 : Nat) (a7 : Option Addr) (n7 c7 : Nat) (a8 : Option Addr) (n8 c8 : Nat) (a9 : Option Addr) (n9 c9 : Nat) (a10 : Option Addr) (n10 c10 : Nat) (x11 : Int) (h1 : n1 ≤ 140737488355328) (h2 : n2 ≤ 140737488355328) (h3 : n3 ≤ 140737488355328) (h5 : n5 ≤ 140737488355328) (h6 : n6 ≤ 140737488355328) (h7 : n7 ≤ 140737488355328) (h8 : n8 ≤ 140737488355328) (h9 : n9 ≤ 140737488355328) (h10 : n10 ≤ 140737488355328) :
    Calls Try.prog 10 #[.slice a n cap, .slice a1 n1 c1, .slice a2 n2 c2, .slice a3 n3 c3, .int .i64 x4, .slice a5 n5 c5, .slice a6 n6 c6, .slice a7 n7 c7, .slice a8 n8 c8, .slice a9 n9 c9, .slice a10 n10 c10, .int .i64 x11] w (SomeBool w) := by
  by_cases hn : n ≤ 1048576
  · go_enter Try.func10, Try.ntmps10
    go_wp2_with fail
    go_loop [25, 26] (fun t i => ∃ (k : Nat) (m : Int), k ≤ n ∧ i = .int .i64 k ∧ t = .int .i64 m ∧ 0 ≤ m ∧ m ≤ 1048576)
      (fun _ i => n - (intOf i).toNat)
    case atStart => exact ⟨0, _, Nat.zero_le _, rfl, rfl, by omega, by omega⟩
    case round =>
      obtain ⟨k, m, hk, rfl, rfl, hm0, hm1⟩ := hrel
      by_cases hlt : k < n
      · obtain ⟨b, off, ra, rc, rfl, hSb, hcell, hdm, hrow⟩ := hr k hlt
        clear hrow
        by_cases hdk : d k ≤ 1048576
        · by_cases hsum : m + (d k : Int) ≤ 1048576
          · go_wp2_with fail
            go_round
            case rel => exact ⟨k + 1, m + d k, by omega, by go_num, rfl, by omega, by omega⟩
            case measure => simp [intOf]; omega
          · go_wp2_with fail
            go_ret
            exact ⟨⟨_, rfl⟩, rfl⟩
        · go_wp2_with fail
          go_ret
          exact ⟨⟨_, rfl⟩, rfl⟩
      · obtain rfl : k = n := by omega
        go_wp2_with fail
        all_goals (go_ret; exact ⟨⟨_, rfl⟩, rfl⟩)
  · go_enter Try.func10, Try.ntmps10
    go_wp2_with fail
    go_ret
    exact ⟨⟨_, rfl⟩, rfl⟩

end Go.Proofs.Qxb6601557a
