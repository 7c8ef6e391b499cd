/-
  byDegree's closure: top - deg[p]. By an AI agent.
-/
import Derived.Test.Qxb6601557aOwn
namespace Go.Proofs.Qxb6601557a
set_option linter.unusedVariables false
open Go.RowKit

/-- a block of one cell. -/
theorem Own.box (S : Nat → Prop) (w : World) (v : Value) (e : TypeId) (hS : S w.heap.size) : Own S e (w.alloc (.cells #[v] e)) (some ⟨w.heap.size, 0, none⟩) 1 1 (fun _ => v) := by
  refine .inr ⟨w.heap.size, _, rfl, hS, heap_alloc_new w _, Nat.le_refl _, by unfold maxLen; omega, rfl, ?_⟩
  intro j hj
  obtain rfl : j = 0 := by omega
  rfl

theorem Own.alloc {S : Nat → Prop} {e : TypeId} {w : World} {a : Option Addr} {n cap : Nat} {f : Nat → Value} (h : Own S e w a n cap f) (o : Obj) : Own S e (w.alloc o) a n cap f :=
  h.ext ((Ext.refl (fun _ => False) w).alloc o) (fun _ _ h => h)

theorem Own.drewN {S : Nat → Prop} {e : TypeId} {w : World} {a : Option Addr} {n cap : Nat} {f : Nat → Value} (h : Own S e w a n cap f) (k : Nat) : Own S e (w.drewN k) a n cap f := h
theorem Own.drew {S : Nat → Prop} {e : TypeId} {w : World} {a : Option Addr} {n cap : Nat} {f : Nat → Value} (h : Own S e w a n cap f) : Own S e w.drew a n cap f := h

theorem ret_int {k : IntKind} {a b : Int} (h : a = b) : Ending.returned (.int k a) = .returned (.int k b) := by rw [h]

/-- what the closure reads. -/
structure KeyIn (w : World) (bs b0 b1 b2 : Nat) (S : Nat → Prop) (n : Nat) (dg : Nat → Int) (top : Nat) : Prop where
  str : ∃ ad cd, w.cell? ⟨bs, 2, none⟩ = some (.slice ad n cd) ∧ Rd S w ad n (fun j => .int .i64 (dg j))
  sb : w.cell? ⟨b0, 0, none⟩ = some (.pointer (some ⟨bs, 0, none⟩))
  mb : w.cell? ⟨b1, 0, none⟩ = some (.bool true)
  tb : w.cell? ⟨b2, 0, none⟩ = some (.int .i64 top)

set_option maxHeartbeats 400000 in
theorem key_any (w : World) (bs b0 b1 b2 : Nat) (S : Nat → Prop) (n : Nat) (dg : Nat → Int) (top : Nat) (h : KeyIn w bs b0 b1 b2 S n dg top) (r : Nat) (hr : r < n) (hn : n ≤ 1048576) (ht : top ≤ 1048576) (h0 : 0 ≤ dg r) (h1 : dg r ≤ top) :
    Calls Try.prog 47 #[.int .i64 r, .pointer (some ⟨b1, 0, none⟩), .pointer (some ⟨b2, 0, none⟩), .pointer (some ⟨b0, 0, none⟩)] w fun e w' => e = .returned (.int .i64 ((top - (dg r).toNat : Nat) : Int)) ∧ ∃ k, w' = w.drewN k := by
  obtain ⟨⟨ad, cd, hs, hrd⟩, hsb, hmb, htb⟩ := h
  obtain ⟨b, off, rfl, _, hc⟩ := hrd r hr
  have hi : (r : Int) < (n : Int) := by omega
  have hi0 : (0 : Int) ≤ (r : Int) := by omega
  go_enter Try.func47, Try.ntmps47
  go_wp2
  go_quiet (fail)
  go_wp2
  go_ret
  exact ⟨ret_int (by omega), _, rfl⟩

end Go.Proofs.Qxb6601557a
