/-
  zzCopyAdj: a copy in new blocks. By an AI agent.
-/
import Derived.Test.Qxb6601557aCopy
namespace Go.Proofs.Qxb6601557a
open Go.RowKit

/-- a slice of slices of ints of the call's own: the outer block in S, the rows' in T; each row is full. -/
def OwnAdj (S T : Nat → Prop) (w : World) (a : Option Addr) (n cap : Nat) (d : Nat → Nat) (A : Nat → Nat → Int) : Prop :=
  ∃ R : Nat → Option Addr, Own S 24 w a n cap (fun p => .slice (R p) (d p) (d p)) ∧ ∀ p, p < n → Own T 3 w (R p) (d p) (d p) (fun j => .int .i64 (A p j))

theorem OwnAdj.rd {S T : Nat → Prop} {w : World} {a : Option Addr} {n cap : Nat} {d : Nat → Nat} {A : Nat → Nat → Int} (h : OwnAdj S T w a n cap d A) : RdAdj (fun k => S k ∨ T k) w a n d A := by
  obtain ⟨R, h1, h2⟩ := h
  intro p hp
  obtain ⟨b, off, ha, hS, hc⟩ := h1.rd p hp
  have hle := (h2 p hp).le
  exact ⟨b, off, R p, d p, ha, .inl hS, hc, by have := hle.2; unfold maxLen at this; omega, (h2 p hp).rd.mono (fun _ h => .inr h)⟩

theorem OwnAdj.kept {S T : Nat → Prop} {w w' : World} {a : Option Addr} {n cap : Nat} {d : Nat → Nat} {A : Nat → Nat → Int} (h : OwnAdj S T w a n cap d A) (hb : ∀ k, S k ∨ T k → k < w.heap.size → w'.heap[k]? = w.heap[k]?) : OwnAdj S T w' a n cap d A := by
  obtain ⟨R, h1, h2⟩ := h
  exact ⟨R, h1.kept (fun k hk => hb k (.inl hk)), fun p hp => (h2 p hp).kept (fun k hk => hb k (.inr hk))⟩

theorem OwnAdj.ext {S T U : Nat → Prop} {w w' : World} {a : Option Addr} {n cap : Nat} {d : Nat → Nat} {A : Nat → Nat → Int} (h : OwnAdj S T w a n cap d A) (hx : Ext U w w') (hd : ∀ k, S k ∨ T k → ¬ U k) : OwnAdj S T w' a n cap d A :=
  h.kept (fun k hS hk => hx.block k hk (hd k hS))

theorem OwnAdj.mono {S T S' T' : Nat → Prop} {w : World} {a : Option Addr} {n cap : Nat} {d : Nat → Nat} {A : Nat → Nat → Int} (h : OwnAdj S T w a n cap d A) (hS : ∀ k, S k → S' k) (hT : ∀ k, T k → T' k) : OwnAdj S' T' w a n cap d A := by
  obtain ⟨R, h1, h2⟩ := h
  exact ⟨R, h1.mono hS, fun p hp => (h2 p hp).mono hT⟩

structure CopiedAdj (w w' : World) (a a' : Option Addr) (n : Nat) (d : Nat → Nat) (A : Nat → Nat → Int) : Prop where
  own : OwnAdj (fun k => k = w.heap.size) (fun k => w.heap.size < k ∧ k < w'.heap.size) w' a' n n d A
  ext : Ext (fun _ => False) w w'
  nil : a = none ↔ a' = none

structure CopyingAdj (w wr : World) (n k : Nat) (d : Nat → Nat) (A : Nat → Nat → Int) (R : Nat → Option Addr) : Prop where
  own : Own (fun k => k = w.heap.size) 24 wr (some ⟨w.heap.size, 0, none⟩) n n (fun p => if p < k then .slice (R p) (d p) (d p) else .slice none 0 0)
  rows : ∀ p, p < k → Own (fun k => w.heap.size < k ∧ k < wr.heap.size) 3 wr (R p) (d p) (d p) (fun j => .int .i64 (A p j))
  ext : Ext (fun _ => False) w wr
  size : w.heap.size < wr.heap.size

theorem CopyingAdj.start {w wr : World} {n : Nat} {d : Nat → Nat} {A : Nat → Nat → Int} (h1 : Own (fun k => k = w.heap.size) 24 wr (some ⟨w.heap.size, 0, none⟩) n n (fun _ => .slice none 0 0)) (h2 : Ext (fun _ => False) w wr) (h3 : wr.heap.size = w.heap.size + 1) :
    CopyingAdj w wr n 0 d A (fun _ => none) :=
  ⟨h1.congr (fun j _ => by simp), fun p hp => absurd hp (Nat.not_lt_zero p), h2, by omega⟩

theorem CopyingAdj.step {w wr w1 : World} {n k : Nat} {d : Nat → Nat} {A : Nat → Nat → Int} {R : Nat → Option Addr} {ra a' : Option Addr} (h : CopyingAdj w wr n k d A R) (hk : k < n) (hc : Copied 3 wr w1 ra a' (d k) (fun j => .int .i64 (A k j))) :
    w1.frozen? ⟨w.heap.size, k, none⟩ = false ∧ w1.cell? ⟨w.heap.size, k, none⟩ = some (.slice none 0 0) ∧
      CopyingAdj w (w1.setCell ⟨w.heap.size, k, none⟩ (.slice a' (d k) (d k))) n (k + 1) d A (upd R k a') := by
  have hx : Ext (fun _ => False) w w1 := h.ext.trans hc.ext (fun _ _ h => h)
  obtain ⟨g, _, hS, hlt, hce, hf, hst⟩ := (h.own.ext hc.ext (fun _ _ h => h)).at k hk
  obtain rfl : g = w.heap.size := hS
  have hsz := hc.ext.size
  have hszs : ∀ v, (w1.setCell ⟨w.heap.size, k, none⟩ v).heap.size = w1.heap.size := fun v => by simp [World.setCell]
  refine ⟨hf, by simpa using hce, (hst _).congr ?_, ?_, hx.setCell (fun hlt => absurd hlt (Nat.lt_irrefl _)) _, by rw [hszs]; have := h.size; omega⟩
  · intro j hj
    unfold upd
    by_cases hjk : j = k
    · subst hjk; simp
    · by_cases h1 : j < k
      · simp [hjk, h1, show j < k + 1 by omega]
      · simp [hjk, h1, show ¬ j < k + 1 by omega]
  · intro p hp
    by_cases hpk : p = k
    · subst hpk
      rw [upd_same, hszs]
      have hlt2 : ∀ q, q = wr.heap.size → ¬ q = w.heap.size := fun q hq => by have := h.size; omega
      have ho : Own (fun k => k = wr.heap.size) 3 (w1.setCell ⟨w.heap.size, p, none⟩ (.slice a' (d p) (d p))) a' (d p) (d p) (fun j => .int .i64 (A p j)) :=
        hc.own.kept (fun q hq _ => Below.heap_setCell _ _ _ _ (hlt2 q hq))
      rcases ho with ho | ⟨g, cur, rfl, hS, hg, r⟩
      · exact .inl ho
      · have hgl := (Array.getElem?_eq_some_iff.1 hg).1
        rw [hszs] at hgl
        exact .inr ⟨g, cur, rfl, ⟨by have := h.size; omega, hgl⟩, hg, r⟩
    · rw [upd_other _ _ _ _ hpk, hszs]
      exact (((h.rows p (by omega)).ext hc.ext (fun _ _ h => h)).kept (fun q hq _ => Below.heap_setCell _ _ _ _ (by have := hq.1; show ¬ q = w.heap.size; omega))).mono (fun q hq => ⟨hq.1, by have := hq.2; omega⟩)

theorem CopyingAdj.done {w wr : World} {n : Nat} {d : Nat → Nat} {A : Nat → Nat → Int} {R : Nat → Option Addr} {ad : Addr} (h : CopyingAdj w wr n n d A R) : CopiedAdj w wr (some ad) (some ⟨w.heap.size, 0, none⟩) n d A :=
  ⟨⟨R, h.own.congr (fun j hj => by simp [hj]), h.rows⟩, h.ext, by simp⟩

theorem CopiedAdj.none {w : World} {d : Nat → Nat} {A : Nat → Nat → Int} : CopiedAdj w w none none 0 d A :=
  ⟨⟨fun _ => .none, Own.nil, fun p hp => absurd hp (Nat.not_lt_zero p)⟩, Ext.refl _ _, Iff.rfl⟩

set_option maxHeartbeats 400000 in
theorem copyAdj_any (S : Nat → Prop) (a : Option Addr) (n cap : Nat) (d : Nat → Nat) (A : Nat → Nat → Int) (w : World) (hbig : n ≤ 1048576) (hd : ∀ p, p < n → d p ≤ 1048576) (hr : RdAdj S w a n d A) (hnil : a = none → n = 0) :
    Calls Try.prog 13 #[.slice a n cap] w fun e w' => ∃ a', e = .returned (.slice a' n n) ∧ CopiedAdj w w' a a' n d A := by
  have hnl := fun (w : World) (a : Option Addr) (n c : Nat) => Lib.run_eql_slice_nil (P := Try.prog) w 22 24 a n c 0 0 Try.underlying22
  cases a with
  | none =>
    obtain rfl : n = 0 := hnil rfl
    go_enter Try.func13, Try.ntmps13
    go_wp2_with fail
    go_ret
    exact ⟨none, rfl, CopiedAdj.none⟩
  | some ad =>
    go_enter Try.func13, Try.ntmps13
    go_wp2_with (at_make; refine wpList_mk _ rfl _ _ 22 rfl 24 (.slice none 0 0) 24 Try.underlying22 info24 rfl _ _ n rfl rfl rfl rfl (by omega) (by omega) ?_)
    intro w1 hown hext hsz
    have HC : CopyingAdj w w1 n 0 d A (fun _ => none) := CopyingAdj.start hown hext hsz
    clear hown hext hsz
    go_wp2_with fail
    go_loopw [4] (fun i wr => ∃ (k : Nat) (R : Nat → Option Addr), k ≤ n ∧ i = .int .i64 k ∧ CopyingAdj w wr n k d A R)
      (fun i _ => n - (intOf i).toNat)
    case atStart => exact ⟨0, _, Nat.zero_le _, rfl, HC⟩
    case round =>
      clear HC
      obtain ⟨k, R, hk, rfl, hcp⟩ := hrel
      by_cases hlt : k < n
      · obtain ⟨b, off, ra, rc, hab, hSb, hcell, hdm, hrow⟩ := (hr.ext hcp.ext (fun _ _ h => h)) k hlt
        obtain rfl : ad = ⟨b, off, none⟩ := by simpa using hab
        have hdk := hd k hlt
        have hrn : ra = none → d k = 0 := by
          intro hn
          rcases Nat.eq_zero_or_pos (d k) with h0 | h0
          · exact h0
          · obtain ⟨_, _, h, _⟩ := hrow 0 h0
            rw [hn] at h; cases h
        clear hd
        go_wp2_with fail
        refine (copyInts_any S ra (d k) rc (A k) _ (by omega) hrow hrn).mono ?_
        rintro e w2 ⟨a', rfl, hc⟩
        obtain ⟨hf, hce, hst⟩ := hcp.step hlt hc
        go_wp2_with fail
        go_roundw
        case rel => exact ⟨k + 1, _, by omega, by go_num, hst⟩
        case measure => simp [intOf]; omega
      · obtain rfl : k = n := by omega
        go_wp2_with fail
        go_ret
        exact ⟨_, rfl, hcp.done⟩
end Go.Proofs.Qxb6601557a
