/-
  ZZTriangleThread. By an AI agent.
-/
import Derived.Test.Qxb6601557aTri
import Derived.Test.Qxb6601557aZZCliq
namespace Go.Proofs.Qxb6601557a
set_option linter.unusedVariables false
open Go.RowKit

theorem CliIn.later {w w' : World} {bs bsc : Nat} {S : Nat → Prop} {v : Nat → Value} {n : Nat} {d : Nat → Nat} {N : Nat → Nat → Nat} {st dg : Nat → Int} {ap : Option Addr} {np : Nat} {P : Nat → Nat} {asc : Option Addr} {csc : Nat}
    (h : CliIn w bs bsc S v n d N st dg ap np P asc csc) (hx : Ext (fun _ => False) w w') : CliIn w' bs bsc S v n d N st dg ap np P asc csc := by
  obtain ⟨aa, ca, e0, h0⟩ := h.adj
  obtain ⟨asx, csx, e1, h1⟩ := h.sta
  obtain ⟨ad, cd, e2, h2⟩ := h.deg
  exact ⟨h.str.ext hx (fun _ _ h => h), ⟨aa, ca, e0, h0.ext hx (fun _ _ h => h)⟩, ⟨asx, csx, e1, h1.ext hx (fun _ _ h => h)⟩, ⟨ad, cd, e2, h2.ext hx (fun _ _ h => h)⟩, h.v11, h.sc.ext hx (fun _ _ h => h), h.pl.ext hx (fun _ _ h => h), h.out, h.ne, Nat.lt_of_lt_of_le h.bsc hx.size, h.ok, h.pinj, h.gr⟩

structure ZTOut (w w' : World) (bsc n : Nat) (dg : Nat → Int) (np : Nat) (P : Nat → Nat) (asc : Option Addr) (csc t : Nat) (O : Nat → Nat) : Prop where
  ord : OrdOk np dg P t O
  ext : Ext (fun k => k = bsc) w w'
  sc : Own (fun k => k = bsc) 3 w' asc n csc (fun _ => .int .i64 0)

theorem results_tmp4 {P : Program} {fn : Func} {t u v x : Tmp} (h : fn.results = #[.tmp t, .tmp u, .tmp v, .tmp x]) (tmps : Array Value) (w : World) :
    (results fn tmps).run P w = .ok (.tuple #[tmps.getD t undef, tmps.getD u undef, tmps.getD v undef, tmps.getD x undef]) w := by
  simp [results, h]

set_option maxHeartbeats 1000000 in
set_option maxRecDepth 100000 in
theorem zztri_any (w : World) (bsc : Nat) (S : Nat → Prop) (n : Nat) (d : Nat → Nat) (N : Nat → Nat → Nat) (st dg : Nat → Int) (np : Nat) (P : Nat → Nat) (aa asta ad asc ap : Option Addr) (ca cs cd csc cpp : Nat) (steps : Int) (pl : Nat → Bool) (apl : Option Addr) (cpl : Nat) (ok : Nat → Bool)
    (hin : ZIn w bsc S n d N st dg np P aa asta ad asc ap csc) (hpl : Rd S w apl n (fun j => .bool (pl j))) (hn : n ≤ 131072) (hnp : np ≤ 4096) (hok : ∀ q, ok q = (decide (st q = 0) && !pl q)) :
    Calls Try.prog 37 #[.slice aa n ca, .slice asta n cs, .slice ad n cd, .int .i64 steps, .slice asc n csc, .slice apl n cpl, .slice ap np cpp] w fun e w' => ∃ (t : Nat) (O : Nat → Nat),
      e = .returned (.tuple #[.int .i64 (ttP (ttTo d N ok pl O np) O : Int), .bool (ttTo d N ok pl O np).1.isSome, .int .i64 (wrap64 (steps + (2 * np + t) + ((ttTo d N ok pl O np).2 : Nat))), .slice asc n csc]) ∧ ZTOut w w' bsc n dg np P asc csc t O := by
  have hb := hin.bsc
  go_enter Try.func37, Try.ntmps37
  go_wp2_with fail
  have hci := (hin.cliIn ca cs cd steps).later ((Ext.refl (fun _ => False) _).alloc (.cells #[.pointer (some ⟨w.heap.size, 0, none⟩), .map none, .slice none 0 0, .slice none 0 0, .slice apl n cpl, .slice none 0 0] 75))
  have hx := ((Ext.refl (fun _ => False) w).alloc (.cells #[.slice aa n ca, .slice asta n cs, .slice ad n cd, .slice none 0 0, .int .i64 steps, .int .i64 0, .slice none 0 0, .slice none 0 0, .slice none 0 0, .slice none 0 0, .slice none 0 0, .slice asc n csc] 66)).alloc (.cells #[.pointer (some ⟨w.heap.size, 0, none⟩), .map none, .slice none 0 0, .slice none 0 0, .slice apl n cpl, .slice none 0 0] 75)
  refine (tri_any _ w.heap.size bsc (w.heap.size + 1) _ _ n d N st dg ap np cpp P asc csc steps pl apl cpl ok hci rfl hn hnp (by simp) (by simp) (hpl.lt.ext hx (fun _ _ h => h)) ⟨by omega, by omega⟩ hok).mono ?_
  rintro e w2 ⟨t, O, rfl, hO⟩
  obtain ⟨g, _, hS, _, hc4, _⟩ := hO.str.at 4 (by omega)
  obtain rfl : g = w.heap.size := hS
  obtain ⟨g, _, hS, _, hc11, _⟩ := hO.str.at 11 (by omega)
  obtain rfl : g = w.heap.size := hS
  rw [upd_same] at hc4
  rw [upd_other _ _ _ _ (by omega)] at hc11
  simp only [csF] at hc11
  have hp0 : w2.cell? ⟨w.heap.size + 1, 0, none⟩ = some (.pointer (some ⟨w.heap.size, 0, none⟩)) := cell_ext (by simp) hO.ext (show ¬ (w.heap.size + 1 = w.heap.size ∨ w.heap.size + 1 = bsc) by omega)
  go_wp2_with fail
  go_quiet (fail)
  go_wp2_with fail
  (try simp only [Exit.inBlock, Exit.then]); refine bodyPost_ret (results_tmp4 rfl _ _) rfl ?_
  refine ⟨t, O, rfl, hO.ord, ?_, ?_⟩
  · exact (((((Ext.refl (fun k => k = bsc) w).alloc _).alloc _).trans hO.ext (fun i hi h => by omega))).drewN _
  · exact hO.sc.drewN _
end Go.Proofs.Qxb6601557a
