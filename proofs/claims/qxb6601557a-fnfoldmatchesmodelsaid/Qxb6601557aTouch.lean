/-
  touch. By an AI agent.
-/
import Derived.Test.Qxb6601557aFM
namespace Go.Proofs.Qxb6601557a
set_option linter.unusedVariables false
open Go.RowKit

/-- what is touched: the marks, how many, which. -/
structure TS where
  qu : Nat → Bool
  nu : Nat
  tu : Nat → Int

def FA.ts (x : FA) : TS := ⟨x.qu, x.L 7, x.tu⟩
def tS (s : TS) (q : Nat) : TS := if s.qu q then s else ⟨upd s.qu q true, s.nu + 1, upd s.tu s.nu (q : Int)⟩

/-- what neither touch nor take turns. -/
structure EqG (x x' : FA) : Prop where
  R : x'.R = x.R
  rc : x'.rc = x.rc
  d : x'.d = x.d
  N : x'.N = x.N
  ma : x'.ma = x.ma
  sd : x'.sd = x.sd
  sc : x'.sc = x.sc
  F : x'.F = x.F
  s5 : x'.s5 = x.s5
  L : ∀ j, j ≠ 3 → j ≠ 7 → x'.L j = x.L j

theorem EqG.refl (x : FA) : EqG x x := ⟨rfl, rfl, rfl, rfl, rfl, rfl, rfl, rfl, rfl, fun _ _ _ => rfl⟩
theorem EqG.trans {x y z : FA} (h : EqG x y) (k : EqG y z) : EqG x z :=
  ⟨k.R.trans h.R, k.rc.trans h.rc, k.d.trans h.d, k.N.trans h.N, k.ma.trans h.ma, k.sd.trans h.sd, k.sc.trans h.sc, k.F.trans h.F, k.s5.trans h.s5, fun j h3 h7 => (k.L j h3 h7).trans (h.L j h3 h7)⟩

structure TouchR (x x' : FA) (q : Nat) : Prop where
  g : EqG x x'
  st : x'.st = x.st
  dg : x'.dg = x.dg
  tr : x'.tr = x.tr
  l3 : x'.L 3 = x.L 3
  s4 : x'.s4 = x.s4
  ts : x'.ts = tS x.ts q

/-- the tables of x, each by its number. -/
theorem f_same {x x' : FA} (j : Nat) (h0 : j ≠ 0 → True) (hR : x'.R = x.R) (hd : x'.d = x.d) (hrc : x'.rc = x.rc) (h1 : j = 1 ∨ x'.st = x.st) (h2 : j = 2 ∨ x'.dg = x.dg) (h3 : j = 3 ∨ x'.tr = x.tr) (h7 : j = 7 ∨ x'.tu = x.tu) (h8 : j = 8 ∨ x'.qu = x.qu)
    (h9 : j = 9 ∨ x'.ma = x.ma) (h10 : j = 10 ∨ x'.sd = x.sd) (h11 : j = 11 ∨ x'.sc = x.sc) : ∀ k, IsTab k → k ≠ j → x'.f k = x.f k := by
  intro k hk hne
  have hlt := hk.lt
  match k, hlt, hk with
  | 0, _, _ => simp only [FA.f, hR, hd, hrc]
  | 1, _, _ => simp only [FA.f, h1.resolve_left (fun h => hne h.symm)]
  | 2, _, _ => simp only [FA.f, h2.resolve_left (fun h => hne h.symm)]
  | 3, _, _ => simp only [FA.f, h3.resolve_left (fun h => hne h.symm)]
  | 4, _, hk => exact absurd rfl hk.n4
  | 5, _, hk => exact absurd rfl hk.n5
  | 6, _, hk => exact absurd rfl hk.n6
  | 7, _, _ => simp only [FA.f, h7.resolve_left (fun h => hne h.symm)]
  | 8, _, _ => simp only [FA.f, h8.resolve_left (fun h => hne h.symm)]
  | 9, _, _ => simp only [FA.f, h9.resolve_left (fun h => hne h.symm)]
  | 10, _, _ => simp only [FA.f, h10.resolve_left (fun h => hne h.symm)]
  | 11, _, _ => simp only [FA.f, h11.resolve_left (fun h => hne h.symm)]

theorem tab0 : IsTab 0 := ⟨by omega, by omega, by omega, by omega⟩
theorem tab1 : IsTab 1 := ⟨by omega, by omega, by omega, by omega⟩
theorem tab2 : IsTab 2 := ⟨by omega, by omega, by omega, by omega⟩
theorem tab3 : IsTab 3 := ⟨by omega, by omega, by omega, by omega⟩
theorem tab7 : IsTab 7 := ⟨by omega, by omega, by omega, by omega⟩
theorem tab8 : IsTab 8 := ⟨by omega, by omega, by omega, by omega⟩
theorem tab9 : IsTab 9 := ⟨by omega, by omega, by omega, by omega⟩
theorem tab10 : IsTab 10 := ⟨by omega, by omega, by omega, by omega⟩
theorem tab11 : IsTab 11 := ⟨by omega, by omega, by omega, by omega⟩

section
variable {W w : World} {tag : Nat → Nat} {bs : Nat} {x : FA}

theorem FM.quAt (h : FM W tag w bs x) (q : Nat) (hq : q < x.L 8) : ∃ g, x.a 8 = some ⟨g, 0, none⟩ ∧ w.cell? ⟨g, q, none⟩ = some (.bool (x.qu q)) ∧ w.frozen? ⟨g, q, none⟩ = false ∧
    ∀ b, FM W tag (w.setCell ⟨g, q, none⟩ (.bool b)) bs { x with qu := upd x.qu q b } ∧ Stp W tag w tag (w.setCell ⟨g, q, none⟩ (.bool b)) := by
  obtain ⟨g, eg, hc, hf, hst⟩ := h.at 8 tab8 q hq
  refine ⟨g, eg, hc, hf, fun b => hst _ _ ⟨rfl, rfl, rfl, rfl, rfl, rfl, rfl, rfl, rfl, ?_⟩ (fun k _ => (upd_map (fun b : Bool => Value.bool b) x.qu q b k).symm)⟩
  exact f_same 8 (fun _ => trivial) rfl rfl rfl (.inr rfl) (.inr rfl) (.inr rfl) (.inr rfl) (.inl rfl) (.inr rfl) (.inr rfl) (.inr rfl)

theorem FM.stAt (h : FM W tag w bs x) (q : Nat) (hq : q < x.L 1) : ∃ g, x.a 1 = some ⟨g, 0, none⟩ ∧ w.cell? ⟨g, q, none⟩ = some (.int .i8 (x.st q)) ∧ w.frozen? ⟨g, q, none⟩ = false ∧
    ∀ b, FM W tag (w.setCell ⟨g, q, none⟩ (.int .i8 b)) bs { x with st := upd x.st q b } ∧ Stp W tag w tag (w.setCell ⟨g, q, none⟩ (.int .i8 b)) := by
  obtain ⟨g, eg, hc, hf, hst⟩ := h.at 1 tab1 q hq
  refine ⟨g, eg, hc, hf, fun b => hst _ _ ⟨rfl, rfl, rfl, rfl, rfl, rfl, rfl, rfl, rfl, ?_⟩ (fun k _ => (upd_map (fun b : Int => Value.int .i8 b) x.st q b k).symm)⟩
  exact f_same 1 (fun _ => trivial) rfl rfl rfl (.inl rfl) (.inr rfl) (.inr rfl) (.inr rfl) (.inr rfl) (.inr rfl) (.inr rfl) (.inr rfl)

theorem FM.dgAt (h : FM W tag w bs x) (q : Nat) (hq : q < x.L 2) : ∃ g, x.a 2 = some ⟨g, 0, none⟩ ∧ w.cell? ⟨g, q, none⟩ = some (.int .i64 (x.dg q)) ∧ w.frozen? ⟨g, q, none⟩ = false ∧
    ∀ b, FM W tag (w.setCell ⟨g, q, none⟩ (.int .i64 b)) bs { x with dg := upd x.dg q b } ∧ Stp W tag w tag (w.setCell ⟨g, q, none⟩ (.int .i64 b)) := by
  obtain ⟨g, eg, hc, hf, hst⟩ := h.at 2 tab2 q hq
  refine ⟨g, eg, hc, hf, fun b => hst _ _ ⟨rfl, rfl, rfl, rfl, rfl, rfl, rfl, rfl, rfl, ?_⟩ (fun k _ => (upd_map (fun b : Int => Value.int .i64 b) x.dg q b k).symm)⟩
  exact f_same 2 (fun _ => trivial) rfl rfl rfl (.inr rfl) (.inl rfl) (.inr rfl) (.inr rfl) (.inr rfl) (.inr rfl) (.inr rfl) (.inr rfl)

/-- the field j (not the rows) behind an append of one number (or mark). -/
def FA.ap (x : FA) (j : Nat) (a' : Option Addr) (c' : Nat) (z : Int) (b : Bool) : FA :=
  { x with L := upd x.L j (x.L j + 1), a := upd x.a j a', C := upd x.C j c', st := (if j = 1 then upd x.st (x.L 1) z else x.st), dg := (if j = 2 then upd x.dg (x.L 2) z else x.dg), tr := (if j = 3 then upd x.tr (x.L 3) z else x.tr), tu := (if j = 7 then upd x.tu (x.L 7) z else x.tu), qu := (if j = 8 then upd x.qu (x.L 8) b else x.qu), ma := (if j = 9 then upd x.ma (x.L 9) z else x.ma), sd := (if j = 10 then upd x.sd (x.L 10) z else x.sd), sc := (if j = 11 then upd x.sc (x.L 11) z else x.sc) }

theorem ap_L (x : FA) (j k : Nat) (a' : Option Addr) (c' : Nat) (z : Int) (b : Bool) (h : k ≠ j) : (x.ap j a' c' z b).L k = x.L k := upd_other _ _ _ _ h
theorem ap_Lj (x : FA) (j : Nat) (a' : Option Addr) (c' : Nat) (z : Int) (b : Bool) : (x.ap j a' c' z b).L j = x.L j + 1 := upd_same _ _ _

def vOf (j : Nat) (z : Int) (b : Bool) : Value := if j = 8 then .bool b else if j = 1 ∨ j = 10 then .int .i8 z else .int .i64 z

theorem ap_App1 (x : FA) (j : Nat) (hj : IsTab j) (h0 : j ≠ 0) (a' : Option Addr) (c' : Nat) (z : Int) (b : Bool) : App1 x (x.ap j a' c' z b) j a' c' (vOf j z b) := by
  refine ⟨rfl, rfl, rfl, rfl, rfl, rfl, ?_, fun k _ => ?_⟩
  · have ni : ∀ {α : Type} {a : Nat} {p q : α}, j = a ∨ (if j = a then p else q) = q := fun {α a p q} => by
      by_cases e : j = a
      · exact .inl e
      · exact .inr (if_neg e)
    exact f_same j (fun _ => trivial) rfl rfl rfl ni ni ni ni ni ni ni ni
  · match j, hj.lt, hj, h0 with
    | 1, _, _, _ => exact (upd_map (fun b : Int => Value.int .i8 b) x.st (x.L 1) z k).symm
    | 2, _, _, _ => exact (upd_map (fun b : Int => Value.int .i64 b) x.dg (x.L 2) z k).symm
    | 3, _, _, _ => exact (upd_map (fun b : Int => Value.int .i64 b) x.tr (x.L 3) z k).symm
    | 4, _, hj, _ => exact absurd rfl hj.n4
    | 5, _, hj, _ => exact absurd rfl hj.n5
    | 6, _, hj, _ => exact absurd rfl hj.n6
    | 7, _, _, _ => exact (upd_map (fun b : Int => Value.int .i64 b) x.tu (x.L 7) z k).symm
    | 8, _, _, _ => exact (upd_map (fun b : Bool => Value.bool b) x.qu (x.L 8) b k).symm
    | 9, _, _, _ => exact (upd_map (fun b : Int => Value.int .i64 b) x.ma (x.L 9) z k).symm
    | 10, _, _, _ => exact (upd_map (fun b : Int => Value.int .i8 b) x.sd (x.L 10) z k).symm
    | 11, _, _, _ => exact (upd_map (fun b : Int => Value.int .i64 b) x.sc (x.L 11) z k).symm

/-- behind 's.f = append(s.f, z)'. -/
theorem FM.ap {wA wq : World} {b : Nat} {a' : Option Addr} {cap' : Nat} (h : FM W tag w bs x) (j : Nat) (hj : IsTab j) (h0 : j ≠ 0) (z : Int) (bb : Bool) (hA : Ext (fun _ => False) w wA) (hb : wA.heap.size = b)
    (ho : Own (fun k => Tg W tag j k ∨ k = b) (fty j) wq a' (x.L j + 1) cap' (upd (x.f j) (x.L j) (vOf j z bb))) (hx : Ext (Tg W tag j) wA wq) :
    wq.cell? ⟨bs, j, none⟩ = some (.slice (x.a j) (x.L j) (x.C j)) ∧ wq.frozen? ⟨bs, j, none⟩ = false ∧
        FM W (upd tag b j) (wq.setCell ⟨bs, j, none⟩ (.slice a' (x.L j + 1) cap')) bs (x.ap j a' cap' z bb) ∧ Stp W tag w (upd tag b j) (wq.setCell ⟨bs, j, none⟩ (.slice a' (x.L j + 1) cap')) := by
  obtain ⟨h1, h2, h3⟩ := h.app hA hb j hj ho hx
  obtain ⟨h4, h5⟩ := h3 (x.ap j a' cap' z bb) (ap_App1 x j hj h0 a' cap' z bb) (fun p hp => h.rows p (by
    have hp' : p < upd x.L j (x.L j + 1) 0 := hp
    rw [upd_other _ _ _ _ (Ne.symm h0)] at hp'; exact hp'))
  exact ⟨h1, h2, h4, h5⟩

set_option maxHeartbeats 1000000 in
set_option maxRecDepth 100000 in
theorem touch_any (h : FM W tag w bs x) (q : Nat) (hq : q < x.L 8) (hL8 : x.L 8 ≤ 1048576) (hb : x.L 7 ≤ 1000000000) :
    Calls Try.prog 45 #[.pointer (some ⟨bs, 0, none⟩), .int .i64 q] w fun e w' => e = .returned (.tuple #[]) ∧ ∃ tag' x', FM W tag' w' bs x' ∧ Stp W tag w tag' w' ∧ TouchR x x' q := by
  have hc8 := h.sl 8 (by omega) (by omega) (by omega)
  obtain ⟨g, eg, hcq, hfq, hput⟩ := h.quAt q hq
  rw [eg] at hc8
  cases hqu : x.qu q with
  | true =>
    rw [hqu] at hcq
    have HT : TouchR x x q := ⟨EqG.refl x, rfl, rfl, rfl, rfl, rfl, by simp [tS, FA.ts, hqu]⟩
    clear hput
    generalize x.L 8 = n8 at *
    go_enter Try.func45, Try.ntmps45
    go_wp2_with fail
    go_end0
    exact ⟨rfl, tag, x, h, Stp.refl _ _ _, HT⟩
  | false =>
    rw [hqu] at hcq
    obtain ⟨h2, hs2⟩ := hput true
    clear hput
    obtain ⟨x2, e2⟩ : ∃ x2, x2 = ({ x with qu := upd x.qu q true } : FA) := ⟨_, rfl⟩
    rw [← e2] at h2
    have hc7 := h2.sl 7 (by omega) (by omega) (by omega)
    have hTu := h2.tab 7 tab7
    have hb2 : x2.L 7 ≤ 1000000000 := by rw [e2]; exact hb
    have E2 : Hid (x2 = { x with qu := upd x.qu q true }) := e2
    clear e2
    go_enter Try.func45, Try.ntmps45
    go_wp2_with (at_builtin; refine wpList_app _ rfl (.tmp 22) (.tmp 24) 24 rfl 3 (.int .i64 0) 8 Try.underlying24 info3 rfl (Tg W tag 7) (x2.a 7) (x2.L 7) (x2.C 7) (fun k => .int .i64 (x2.tu k)) rfl (hTu.alloc _) ⟨w.heap.size, 0, none⟩ 1 (.int .i64 (q : Int)) rfl (cell_new1 _ _ _ _ (by simp [World.setCell])) rfl (by omega) (by omega) ?_)
    intro a' cap' w3 ho hx hsz
    obtain ⟨hd1, hd2, h3, hs3⟩ := h2.ap 7 tab7 (by omega) (q : Int) false ((Ext.refl _ _).alloc _) (by simp [World.setCell]) ho hx
    have hs4 := hs2.trans hs3
    have HT : TouchR x (x2.ap 7 a' cap' (q : Int) false) q := by
      have e2 := E2.out
      subst e2
      refine ⟨⟨rfl, rfl, rfl, rfl, rfl, rfl, rfl, rfl, rfl, fun j _ h7 => ap_L _ _ _ _ _ _ _ h7⟩, rfl, rfl, rfl, ap_L _ 7 3 _ _ _ _ (by decide), rfl, ?_⟩
      simp [tS, FA.ts, FA.ap, hqu, upd_same]
    clear hs3 hs2 ho hx hsz hTu
    go_wp2_with fail
    go_end0
    exact ⟨rfl, _, _, h3, hs4, HT⟩
end
end Go.Proofs.Qxb6601557a
