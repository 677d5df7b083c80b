/- What the clones leave, carried along. -/
import Derived.Test.Qxb6623442aZZ
namespace Go.Proofs.Qxb6623442a
open Go.RowKit
set_option linter.unusedVariables false

/-- Blocks from lo up to hi. -/
def Iv (lo hi : Nat) : Nat → Prop := fun b => lo ≤ b ∧ b < hi

section
variable {w w' : World} {lo hi hi' B : Nat} {a : Option Addr} {n : Nat} {f : Nat → Int} {ga : Option Addr} {G : Nat} {A : Nat → Option Addr} {L C : Nat → Nat} {Z : Nat → Nat → Int}
theorem SlF.carry (h : SlF (Iv lo hi) w a n f) (k : Below B w w') (hB : hi ≤ B) : SlF (Iv lo hi) w' a n f := h.fram (Fram.of_below k (fun q _ x => Nat.lt_of_lt_of_le x.2 hB))
theorem RowsF.carry (h : RowsF (Iv lo hi) w ga G A L C Z) (k : Below B w w') (hB : hi ≤ B) : RowsF (Iv lo hi) w' ga G A L C Z := h.fram (Fram.of_below k (fun q _ x => Nat.lt_of_lt_of_le x.2 hB))
theorem SlF.wide {lo' : Nat} (h : SlF (Iv lo hi) w a n f) (h1 : lo' ≤ lo) (h2 : hi ≤ hi') : SlF (Iv lo' hi') w a n f := h.weak (fun q _ x => ⟨Nat.le_trans h1 x.1, Nat.lt_of_lt_of_le x.2 h2⟩)
theorem RowsF.wide {lo' : Nat} (h : RowsF (Iv lo hi) w ga G A L C Z) (h1 : lo' ≤ lo) (h2 : hi ≤ hi') : RowsF (Iv lo' hi') w ga G A L C Z := h.weak (fun q _ x => ⟨Nat.le_trans h1 x.1, Nat.lt_of_lt_of_le x.2 h2⟩)
end

/-- A clone of numbers. -/
structure CI (w w' : World) (n : Nat) (f : Nat → Int) (a' : Option Addr) : Prop where
  bel : Below w.heap.size w w'
  nil : a' = none → n = 0
  sl : SlF (Iv w.heap.size w'.heap.size) w' a' n f
  own : (a' = none ∧ n = 0) ∨ (a' = some ⟨w.heap.size, 0, none⟩ ∧ w.heap.size < w'.heap.size ∧ w'.rowIs w.heap.size 3 n (fun i => .int .i64 (f i)))

theorem ClonePost.ci {n : Nat} {f : Nat → Int} {w w' : World} {e : Ending} (h : ClonePost n f w e w') : ∃ a', e = .returned (.slice a' n n) ∧ CI w w' n f a' := by
  obtain ⟨a', he, hb, hor⟩ := h
  refine ⟨a', he, ?_⟩
  rcases hor with ⟨e1, e2, e3⟩ | ⟨e1, e2, e3⟩
  · subst e2
    exact ⟨hb, fun _ => rfl, SlF.zero _ _ _ _, .inl ⟨e1, rfl⟩⟩
  · subst e1
    exact ⟨hb, (fun h => by cases h), SlF.of_row e2 ⟨Nat.le_refl _, by omega⟩, .inr ⟨rfl, by omega, e2⟩⟩

/-- A clone of rows. -/
structure CR (w w' : World) (G : Nat) (L : Nat → Nat) (Z : Nat → Nat → Int) (ga : Option Addr) (A : Nat → Option Addr) : Prop where
  bel : Below w.heap.size w w'
  nil : ga = none → G = 0
  nils : ∀ r, r < G → A r = none → L r = 0
  rows : RowsF (Iv w.heap.size w'.heap.size) w' ga G A L L Z
  own : 0 < G → ga = some ⟨w.heap.size, 0, none⟩ ∧ w.heap.size < w'.heap.size ∧ w'.rowIs w.heap.size 23 G (fun r => .slice (A r) (L r) (L r)) ∧ ∀ r, r < G → SlF (Iv (w.heap.size + 1) w'.heap.size) w' (A r) (L r) (Z r)

theorem RowsPost.cr {G : Nat} {L : Nat → Nat} {Z : Nat → Nat → Int} {w w' : World} {e : Ending} (h : RowsPost G L Z w e w') : ∃ ga A, e = .returned (.slice ga G G) ∧ CR w w' G L Z ga A := by
  obtain ⟨ga, A, he, hb, hn, hor⟩ := h
  refine ⟨ga, A, he, ?_⟩
  rcases hor with ⟨e1, e2⟩ | ⟨e1, e2, e3⟩
  · subst e2
    exact ⟨hb, fun _ => rfl, hn, fun h => absurd h (Nat.lt_irrefl _), fun h => absurd h (Nat.lt_irrefl _)⟩
  · subst e1
    have h3 : ∀ r, r < G → SlF (Iv (w.heap.size + 1) w'.heap.size) w' (A r) (L r) (Z r) := fun r hr => (e3 r hr).weak (fun q hq x => ⟨x, hq⟩)
    refine ⟨hb, (fun h => by cases h), hn, fun _ => ⟨w.heap.size, 0, rfl, ⟨Nat.le_refl _, e2.lt⟩, fun r hr => ⟨by rw [Nat.zero_add]; exact e2.cell hr, (h3 r hr).wide (by omega) (Nat.le_refl _)⟩⟩, fun _ => ⟨rfl, e2.lt, e2, h3⟩⟩

/-- The first clones, all in blocks from B0 up to B1. -/
structure C1 (w : World) (B0 B1 : Nat) (pa wa ra kwa kra ma sa : Option Addr) (n n1 n2 nk : Nat) (PA WA RA : Nat → Option Addr) (L0 L3 L4 : Nat → Nat) (Z0 Z3 Z4 : Nat → Nat → Int) (f1 f2 f5 f6 : Nat → Int) : Prop where
  p : RowsF (Iv B0 B1) w pa n PA L0 L0 Z0
  tw : SlF (Iv B0 B1) w wa n1 f1
  tr : SlF (Iv B0 B1) w ra n2 f2
  kw : RowsF (Iv B0 B1) w kwa nk WA L3 L3 Z3
  kr : RowsF (Iv B0 B1) w kra nk RA L4 L4 Z4
  mt : SlF (Iv B0 B1) w ma nk f5
  sc : SlF (Iv B0 B1) w sa nk f6
theorem C1.fram {w w' : World} {B0 B1 : Nat} {pa wa ra kwa kra ma sa : Option Addr} {n n1 n2 nk : Nat} {PA WA RA : Nat → Option Addr} {L0 L3 L4 : Nat → Nat} {Z0 Z3 Z4 : Nat → Nat → Int} {f1 f2 f5 f6 : Nat → Int}
    (h : C1 w B0 B1 pa wa ra kwa kra ma sa n n1 n2 nk PA WA RA L0 L3 L4 Z0 Z3 Z4 f1 f2 f5 f6) (k : Fram (Iv B0 B1) w w') : C1 w' B0 B1 pa wa ra kwa kra ma sa n n1 n2 nk PA WA RA L0 L3 L4 Z0 Z3 Z4 f1 f2 f5 f6 :=
  ⟨h.p.fram k, h.tw.fram k, h.tr.fram k, h.kw.fram k, h.kr.fram k, h.mt.fram k, h.sc.fram k⟩

/-- What ZZTable is handed, out of the second clones. -/
theorem zin {v7 v8 v9 v10 v11 v12 v13 v14 : World} {n n1 n2 nk : Nat} {L0 L3 L4 : Nat → Nat} {Z0 Z3 Z4 : Nat → Nat → Int} {f1 f2 f5 f6 : Nat → Int} {pa wa ra kwa kra ma sa : Option Addr} {PA WA RA : Nat → Option Addr} (tx : Int) (hpos : 0 < v7.heap.size)
    (c8 : CR v7 v8 n L0 Z0 pa PA) (c9 : CI v8 v9 n1 f1 wa) (c10 : CI v9 v10 n2 f2 ra) (c11 : CR v10 v11 nk L3 Z3 kwa WA) (c12 : CR v11 v12 nk L4 Z4 kra RA) (c13 : CI v12 v13 nk f5 ma) (c14 : CI v13 v14 nk f6 sa) (h5 : ∀ i, i < nk → 0 ≤ f5 i) :
    ∃ PB, PB < v14.heap.size ∧ (0 < n → PB = v7.heap.size) ∧ (PB = 0 ∨ PB = v7.heap.size) ∧ ZIn v14 pa PB n tx L0 Z0 nk kwa kra ma sa wa n1 f1 ra n2 f2 WA RA L3 L3 L4 Z3 Z4 f6 (fun i => (f5 i).toNat) := by
  have s8 := c8.bel.size
  have s9 := c9.bel.size
  have s10 := c10.bel.size
  have s11 := c11.bel.size
  have s12 := c12.bel.size
  have s13 := c13.bel.size
  have s14 := c14.bel.size
  -- what was there below each size is there at the end
  have b13 : Below v13.heap.size v13 v14 := c14.bel
  have b12 : Below v12.heap.size v12 v14 := c13.bel.trans (b13.mono s13)
  have b11 : Below v11.heap.size v11 v14 := c12.bel.trans (b12.mono s12)
  have b10 : Below v10.heap.size v10 v14 := c11.bel.trans (b11.mono s11)
  have b9 : Below v9.heap.size v9 v14 := c10.bel.trans (b10.mono s10)
  have b8 : Below v8.heap.size v8 v14 := c9.bel.trans (b9.mono s9)
  have hwa : ∀ x, wa = some x → x.block = v8.heap.size ∧ v8.heap.size < v9.heap.size := fun x hx => by
    rcases c9.own with ⟨e1, _⟩ | ⟨e1, e2, _⟩
    · rw [e1] at hx; cases hx
    · rw [e1] at hx; cases hx; exact ⟨rfl, e2⟩
  have main : ∀ PB, PB < v14.heap.size → (PB = 0 ∨ PB = v7.heap.size) → (0 < n → PB = v7.heap.size) → (0 < n ∨ PB = 0) → ZIn v14 pa PB n tx L0 Z0 nk kwa kra ma sa wa n1 f1 ra n2 f2 WA RA L3 L3 L4 Z3 Z4 f6 (fun i => (f5 i).toNat) := by
    intro PB hPB hor hn0 hn1
    have h78 : PB = 0 ∨ v7.heap.size < v8.heap.size := by
      rcases hn1 with h | h
      · exact .inr (c8.own h).2.1
      · exact .inl h
    have wk : ∀ (lo hi : Nat), v9.heap.size ≤ lo → hi ≤ v14.heap.size → ∀ q, q < v14.heap.size → Iv lo hi q → Fr0 n PB v14.heap.size wa q := fun lo hi h1 h2 q _ x =>
      ⟨Nat.lt_of_lt_of_le x.2 h2, fun _ => by have := x.1; omega, fun y hy => by have := hwa y hy; have := x.1; omega⟩
    refine ⟨fun h => by rw [hn0 h]; exact (c8.own h).1, hPB, fun v hv => ?_, ?_, c10.nil, ((c10.sl.carry b10 (Nat.le_refl _)).weak (wk _ _ (Nat.le_refl _) (by omega))), ((c11.rows.carry b11 (Nat.le_refl _)).weak (wk _ _ (by omega) (by omega))), ((c12.rows.carry b12 (Nat.le_refl _)).weak (wk _ _ (by omega) (by omega))),
      ((c13.sl.carry b13 (Nat.le_refl _)).weak (wk _ _ (by omega) (by omega))).congr (fun i hi => by rw [Int.toNat_of_nonneg (h5 i hi)]), c14.sl.weak (wk _ _ (by omega) (by omega))⟩
    · have hn : 0 < n := by omega
      obtain ⟨_, hlt, hrow, hsl⟩ := c8.own hn
      have hrow' := hrow.of_block (b8.block _ hlt)
      rw [hn0 hn]
      refine ⟨⟨PA v, L0 v, L0 v, hrow'.cell hv, .inr ⟨by simp [gain], rfl, rfl, c8.nils v hv, ?_⟩⟩, hrow'.frozen v⟩
      refine ((hsl v hv).carry b8 (Nat.le_refl _)).weak (fun q hq x => ⟨hq, fun _ => by have := x.1; omega, fun y hy => by have := hwa y hy; have := x.2; omega⟩)
    · rcases c9.own with x | ⟨e1, e2, e3⟩
      · exact .inl x
      · exact .inr ⟨_, e1, by omega, by omega, e3.of_block (b9.block _ e2)⟩
  by_cases hn : 0 < n
  · have := (c8.own hn).2.1
    exact ⟨v7.heap.size, by omega, fun _ => rfl, .inr rfl, main _ (by omega) (.inr rfl) (fun _ => rfl) (.inl hn)⟩
  · exact ⟨0, by omega, fun h => absurd h hn, .inl rfl, main 0 (by omega) (.inl rfl) (fun h => absurd h hn) (.inr rfl)⟩
/-- What stands behind ZZTable, all of it in blocks below M + 4. -/
structure LS (w0 v : World) (B0 B1 PB n : Nat) (tx : Int) (wrt : Bool) (src : Nat → Bool) (pa wa ra kwa kra ma sa : Option Addr) (n1 n2 nk : Nat) (PA WA RA : Nat → Option Addr) (L0 L3 L4 : Nat → Nat) (Z0 Z3 Z4 : Nat → Nat → Int) (f1 f2 f5 f6 : Nat → Int)
    (WA2 RA2 : Nat → Option Addr) (vtw vtr : Value) (M : Nat) : Prop where
  c1 : C1 v B0 B1 pa wa ra kwa kra ma sa n n1 n2 nk PA WA RA L0 L3 L4 Z0 Z3 Z4 f1 f2 f5 f6
  bel : Below w0.heap.size w0 v
  hB : w0.heap.size ≤ B0 ∧ B0 ≤ B1 ∧ B1 < M
  hPB : PB < M
  ps : PSt (fun b => b < M) v PB n tx L0 Z0 src
  size : v.heap.size = M + 4
  hw : wrt = true → ∃ g cap rx rc, vtw = .slice (some ⟨g, 0, none⟩) 1 cap ∧ v.cell? ⟨g, 0, none⟩ = some (.int .i64 tx) ∧ vtr = .slice rx 0 rc
  hr : wrt = false → ∃ wx g cap, vtw = .slice wx n1 n1 ∧ SlF (fun b => b < M) v wx n1 f1 ∧ vtr = .slice (some ⟨g, 0, none⟩) (n2 + 1) cap ∧ n2 + 1 ≤ cap ∧ SlF (fun b => b < M) v (some ⟨g, 0, none⟩) (n2 + 1) (fun i => if i < n2 then f2 i else tx)
  r0 : v.rowIs M 3 nk (fun j => .int .i64 (if wrt = true then (L4 j : Int) else ((f5 j).toNat : Int)))
  r1 : v.rowIs (M + 1) 3 nk (fun j => .int .i64 (if wrt = true then 0 else f6 j))
  r2 : v.rowIs (M + 2) 23 nk (fun j => .slice (WA2 j) (L3 j) (L3 j))
  r3 : v.rowIs (M + 3) 23 nk (fun j => .slice (RA2 j) (L4 j) (L4 j))
  kw : ∀ j, j < nk → SlF (fun b => b < M) v (WA2 j) (L3 j) (Z3 j)
  kr : ∀ j, j < nk → SlF (fun b => b < M) v (RA2 j) (L4 j) (Z4 j)

theorem LS.mk' {w0 v0 v7 v8 v9 v10 v11 v12 v14 v15 : World} {PB n : Nat} {tx : Int} {wrt : Bool} {src : Nat → Bool} {pa wa ra kwa kra ma sa : Option Addr} {n1 n2 nk : Nat} {PA WA RA : Nat → Option Addr} {L0 L3 L4 : Nat → Nat} {Z0 Z3 Z4 : Nat → Nat → Int} {f1 f2 f5 f6 : Nat → Int}
    {pa2 wa2 ra2 kwa2 kra2 ma2 sa2 : Option Addr} {PA2 WA2 RA2 : Nat → Option Addr} {vtw vtr : Value} {M : Nat}
    (hC : C1 v7 v0.heap.size v7.heap.size pa wa ra kwa kra ma sa n n1 n2 nk PA WA RA L0 L3 L4 Z0 Z3 Z4 f1 f2 f5 f6) (hB : Below w0.heap.size w0 v7) (hk : Below v7.heap.size v7 v14)
    (c8 : CR v7 v8 n L0 Z0 pa2 PA2) (c9 : CI v8 v9 n1 f1 wa2) (c11 : CR v10 v11 nk L3 Z3 kwa2 WA2) (c12 : CR v11 v12 nk L4 Z4 kra2 RA2) (hpos : 0 < v0.heap.size) (hz : v0.heap.size ≤ v7.heap.size)
    (hs : w0.heap.size ≤ v0.heap.size) (hor : (0 < n → PB = v7.heap.size)) (hzin : ZIn v14 pa2 PB n tx L0 Z0 nk kwa2 kra2 ma2 sa2 wa2 n1 f1 ra2 n2 f2 WA2 RA2 L3 L3 L4 Z3 Z4 f6 (fun i => (f5 i).toNat))
    (hO : ZOut wrt v14 v15 PB n tx L0 Z0 src nk wa2 n1 n2 f2 WA2 RA2 L3 L3 L4 f6 (fun i => (f5 i).toNat) vtw vtr M) :
    LS w0 v15 v0.heap.size v7.heap.size PB n tx wrt src pa wa ra kwa kra ma sa n1 n2 nk PA WA RA L0 L3 L4 Z0 Z3 Z4 f1 f2 f5 f6 WA2 RA2 vtw vtr M := by
  have s7 := hk.size
  have s8 := c8.bel.size
  have hM := hO.hM
  have hsz := hO.hsz
  have hwa : ∀ x, wa2 = some x → v7.heap.size ≤ x.block := fun x hx => by
    rcases c9.own with ⟨e1, _⟩ | ⟨e1, _⟩
    · rw [e1] at hx; cases hx
    · rw [e1] at hx; cases hx; exact s8
  have lowF : ∀ B, B ≤ v7.heap.size → Fram (fun b => b < B) v14 v15 := fun B hB => hO.hfr.weak (fun k hk x => ⟨by omega, fun hn => by rw [hor hn]; omega, fun y hy => by have := hwa y hy; omega⟩)
  have k1 : Fram (Iv v0.heap.size v7.heap.size) v7 v15 := (Fram.of_below hk (fun _ _ x => x.2)).trans ((lowF _ (Nat.le_refl _)).weak (fun _ _ x => x.2))
  have z0 : ∀ (a : Option Addr) (m : Nat) (f : Nat → Int), SlF (Fr0 n PB v14.heap.size wa2) v14 a m f → SlF (fun b => b < M) v15 a m f := fun a m f h => (h.fram hO.hfr).weak (fun k hk x => by have := x.1; omega)
  refine ⟨hC.fram k1, ?_, ⟨hs, hz, by omega⟩, by have := hzin.hpb; omega, hO.hps, hsz, fun h => ?_, fun h => ?_, hO.r0, hO.r1, hO.r2, hO.r3, fun j hj => z0 _ _ _ (hzin.hkw.row hj), fun j hj => z0 _ _ _ (hzin.hkr.row hj)⟩
  · exact hB.trans ((hk.mono (by omega)).trans ((lowF w0.heap.size (by omega)).below (by omega) (fun _ h => h)))
  · exact hO.hw h
  · obtain ⟨e1, e2, g, cap, e3, cp, e4⟩ := hO.hr h
    refine ⟨wa2, g, cap, e1, ?_, e3, cp, e4⟩
    rcases hzin.htw with ⟨x, y⟩ | ⟨TW, x, y, _, u⟩
    · rw [y]; exact SlF.zero _ _ _ _
    · have := u.of_block (e2 _ x)
      rw [x]
      exact SlF.of_row this (by omega)
end Go.Proofs.Qxb6623442a
