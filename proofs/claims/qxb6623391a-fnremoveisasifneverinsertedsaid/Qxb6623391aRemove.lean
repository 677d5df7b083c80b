/- (*hashIndex).remove. -/
import Derived.Test.Qxb6623391aRebuild
import Derived.Deep.QuietTactic
import Derived.BigQuiet
import Derived.BigRegion
namespace Go.Proofs.Qxb6623391a
open Go.RowKit
set_option linter.unusedVariables false

/-- Block T is the row of N slots. -/
def SRow (w : World) (T N : Nat) (sh sn : Nat → Int) : Prop := w.rowIs T 36 (2 * N) (fun i => .int .u32 (if i % 2 = 0 then sh (i / 2) else sn (i / 2)))
theorem SRow.hash {w : World} {T N : Nat} {sh sn : Nat → Int} (h : SRow w T N sh sn) {i : Nat} (hi : i < N) : w.cell? ⟨T, i * 2, none⟩ = some (.int .u32 (sh i)) := by
  have := World.rowIs.cell h (i := i * 2) (by omega)
  rwa [if_pos (by omega), show i * 2 / 2 = i by omega] at this
theorem SRow.num {w : World} {T N : Nat} {sh sn : Nat → Int} (h : SRow w T N sh sn) {i : Nat} (hi : i < N) : w.cell? ⟨T, i * 2 + 1, none⟩ = some (.int .u32 (sn i)) := by
  have := World.rowIs.cell h (i := i * 2 + 1) (by omega)
  rwa [if_neg (by omega), show (i * 2 + 1) / 2 = i by omega] at this
theorem SRow.frozen {w : World} {T N : Nat} {sh sn : Nat → Int} (h : SRow w T N sh sn) (i : Nat) : w.frozen? ⟨T, i, none⟩ = false := World.rowIs.frozen h i
theorem SRow.lt {w : World} {T N : Nat} {sh sn : Nat → Int} (h : SRow w T N sh sn) : T < w.heap.size := World.rowIs.lt h
theorem SRow.put {w : World} {T N : Nat} {sh sn : Nat → Int} (h : SRow w T N sh sn) (i : Nat) (u v : Int) :
    SRow ((w.setCell ⟨T, i * 2, none⟩ (.int .u32 u)).setCell ⟨T, i * 2 + 1, none⟩ (.int .u32 v)) T N (fun j => if j = i then u else sh j) (fun j => if j = i then v else sn j) := by
  refine ((World.rowIs.set h (i * 2) (.int .u32 u)).set (i * 2 + 1) (.int .u32 v)).congr (fun j _ => ?_)
  by_cases e1 : j = i * 2 + 1
  · subst e1
    rw [if_pos rfl, if_neg (by omega)]; dsimp only; rw [if_pos (by omega)]
  · rw [if_neg e1]
    by_cases e2 : j = i * 2
    · subst e2
      rw [if_pos rfl, if_pos (by omega)]; dsimp only; rw [if_pos (by omega)]
    · rw [if_neg e2]
      by_cases e3 : j % 2 = 0
      · rw [if_pos e3, if_pos e3]; dsimp only; rw [if_neg (by omega)]
      · rw [if_neg e3, if_neg e3]; dsimp only; rw [if_neg (by omega)]
theorem SRow.other {w : World} {T N : Nat} {sh sn : Nat → Int} (h : SRow w T N sh sn) {a : Addr} (ha : T ≠ a.block) (v : Value) : SRow (w.setCell a v) T N sh sn := World.rowIs.setOther h ha v
theorem SRow.alloc {w : World} {T N : Nat} {sh sn : Nat → Int} (h : SRow w T N sh sn) (o : Obj) : SRow (w.alloc o) T N sh sn := World.rowIs.alloc h o
theorem SRow.drew {w : World} {T N : Nat} {sh sn : Nat → Int} (h : SRow w T N sh sn) : SRow w.drew T N sh sn := h
theorem SRow.below {B : Nat} {w w' : World} {T N : Nat} {sh sn : Nat → Int} (h : SRow w T N sh sn) (hb : Below B w w') (hlt : T < B) : SRow w' T N sh sn := World.rowIs.of_block h (hb.block T hlt)
theorem SRow.congr {w : World} {T N : Nat} {sh sn sh' sn' : Nat → Int} (h : SRow w T N sh sn) (e : ∀ i, i < N → sh i = sh' i ∧ sn i = sn' i) : SRow w T N sh' sn' :=
  World.rowIs.congr h (fun i hi => by rw [(e (i / 2) (by omega)).1, (e (i / 2) (by omega)).2])

def holOf (N e : Nat) (H S : Nat → Int) (r c : Nat) : Nat := Pl.hol (kkOf N e H) (ocOf N e S) r c
def srcOf (N e : Nat) (H S : Nat → Int) (r c s : Nat) : Nat := Pl.src (kkOf N e H) (ocOf N e S) r c s

/-- What shifting back has left when the places up to c have been gone through. -/
def Shf (N e : Nat) (H S : Nat → Int) (r c : Nat) (sh sn : Nat → Int) : Prop :=
  ∀ s, 1 ≤ s → s ≤ N → sh (P N e s) = H (P N e (srcOf N e H S r c s)) ∧ sn (P N e s) = S (P N e (srcOf N e H S r c s))

section
variable {N e r c : Nat} {H S sh sn : Nat → Int} {h n : Int}

theorem Shf.start (L : Pl.Lin N r (kkOf N e H) (ocOf N e S)) : Shf N e H S r r H S := by
  intro s h1 h2
  have : srcOf N e H S r r s = s := by
    have h1r := L.r1
    obtain ⟨q, hq⟩ : ∃ q, r = q + 1 := ⟨r - 1, by omega⟩
    have h0 : ∀ t, t ≤ q → Pl.src (kkOf N e H) (ocOf N e S) r t s = s := by
      intro t ht
      induction t with
      | zero => rfl
      | succ t ih =>
        have hh := Pl.hol_before (kk := kkOf N e H) (oc := ocOf N e S) t (by omega) L
        rw [Pl.src, if_neg, ih (by omega)]
        rintro ⟨_, x⟩
        omega
    have := (Pl.at_r L q hq.symm).2.2 s
    unfold srcOf
    rw [hq] at this ⊢
    rw [this, ← hq]
    exact h0 q (Nat.le_refl _)
  rw [this]
  exact ⟨rfl, rfl⟩

/-- The next place is as it was. -/
theorem Shf.next (g : Shf N e H S r c sh sn) (hc : c + 1 ≤ N) : sh (P N e (c + 1)) = H (P N e (c + 1)) ∧ sn (P N e (c + 1)) = S (P N e (c + 1)) := by
  have := g (c + 1) (by omega) hc
  unfold srcOf at this
  rwa [Pl.src_above c (c + 1) (by omega)] at this

theorem Shf.stay (g : Shf N e H S r c sh sn) (hr : r ≤ c) (hk : ¬ kkOf N e H (c + 1) ≤ holOf N e H S r c) : holOf N e H S r (c + 1) = holOf N e H S r c ∧ Shf N e H S r (c + 1) sh sn := by
  obtain ⟨a, b⟩ := Pl.stay (kk := kkOf N e H) (oc := ocOf N e S) (r := r) c (by omega) (fun x => hk x.2)
  refine ⟨a, fun s h1 h2 => ?_⟩
  unfold srcOf
  rw [b s]
  exact g s h1 h2

theorem Shf.move (g : Shf N e H S r c sh sn) (hN : 1 ≤ N) (L : Pl.Lin N r (kkOf N e H) (ocOf N e S)) (hr : r ≤ c) (hc : c + 1 ≤ N) (ho : S (P N e (c + 1)) ≠ 0) (hk : kkOf N e H (c + 1) ≤ holOf N e H S r c) :
    holOf N e H S r (c + 1) = c + 1 ∧ Shf N e H S r (c + 1) (fun j => if j = P N e (holOf N e H S r c) then H (P N e (c + 1)) else sh j) (fun j => if j = P N e (holOf N e H S r c) then S (P N e (c + 1)) else sn j) := by
  obtain ⟨a, b⟩ := Pl.move (kk := kkOf N e H) (oc := ocOf N e S) (r := r) c (by omega) (ocOf_true.2 ho) hk
  have hl := Pl.hol_le (kk := kkOf N e H) (oc := ocOf N e S) (r := r) c
  have hf := Pl.hol_from L c hr
  have hr1 := L.r1
  refine ⟨a, fun s h1 h2 => ?_⟩
  have hg := g s h1 h2
  unfold srcOf holOf at *
  rw [b s]
  by_cases e1 : s = Pl.hol (kkOf N e H) (ocOf N e S) r c
  · rw [if_pos e1, e1]; simp
  · have e2 : ¬ P N e s = P N e (Pl.hol (kkOf N e H) (ocOf N e S) r c) := fun x => e1 (P_inj hN e s _ h1 (by omega) h2 (by omega) x)
    rw [if_neg e1]
    simp only [e2, if_false]
    exact hg

/-- At the first empty place: the hole cleared, the table is what inserting afresh leaves. -/
theorem Shf.done (g : Shf N e H S r c sh sn) (hN : 1 ≤ N) (L : Pl.Lin N r (kkOf N e H) (ocOf N e S)) (hr : r ≤ c) (hc : c + 1 ≤ N) (ho : S (P N e (c + 1)) = 0) :
    Tab N e H S r N (fun j => if j = P N e (holOf N e H S r c) then 0 else sh j) (fun j => if j = P N e (holOf N e H S r c) then 0 else sn j) := by
  have hl := Pl.hol_le (kk := kkOf N e H) (oc := ocOf N e S) (r := r) c
  have hf := Pl.hol_from L c hr
  have hr1 := L.r1
  intro s h1 h2
  have hg := g s h1 h2
  have l1 := Pl.law (fun x => H (P N e x)) L (c + 1) (by omega) hc (ocOf_false.2 ho) s h2
  have l2 := Pl.law (fun x => S (P N e x)) L (c + 1) (by omega) hc (ocOf_false.2 ho) s h2
  unfold mkOf
  unfold srcOf holOf at *
  rw [l1, l2, Nat.add_sub_cancel]
  by_cases e1 : s = Pl.hol (kkOf N e H) (ocOf N e S) r c
  · rw [if_pos e1, e1]; simp
  · have e2 : ¬ P N e s = P N e (Pl.hol (kkOf N e H) (ocOf N e S) r c) := fun x => e1 (P_inj hN e s _ h1 (by omega) h2 (by omega) x)
    rw [if_neg e1, if_neg e1]
    simp only [e2, if_false]
    exact hg

theorem hol_range (L : Pl.Lin N r (kkOf N e H) (ocOf N e S)) (hr : r ≤ c) : 1 ≤ holOf N e H S r c ∧ holOf N e H S r c ≤ c := by
  have hl := Pl.hol_le (kk := kkOf N e H) (oc := ocOf N e S) (r := r) c
  have hf := Pl.hol_from L c hr
  have hr1 := L.r1
  unfold holOf
  omega
end

/-- What the index's struct and its slots are. -/
structure Idx (w : World) (X T N : Nat) (sh sn : Nat → Int) (used warmed : Int) : Prop where
  ne : T ≠ X
  slots : w.cell? ⟨X, 0, none⟩ = some (.slice (some ⟨T, 0, none⟩) N N)
  used : w.cell? ⟨X, 1, none⟩ = some (.int .i64 used)
  warmed : w.cell? ⟨X, 2, none⟩ = some (.int .u32 warmed)
  fz : w.frozen? ⟨X, 1, none⟩ = false
  row : SRow w T N sh sn

theorem Idx.put {w : World} {X T N : Nat} {sh sn : Nat → Int} {used warmed : Int} (h : Idx w X T N sh sn used warmed) (i : Nat) (u v : Int) :
    Idx ((w.setCell ⟨T, i * 2, none⟩ (.int .u32 u)).setCell ⟨T, i * 2 + 1, none⟩ (.int .u32 v)) X T N (fun j => if j = i then u else sh j) (fun j => if j = i then v else sn j) used warmed := by
  have o : ∀ q (x y : Value), ((w.setCell ⟨T, i * 2, none⟩ x).setCell ⟨T, i * 2 + 1, none⟩ y).cell? ⟨X, q, none⟩ = w.cell? ⟨X, q, none⟩ := fun q x y => by
    rw [World.cell?_setCell_other _ _ _ _ (fun e => h.ne (by have := congrArg Addr.block e; simpa using this)), World.cell?_setCell_other _ _ _ _ (fun e => h.ne (by have := congrArg Addr.block e; simpa using this))]
  exact ⟨h.ne, by rw [o]; exact h.slots, by rw [o]; exact h.used, by rw [o]; exact h.warmed, by simpa using h.fz, h.row.put i u v⟩
theorem Idx.setUsed {w : World} {X T N : Nat} {sh sn : Nat → Int} {used warmed : Int} (h : Idx w X T N sh sn used warmed) (u : Int) : Idx (w.setCell ⟨X, 1, none⟩ (.int .i64 u)) X T N sh sn u warmed :=
  ⟨h.ne, by rw [World.cell?_setCell_other _ _ _ _ (by simp)]; exact h.slots, World.cell?_setCell_same _ _ _ h.used, by rw [World.cell?_setCell_other _ _ _ _ (by simp)]; exact h.warmed, by simpa using h.fz, h.row.other h.ne _⟩
theorem Idx.drew {w : World} {X T N : Nat} {sh sn : Nat → Int} {used warmed : Int} (h : Idx w X T N sh sn used warmed) : Idx w.drew X T N sh sn used warmed := ⟨h.ne, h.slots, h.used, h.warmed, h.fz, h.row⟩

set_option maxHeartbeats 1000000 in
set_option maxRecDepth 100000 in
theorem remove_any (X T N e0 r B : Nat) (H S : Nat → Int) (h n used warmed : Int) (w : World) (hN : N ≤ 4096) (hg : Good N e0 H S h n) (L : Pl.Lin N r (kkOf N e0 H) (ocOf N e0 S)) (hr1 : S (P N e0 r) = n) (hr2 : H (P N e0 r) = h) (hru : ∀ t, 1 ≤ t → t ≤ N → S (P N e0 t) = n → t = r)
    (hX : B ≤ X) (hTB : B ≤ T) (hI : Idx w X T N H S used warmed) :
    Calls Try.prog 9 #[.pointer (some ⟨X, 0, none⟩), .int .u32 h, .int .u32 n] w fun e w' => e = .returned (.tuple #[]) ∧ Below B w w' ∧ w'.heap.size = w.heap.size ∧ ∃ sh sn, Idx w' X T N sh sn (wrap64 (used - 1)) warmed ∧ Tab N e0 H S r N sh sn := by
  have hN1 := hg.one
  have HM : Hid (∀ x : Int, bits .and .u32 x ((N : Int) - 1) = x % (N : Int)) := by
    obtain ⟨m, hm31, hpow⟩ := hg.pow
    rw [hpow]; exact mask_u32 m hm31
  have HD : Hid ((N : Int) ∣ 4294967296) := by
    obtain ⟨m, hm31, hpow⟩ := hg.pow
    have h32 : (4294967296 : Int) = ((2 ^ 32 : Nat) : Int) := by decide
    rw [hpow, h32]
    exact Int.natCast_dvd_natCast.2 (Nat.pow_dvd_pow 2 (by omega))
  have HG : Hid (Good N e0 H S h n) := hg
  have HL : Hid (Pl.Lin N r (kkOf N e0 H) (ocOf N e0 S)) := L
  have HU : Hid (S (P N e0 r) = n ∧ H (P N e0 r) = h ∧ ∀ t, 1 ≤ t → t ≤ N → S (P N e0 t) = n → t = r) := ⟨hr1, hr2, hru⟩
  have hkr : kkOf N e0 H r ≤ r := by unfold kkOf; omega
  have hk1 : 1 ≤ kkOf N e0 H r := L.k1 r L.r1 L.rN L.ocr
  have hrN : r < N := L.rlt
  have eK : bits .and .u32 h ((N : Int) - 1) = ((P N e0 (kkOf N e0 H r) : Nat) : Int) := by
    rw [HM.out, ← hr2, ← hm_cast hN1, home hN1 e0 H r (by have := (hg.run r L.r1 L.rN (ocOf_true.1 L.ocr)).1; omega)]
    rfl
  clear hg L hr1 hr2 hru
  have x0 := hI.slots
  go_enter Try.func9, Try.ntmps9
  go_wp2
  go_loopg [7] (r - kkOf N e0 H r) (fun g s7 wr => wr = w ∧ ∃ s : Nat, kkOf N e0 H r ≤ s ∧ s ≤ r ∧ g = r - s ∧ s7 = .int .u32 (P N e0 s))
  case atStart => exact ⟨rfl, kkOf N e0 H r, Nat.le_refl _, hkr, rfl, rfl⟩
  case round =>
    obtain ⟨rfl, s, hs1, hs2, rfl, rfl⟩ := hrel
    have hps := P_lt hN1 e0 s
    have g1 := hI.row.num hps
    by_cases hlt : s < r
    · have v1 : (S (P N e0 s) != n) = true := bne_iff_ne.2 (fun x => by have := HU.out.2.2 s (by omega) (by omega) x; omega)
      have eQ : bits .and .u32 ((P N e0 s : Int) + 1) ((N : Int) - 1) = ((P N e0 (s + 1) : Nat) : Int) := by rw [HM.out, P_succ hN1, Int.natCast_emod]; simp
      clear hI
      go_wp2
      go_roundg (r - (s + 1))
      case measure => go_light; omega
      case rel => go_light; exact ⟨rfl, s + 1, by omega, by omega, rfl, rfl⟩
    · obtain rfl : s = r := by omega
      have v1 : (S (P N e0 s) != n) = false := by rw [HU.out.1]; simp
      have eQ : bits .and .u32 ((P N e0 s : Int) + 1) ((N : Int) - 1) = ((P N e0 (s + 1) : Nat) : Int) := by rw [HM.out, P_succ hN1, Int.natCast_emod]; simp
      go_wp2
      clear x0 v1 g1 eK eQ
      go_loopg [7, 8] (N - s) (fun g s7 s8 wx => ∃ c : Nat, s ≤ c ∧ c + 1 ≤ N ∧ g = N - c ∧ s7 = .int .u32 (P N e0 (holOf N e0 H S s c)) ∧ s8 = .int .u32 (P N e0 (c + 1)) ∧ Below B wr wx ∧ wx.heap.size = wr.heap.size ∧ ∃ sh sn, Idx wx X T N sh sn used warmed ∧ Shf N e0 H S s c sh sn)
      case atStart => exact ⟨s, Nat.le_refl _, by omega, rfl, by rw [show holOf N e0 H S s s = s from Pl.hol_at HL.out], rfl, Below.refl _ _, rfl, H, S, hI, Shf.start HL.out⟩
      case round =>
        obtain ⟨c, hc1, hc2, rfl, rfl, rfl, hB, hsz, sh, sn, hI2, hF⟩ := hrel
        clear hI
        have hpj := P_lt hN1 e0 (c + 1)
        have hph := P_lt hN1 e0 (holOf N e0 H S s c)
        have hhr := hol_range (H := H) (S := S) HL.out hc1
        have x0 := hI2.slots
        have g1 := hI2.row.num hpj
        have g2 := hI2.row.hash hpj
        rw [(hF.next hc2).1] at g2
        rw [(hF.next hc2).2] at g1
        have g3 := hI2.row.hash hph
        have g4 := hI2.row.num hph
        have g5 := hI2.row.frozen (P N e0 (holOf N e0 H S s c) * 2)
        have g6 := hI2.row.frozen (P N e0 (holOf N e0 H S s c) * 2 + 1)
        by_cases u1 : S (P N e0 (c + 1)) = 0
        · have v1 : (S (P N e0 (c + 1)) != 0) = false := by rw [u1]; rfl
          have x1 : ∀ u v, ((wr.setCell ⟨T, P N e0 (holOf N e0 H S s c) * 2, none⟩ u).setCell ⟨T, P N e0 (holOf N e0 H S s c) * 2 + 1, none⟩ v).cell? ⟨X, 1, none⟩ = some (.int .i64 used) := fun u v => by
            rw [World.cell?_setCell_other _ _ _ _ (fun e => hI2.ne (by have := congrArg Addr.block e; simpa using this)), World.cell?_setCell_other _ _ _ _ (fun e => hI2.ne (by have := congrArg Addr.block e; simpa using this))]
            exact hI2.used
          have x2 := hI2.fz
          have HF : Hid (Tab N e0 H S s N (fun j => if j = P N e0 (holOf N e0 H S s c) then 0 else sh j) (fun j => if j = P N e0 (holOf N e0 H S s c) then 0 else sn j)) := hF.done hN1 HL.out hc1 hc2 u1
          have HI : Hid (Idx (((wr.setCell ⟨T, P N e0 (holOf N e0 H S s c) * 2, none⟩ (.int .u32 0)).setCell ⟨T, P N e0 (holOf N e0 H S s c) * 2 + 1, none⟩ (.int .u32 0)).setCell ⟨X, 1, none⟩ (.int .i64 (wrap64 (used - 1)))) X T N (fun j => if j = P N e0 (holOf N e0 H S s c) then 0 else sh j) (fun j => if j = P N e0 (holOf N e0 H S s c) then 0 else sn j) (wrap64 (used - 1)) warmed) := (hI2.put _ 0 0).setUsed _
          go_wp2
          go_end0
          exact ⟨rfl, ((hB.setCell (by exact hTB) _).setCell (by exact hTB) _).setCell (by exact hX) _, by simp [hsz], _, _, HI.out, HF.out⟩
        · have v1 : (S (P N e0 (c + 1)) != 0) = true := bne_iff_ne.2 u1
          have eK : bits .and .u32 (H (P N e0 (c + 1))) ((N : Int) - 1) = ((hm N H (P N e0 (c + 1)) : Nat) : Int) := by rw [HM.out, hm_cast hN1]
          have hk := hm_lt hN1 H (P N e0 (c + 1))
          have eD : bits .and .u32 (((P N e0 (c + 1) : Int) - (hm N H (P N e0 (c + 1)) : Int)) % 4294967296) ((N : Int) - 1) = ((dsp N e0 H (c + 1) : Nat) : Int) := by rw [HM.out, Int.emod_emod_of_dvd _ HD.out, dsp_cast hN1]
          have eE : bits .and .u32 (((P N e0 (c + 1) : Int) - (P N e0 (holOf N e0 H S s c) : Int)) % 4294967296) ((N : Int) - 1) = ((c + 1 - holOf N e0 H S s c : Nat) : Int) := by rw [HM.out, Int.emod_emod_of_dvd _ HD.out, P_diff hN1 e0 _ _ (by omega) (by omega)]
          have hcN : c + 1 < N := HL.out.tlt hc2 (ocOf_true.2 u1)
          have eQ : bits .and .u32 ((P N e0 (c + 1) : Int) + 1) ((N : Int) - 1) = ((P N e0 (c + 1 + 1) : Nat) : Int) := by rw [HM.out, P_succ hN1 e0 (c + 1), Int.natCast_emod]; simp
          have hdl := (HG.out.run (c + 1) (by omega) hc2 u1).1
          by_cases u2 : c + 1 - holOf N e0 H S s c ≤ dsp N e0 H (c + 1)
          · have hk2 : kkOf N e0 H (c + 1) ≤ holOf N e0 H S s c := by unfold kkOf; omega
            have HF := hF.move hN1 HL.out hc1 hc2 u1 hk2
            have HI : Hid (Idx ((wr.setCell ⟨T, P N e0 (holOf N e0 H S s c) * 2, none⟩ (.int .u32 (H (P N e0 (c + 1))))).setCell ⟨T, P N e0 (holOf N e0 H S s c) * 2 + 1, none⟩ (.int .u32 (S (P N e0 (c + 1))))) X T N (fun j => if j = P N e0 (holOf N e0 H S s c) then H (P N e0 (c + 1)) else sh j) (fun j => if j = P N e0 (holOf N e0 H S s c) then S (P N e0 (c + 1)) else sn j) used warmed) := hI2.put _ _ _
            have HFF : Hid (holOf N e0 H S s (c + 1) = c + 1 ∧ Shf N e0 H S s (c + 1) (fun j => if j = P N e0 (holOf N e0 H S s c) then H (P N e0 (c + 1)) else sh j) (fun j => if j = P N e0 (holOf N e0 H S s c) then S (P N e0 (c + 1)) else sn j)) := HF
            clear HF hF hI2
            go_wp2
            go_region
            all_goals go_wp2
            go_roundg (N - (c + 1))
            case measure => go_light; omega
            case rel =>
              go_light
              exact ⟨c + 1, by omega, by omega, rfl, by rw [HFF.out.1], rfl, ((hB.setCell (by exact hTB) _).setCell (by exact hTB) _).drew, by simp [hsz], _, _, HI.out.drew, HFF.out.2⟩
          · have HF := hF.stay hc1 (by unfold kkOf; omega)
            go_wp2
            go_roundg (N - (c + 1))
            case measure => go_light; omega
            case rel => go_light; exact ⟨c + 1, by omega, by omega, rfl, by rw [HF.1], rfl, hB, hsz, sh, sn, hI2, HF.2⟩
end Go.Proofs.Qxb6623391a
