/- ZZUnindex. -/
import Derived.Test.Qxb6623513aUnix
namespace Go.Proofs.Qxb6623513a
open Go.RowKit
set_option linter.unusedVariables false
theorem Try.info40 : (Try.prog.info? 40).map (fun i => (i.zero, i.size, i.bytes)) = some (some (.agg #[.int .u64 0, .int .u64 0, .int .i64 0, .int .i64 0, .int .u8 0, .int .i32 0]), 6, 48) := by kernel_rfl
theorem Try.info31 : (Try.prog.info? 31).map (fun i => (i.zero, i.size, i.bytes)) = some (some (.agg #[.int .u64 0, .int .u64 0]), 2, 16) := by kernel_rfl
theorem make34 (N : Nat) (hN : N ≤ 65536) (w : World) : (Instr.makeSlice 34 (.int .i64 (N : Int)) (.int .i64 (N : Int))).run Try.prog w = .ok (.slice (some ⟨w.heap.size, 0, none⟩) N N) (w.alloc (.cells (madeCells #[.int .u64 0, .int .u64 0, .int .i64 0, .int .i64 0, .int .u8 0, .int .i32 0] (N * 6)) 40)) := by
  obtain ⟨i, hi, hz⟩ := Option.map_eq_some_iff.1 Try.info40
  simp only [Prod.mk.injEq] at hz
  obtain ⟨hz, hs, hb⟩ := hz
  have hr := run_make (P := Try.prog) w 34 40 i _ Try.underlying34 hi hz .i64 .i64 N N (by omega) (Int.le_refl _) (by rw [hb]; omega) (by omega)
  simp only [Int.toNat_natCast, hs] at hr
  exact hr
theorem make22 (N : Nat) (hN : N ≤ 65536) (w : World) : (Instr.makeSlice 22 (.int .i64 (N : Int)) (.int .i64 (N : Int))).run Try.prog w = .ok (.slice (some ⟨w.heap.size, 0, none⟩) N N) (w.alloc (.cells (madeCells #[.int .u64 0, .int .u64 0] (N * 2)) 31)) := by
  obtain ⟨i, hi, hz⟩ := Option.map_eq_some_iff.1 Try.info31
  simp only [Prod.mk.injEq] at hz
  obtain ⟨hz, hs, hb⟩ := hz
  have hr := run_make (P := Try.prog) w 22 31 i _ Try.underlying22 hi hz .i64 .i64 N N (by omega) (Int.le_refl _) (by rw [hb]; omega) (by omega)
  simp only [Int.toNat_natCast, hs] at hr
  exact hr

/-- What lies at cell q of an element whose first two cells are a and b. -/
def elt (m : Nat) (K0 K1 : Nat → Int) (i : Nat) : Value :=
  if i % m = 0 then .int .u64 (K0 (i / m)) else if i % m = 1 then .int .u64 (K1 (i / m)) else if i % m = 2 then .int .i64 0 else if i % m = 3 then .int .i64 0 else if i % m = 4 then .int .u8 0 else .int .i32 0

/-- Block b is a row of n elements of m cells each, whose first two cells are the pair. -/
def Prs (m : Nat) (w : World) (b t n : Nat) (K0 K1 : Nat → Int) : Prop := w.rowIs b t (n * m) (elt m K0 K1)

section
variable {m : Nat} {w w' : World} {b t n : Nat} {K0 K1 : Nat → Int}
theorem Prs.c0 (hm : m = 2 ∨ m = 6) (h : Prs m w b t n K0 K1) {i : Nat} (hi : i < n) : w.cell? ⟨b, i * m, none⟩ = some (.int .u64 (K0 i)) := by
  have := World.rowIs.cell h (i := i * m) (by rcases hm with rfl | rfl <;> omega)
  rw [this]
  unfold elt
  rcases hm with rfl | rfl
  · rw [if_pos (by omega), show i * 2 / 2 = i by omega]
  · rw [if_pos (by omega), show i * 6 / 6 = i by omega]
theorem Prs.c1 (hm : m = 2 ∨ m = 6) (h : Prs m w b t n K0 K1) {i : Nat} (hi : i < n) : w.cell? ⟨b, i * m + 1, none⟩ = some (.int .u64 (K1 i)) := by
  have := World.rowIs.cell h (i := i * m + 1) (by rcases hm with rfl | rfl <;> omega)
  rw [this]
  unfold elt
  rcases hm with rfl | rfl
  · rw [if_neg (by omega), if_pos (by omega), show (i * 2 + 1) / 2 = i by omega]
  · rw [if_neg (by omega), if_pos (by omega), show (i * 6 + 1) / 6 = i by omega]
theorem Prs.frozen (h : Prs m w b t n K0 K1) (i : Nat) : w.frozen? ⟨b, i, none⟩ = false := World.rowIs.frozen h i
theorem Prs.lt (h : Prs m w b t n K0 K1) : b < w.heap.size := World.rowIs.lt h
theorem Prs.put (hm : m = 2 ∨ m = 6) (h : Prs m w b t n K0 K1) (i : Nat) (u v : Int) :
    Prs m ((w.setCell ⟨b, i * m, none⟩ (.int .u64 u)).setCell ⟨b, i * m + 1, none⟩ (.int .u64 v)) b t n (fun j => if j = i then u else K0 j) (fun j => if j = i then v else K1 j) := by
  refine ((World.rowIs.set h (i * m) (.int .u64 u)).set (i * m + 1) (.int .u64 v)).congr (fun j _ => ?_)
  unfold elt
  rcases hm with rfl | rfl
  · by_cases e1 : j = i * 2 + 1
    · subst e1
      rw [if_pos rfl, if_neg (by omega), if_pos (by omega)]; dsimp only; rw [if_pos (by omega)]
    · rw [if_neg e1]
      by_cases e2 : j = i * 2
      · subst e2
        rw [if_pos rfl, if_pos (by omega)]; dsimp only; rw [if_pos (by omega)]
      · rw [if_neg e2]
        by_cases e3 : j % 2 = 0
        · rw [if_pos e3, if_pos e3]; dsimp only; rw [if_neg (by omega)]
        · rw [if_neg e3, if_neg e3]
          by_cases e4 : j % 2 = 1
          · rw [if_pos e4, if_pos e4]; dsimp only; rw [if_neg (by omega)]
          · rw [if_neg e4, if_neg e4]
  · by_cases e1 : j = i * 6 + 1
    · subst e1
      rw [if_pos rfl, if_neg (by omega), if_pos (by omega)]; dsimp only; rw [if_pos (by omega)]
    · rw [if_neg e1]
      by_cases e2 : j = i * 6
      · subst e2
        rw [if_pos rfl, if_pos (by omega)]; dsimp only; rw [if_pos (by omega)]
      · rw [if_neg e2]
        by_cases e3 : j % 6 = 0
        · rw [if_pos e3, if_pos e3]; dsimp only; rw [if_neg (by omega)]
        · rw [if_neg e3, if_neg e3]
          by_cases e4 : j % 6 = 1
          · rw [if_pos e4, if_pos e4]; dsimp only; rw [if_neg (by omega)]
          · rw [if_neg e4, if_neg e4]
theorem Prs.other (h : Prs m w b t n K0 K1) {a : Addr} (ha : b ≠ a.block) (v : Value) : Prs m (w.setCell a v) b t n K0 K1 := World.rowIs.setOther h ha v
theorem Prs.alloc (h : Prs m w b t n K0 K1) (o : Obj) : Prs m (w.alloc o) b t n K0 K1 := World.rowIs.alloc h o
theorem Prs.drewN (h : Prs m w b t n K0 K1) (q : Nat) : Prs m (w.drewN q) b t n K0 K1 := h
theorem Prs.drew (h : Prs m w b t n K0 K1) : Prs m w.drew b t n K0 K1 := h
theorem Prs.block (h : Prs m w b t n K0 K1) (e : w'.heap[b]? = w.heap[b]?) : Prs m w' b t n K0 K1 := World.rowIs.of_block h e
theorem Prs.congr {L0 L1 : Nat → Int} (hm : m = 2 ∨ m = 6) (h : Prs m w b t n K0 K1) (e : ∀ i, i < n → K0 i = L0 i ∧ K1 i = L1 i) : Prs m w b t n L0 L1 :=
  World.rowIs.congr h (fun i hi => by
    have : i / m < n := by rcases hm with rfl | rfl <;> omega
    unfold elt
    rw [(e _ this).1, (e _ this).2])
theorem Prs.made6 (w : World) (n : Nat) : Prs 6 (w.alloc (.cells (madeCells #[.int .u64 0, .int .u64 0, .int .i64 0, .int .i64 0, .int .u8 0, .int .i32 0] (n * 6)) 40)) w.heap.size 40 n (fun _ => 0) (fun _ => 0) := by
  refine ⟨_, Go.Deep.blk_alloc_new _ _, by rw [size_madeCells], fun i hi => ?_⟩
  have : (madeCells #[Value.int .u64 0, .int .u64 0, .int .i64 0, .int .i64 0, .int .u8 0, .int .i32 0] (n * 6))[i]? = some (#[Value.int .u64 0, .int .u64 0, .int .i64 0, .int .i64 0, .int .u8 0, .int .i32 0][i % 6]!) := by simp [madeCells, hi]
  rw [this]
  unfold elt
  rcases (show i % 6 = 0 ∨ i % 6 = 1 ∨ i % 6 = 2 ∨ i % 6 = 3 ∨ i % 6 = 4 ∨ i % 6 = 5 by omega) with e | e | e | e | e | e <;> simp [e]
theorem Prs.made2 (w : World) (n : Nat) : Prs 2 (w.alloc (.cells (madeCells #[.int .u64 0, .int .u64 0] (n * 2)) 31)) w.heap.size 31 n (fun _ => 0) (fun _ => 0) := by
  refine ⟨_, Go.Deep.blk_alloc_new _ _, by rw [size_madeCells], fun i hi => ?_⟩
  have : (madeCells #[Value.int .u64 0, .int .u64 0] (n * 2))[i]? = some (#[Value.int .u64 0, .int .u64 0][i % 2]!) := by simp [madeCells, hi]
  rw [this]
  unfold elt
  rcases (show i % 2 = 0 ∨ i % 2 = 1 by omega) with e | e <;> simp [e]
end

theorem alloc_cell (w : World) (c : Array Value) (t : TypeId) (b q : Nat) (v : Value) (hb : b = w.heap.size) (hq : c[q]? = some v) : (w.alloc (.cells c t)).cell? ⟨b, q, none⟩ = some v := by
  subst hb; rw [World.cell?_alloc_new]; exact hq

theorem Tbl.alloc {w : World} {X S nk T N : Nat} {K0 ix : Nat → Int} (h : Tbl w X S nk T N K0 ix) (o : Obj) (hX : X < w.heap.size) (hS : S < w.heap.size) : Tbl (w.alloc o) X S nk T N K0 ix :=
  ⟨h.neX, h.neS, by rw [World.cell?_alloc_old _ _ _ (by show X ≠ w.heap.size; omega)]; exact h.slots, by rw [World.cell?_alloc_old _ _ _ (by show X ≠ w.heap.size; omega)]; exact h.index,
   fun i hi => by rw [World.cell?_alloc_old _ _ _ (by show S ≠ w.heap.size; omega)]; exact h.key i hi, h.row.alloc o⟩
theorem Tbl.other {w : World} {X S nk T N : Nat} {K0 ix : Nat → Int} (h : Tbl w X S nk T N K0 ix) {a : Addr} (hX : X ≠ a.block) (hS : S ≠ a.block) (hT : T ≠ a.block) (v : Value) : Tbl (w.setCell a v) X S nk T N K0 ix :=
  ⟨h.neX, h.neS, by rw [World.cell?_setCell_other _ _ _ _ (fun e => hX (by rw [e]))]; exact h.slots, by rw [World.cell?_setCell_other _ _ _ _ (fun e => hX (by rw [e]))]; exact h.index,
   fun i hi => by rw [World.cell?_setCell_other _ _ _ _ (fun e => hS (by rw [e]))]; exact h.key i hi, h.row.other hT v⟩

/-- Of the blocks below B nothing but T has changed. -/
structure Rst (T B : Nat) (w w' : World) : Prop where
  below : Below T w w'
  rest : ∀ b, b < B → b ≠ T → w'.heap[b]? = w.heap[b]?
theorem Rst.of {T B : Nat} {w w' : World} (hT : T ≤ B) (h : Below B w w') : Rst T B w w' := ⟨h.mono hT, fun b hb _ => h.block b hb⟩
theorem Rst.onl {T B : Nat} {w w1 w2 : World} (h : Rst T B w w1) (k : Onl T w1 w2) : Rst T B w w2 := ⟨h.below.trans k.below, fun b hb hne => by rw [k.rest b hne, h.rest b hb hne]⟩
theorem Rst.alloc {T B : Nat} {w w1 : World} (h : Rst T B w w1) (hT : T ≤ B) (hB : B ≤ w1.heap.size) (o : Obj) : Rst T B w (w1.alloc o) :=
  ⟨h.below.alloc (by omega) o, fun b hb hne => by rw [Below.heap_alloc _ _ _ (by omega), h.rest b hb hne]⟩
theorem Rst.set {T B : Nat} {w w1 : World} (h : Rst T B w w1) (hT : T ≤ B) {a : Addr} (hB : B ≤ a.block) (v : Value) : Rst T B w (w1.setCell a v) :=
  ⟨h.below.setCell (by omega) v, fun b hb hne => by rw [Below.heap_setCell _ _ _ _ (by omega), h.rest b hb hne]⟩
theorem Rst.drew {T B : Nat} {w w1 : World} (h : Rst T B w w1) : Rst T B w w1.drew := ⟨h.below.drew, h.rest⟩
theorem Rst.drewN {T B : Nat} {w w1 : World} (h : Rst T B w w1) (q : Nat) : Rst T B w (w1.drewN q) := ⟨⟨h.below.os, h.below.tape, h.below.output, h.below.size, h.below.block⟩, h.rest⟩

def ZzPost (e0 r nk T N : Nat) (K0 K1 I : Nat → Int) (w : World) (e : Ending) (w' : World) : Prop :=
  e = .returned (.tuple #[.slice (some ⟨T, 0, none⟩) N N, .slice (some ⟨w.heap.size + 2, 0, none⟩) nk nk]) ∧ Rst T w.heap.size w w' ∧ Prs 2 w' (w.heap.size + 2) 31 nk K0 K1 ∧ w'.heap.size = w.heap.size + 3 ∧ ∃ ix c, Row w' T N ix ∧ Clr N e0 K0 I r c ix ∧ StopAt N e0 I r c

set_option maxHeartbeats 1000000 in
set_option maxRecDepth 100000 in
theorem zz_any (ka : Option Addr) (nk kc T N e0 r : Nat) (K0 K1 I : Nat → Int) (w : World) (hM : Mask N) (hN : N ≤ 4096) (hnk : nk ≤ 65536) (hw : WF N nk K0 I) (he : e0 < N) (hIe : I e0 = 0) (hr : r < N) (L : Pl.Lin N r (kkOf N e0 (Hs K0 I)) (ocOf N e0 I))
    (hk : KeysF w ka nk K0 K1) (hkb : ∀ p, ka = some p → p.block < w.heap.size) (hT : Row w T N I) :
    Calls Try.prog 9 #[.slice ka nk kc, .slice (some ⟨T, 0, none⟩) N N, .int .i64 (P N e0 r : Nat)] w (ZzPost e0 r nk T N K0 K1 I w) := by
  have HC := hid (fun (X S : Nat) (wx : World) (h : Tbl wx X S nk T N K0 I) => unindex_any X S nk T N e0 r K0 I wx hM hN hnk hw he hIe hr L h)
  have HK := hid hk
  have HKB := hid hkb
  have HT := hid hT
  have hTl := hT.lt
  have h34 := make34 nk hnk
  have h22 := make22 nk hnk
  clear hM hw L hIe hk hkb hT
  go_enter Try.func9, Try.ntmps9
  go_wp2
  clear h34
  go_loopg [18] nk (fun g s17 wr => ∃ i : Nat, i ≤ nk ∧ g = nk - i ∧ s17 = .int .i64 i ∧ Prs 6 wr w.heap.size 40 nk (fun j => if j < i then K0 j else 0) (fun j => if j < i then K1 j else 0) ∧ Below w.heap.size w wr ∧ wr.heap.size = w.heap.size + 1)
  case atStart => exact ⟨0, Nat.zero_le _, rfl, rfl, (Prs.made6 w nk).congr (.inr rfl) (fun i _ => by simp), (Below.refl _ _).alloc (Nat.le_refl _) _, by simp⟩
  case round =>
    obtain ⟨i, hi, rfl, rfl, hI, hB, hsz⟩ := hrel
    by_cases hlt : i < nk
    · obtain ⟨kb, ko, rfl, hkc⟩ := HK.out (by omega)
      have hkb := HKB.out _ rfl
      have g0 : wr.cell? ⟨kb, ko + i * 2, none⟩ = some (.int .u64 (K0 i)) := by rw [hB.cell (p := ⟨kb, ko + i * 2, none⟩) hkb]; exact (hkc i hlt).1
      have g1 : wr.cell? ⟨kb, ko + i * 2 + 1, none⟩ = some (.int .u64 (K1 i)) := by rw [hB.cell (p := ⟨kb, ko + i * 2 + 1, none⟩) hkb]; exact (hkc i hlt).2
      have g3 := hI.c0 (.inr rfl) hlt
      have g4 := hI.c1 (.inr rfl) hlt
      have g5 := hI.frozen (i * 6)
      have g6 := hI.frozen (i * 6 + 1)
      have HI := hid (hI.put (.inr rfl) i (K0 i) (K1 i))
      have HB := hid hB
      simp only [Nat.lt_irrefl, if_false] at g3 g4
      clear hI hkc hB
      go_wp2
      go_roundg (nk - (i + 1))
      case measure => go_light; omega
      case rel =>
        go_light
        refine ⟨i + 1, by omega, rfl, by go_num, (HI.out.congr (.inr rfl) (fun j _ => ?_)), ((HB.out.setCell (Nat.le_refl _) _).setCell (Nat.le_refl _) _), by simp [hsz]⟩
        by_cases e : j = i
        · subst e; simp
        · by_cases e2 : j < i
          · simp [e, e2, show j < i + 1 by omega]
          · simp [e, e2, show ¬ j < i + 1 by omega]
    · obtain rfl : i = nk := by omega
      have hS := hI.congr (.inr rfl) (L0 := K0) (L1 := K1) (fun j hj => by simp [hj])
      have HB := hid hB
      clear hI hB
      go_wp2_with fail
      have hX : Tbl (wr.alloc (.cells #[.slice (some ⟨w.heap.size, 0, none⟩) i i, .slice (some ⟨T, 0, none⟩) N N, .slice none 0 0] 44)) (w.heap.size + 1) w.heap.size i T N K0 I :=
        ⟨by omega, by omega, alloc_cell _ _ _ _ _ _ (by omega) (by simp), alloc_cell _ _ _ _ _ _ (by omega) (by simp), fun j hj => (hS.alloc _).c0 (.inr rfl) hj, ((HT.out.below HB.out hTl).alloc _)⟩
      refine (HC.out _ _ _ hX).mono ?_
      rintro e w1 ⟨rfl, hO, ix, c, hT1, hF1, hS1⟩
      have hR1 : Rst T w.heap.size w w1 := (((Rst.of (by omega) HB.out).alloc (by omega) (by omega) _)).onl hO
      have hs1 : w1.heap.size = w.heap.size + 2 := by rw [hO.size]; simp [hsz]
      have hP1 : Prs 6 w1 w.heap.size 40 i K0 K1 := (hS.alloc _).block (hO.rest _ (by omega))
      have HF1 := hid hF1
      have HS1 := hid hS1
      have HT1 := hid hT1
      have HR1 := hid hR1
      have HP1 := hid hP1
      have x0 := hT1.slots
      have x1 : ∀ o, (w1.alloc o).cell? ⟨w.heap.size + 1, 0, none⟩ = some (.slice (some ⟨w.heap.size, 0, none⟩) i i) := fun o => by rw [World.cell?_alloc_old _ _ _ (by show w.heap.size + 1 ≠ w1.heap.size; omega)]; exact x0
      clear hO hT1 hF1 hS1 hR1 hP1 hX hS HC HB HT hsz
      go_wp2
      clear x0 x1 h22
      go_loopg [48] i (fun g s20 wx => ∃ k : Nat, k ≤ i ∧ g = i - k ∧ s20 = .int .i64 k ∧ Tbl wx (w.heap.size + 1) w.heap.size i T N K0 ix ∧ Prs 6 wx w.heap.size 40 i K0 K1 ∧ Prs 2 wx (w.heap.size + 2) 31 i (fun j => if j < k then K0 j else 0) (fun j => if j < k then K1 j else 0) ∧ Rst T w.heap.size w wx ∧ wx.heap.size = w.heap.size + 3)
      case atStart =>
        have hm := Prs.made2 w1 i
        rw [hs1] at hm
        exact ⟨0, Nat.zero_le _, rfl, rfl, HT1.out.alloc _ (by omega) (by omega), HP1.out.alloc _, hm.congr (.inl rfl) (fun _ _ => by simp), HR1.out.alloc (by omega) (by omega) _, by simp [hs1]⟩
      case round =>
        obtain ⟨k, hk, rfl, rfl, hT, hP, hQ, hR, hsz⟩ := hrel
        have x0 := hT.slots
        clear HT1 HR1 HP1
        by_cases hlt2 : k < i
        · have g0 := hP.c0 (.inr rfl) hlt2
          have g1 := hP.c1 (.inr rfl) hlt2
          have g3 := hQ.c0 (.inl rfl) hlt2
          have g4 := hQ.c1 (.inl rfl) hlt2
          have g5 := hQ.frozen (k * 2)
          have g6 := hQ.frozen (k * 2 + 1)
          have HQ := hid (hQ.put (.inl rfl) k (K0 k) (K1 k))
          have HT := hid hT
          have HP := hid hP
          have HR := hid hR
          simp only [Nat.lt_irrefl, if_false] at g3 g4
          clear hT hP hQ hR
          go_wp2
          go_roundg (i - (k + 1))
          case measure => go_light; omega
          case rel =>
            go_light
            refine ⟨k + 1, by omega, rfl, by go_num, ?_, ?_, HQ.out.congr (.inl rfl) (fun j _ => ?_), (HR.out.set (by omega) (by show w.heap.size ≤ w.heap.size + 2; omega) _).set (by omega) (by show w.heap.size ≤ w.heap.size + 2; omega) _, by simp [hsz]⟩
            · exact (HT.out.other (by simp) (by simp) (by show T ≠ w.heap.size + 2; omega) _).other (by simp) (by simp) (by show T ≠ w.heap.size + 2; omega) _
            · exact (HP.out.other (by simp) _).other (by simp) _
            · by_cases e : j = k
              · subst e; simp
              · by_cases e2 : j < k
                · simp [e, e2, show j < k + 1 by omega]
                · simp [e, e2, show ¬ j < k + 1 by omega]
        · obtain rfl : i = k := by omega
          have x1 := hT.index
          have HQ := hid (hQ.congr (.inl rfl) (L0 := K0) (L1 := K1) (fun j hj => by simp [hj]))
          have HT := hid hT.row
          have HR := hid hR
          clear hT hP hQ hR
          go_wp2
          exact bodyPost_ret (v := .tuple #[.slice (some ⟨T, 0, none⟩) N N, .slice (some ⟨w.heap.size + 2, 0, none⟩) i i]) (by simp [results, Try.results9, go_sem]) rfl ⟨rfl, HR.out, HQ.out, hsz, ix, c, HT.out, HF1.out, HS1.out⟩
end Go.Proofs.Qxb6623513a
