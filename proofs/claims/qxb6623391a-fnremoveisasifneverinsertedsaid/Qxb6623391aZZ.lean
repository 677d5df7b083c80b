/- ZZRemove. -/
import Derived.Test.Qxb6623391aRemove
namespace Go.Proofs.Qxb6623391a
open Go.RowKit
set_option linter.unusedVariables false

theorem Try.info36 : (Try.prog.info? 36).map (fun i => (i.zero, i.size, i.bytes)) = some (some (.agg #[.int .u32 0, .int .u32 0]), 2, 8) := by kernel_rfl

theorem make_slots (N : Nat) (hN : N ≤ 4096) (w : World) : (Instr.makeSlice 32 (.int .i64 (N : Int)) (.int .i64 (N : Int))).run Try.prog w = .ok (.slice (some ⟨w.heap.size, 0, none⟩) N N) (w.alloc (.cells (madeCells #[.int .u32 0, .int .u32 0] (N * 2)) 36)) := by
  obtain ⟨i, hi, hz⟩ := Option.map_eq_some_iff.1 Try.info36
  simp only [Prod.mk.injEq] at hz
  obtain ⟨hz, hs, hb⟩ := hz
  have hr := run_make (P := Try.prog) w 32 36 i _ Try.underlying32 hi hz .i64 .i64 N N (by omega) (Int.le_refl _) (by rw [hb]; omega) (by omega)
  simp only [Int.toNat_natCast, hs] at hr
  exact hr

theorem SRow.made (w : World) (N : Nat) : SRow (w.alloc (.cells (madeCells #[.int .u32 0, .int .u32 0] (N * 2)) 36)) w.heap.size N (fun _ => 0) (fun _ => 0) := by
  refine ⟨_, Go.Deep.blk_alloc_new _ _, by rw [size_madeCells]; omega, fun i hi => ?_⟩
  have h2 : i < N * 2 := by omega
  have : (madeCells #[Value.int .u32 0, .int .u32 0] (N * 2))[i]? = some (#[Value.int .u32 0, .int .u32 0][i % 2]!) := by simp [madeCells, h2]
  rw [this]
  rcases (show i % 2 = 0 ∨ i % 2 = 1 by omega) with e | e <;> simp [e]

theorem alloc_cell (w : World) (c : Array Value) (t : TypeId) (b q : Nat) (v : Value) (hb : b = w.heap.size) (hq : c[q]? = some v) : (w.alloc (.cells c t)).cell? ⟨b, q, none⟩ = some v := by
  subst hb; rw [World.cell?_alloc_new]; exact hq
theorem alloc_frozen (w : World) (c : Array Value) (t : TypeId) (b q : Nat) (hb : b = w.heap.size) : (w.alloc (.cells c t)).frozen? ⟨b, q, none⟩ = false := by
  subst hb; exact World.frozen?_alloc_new ..
theorem Idx.congr {w : World} {X T N : Nat} {sh sn sh' sn' : Nat → Int} {used warmed : Int} (h : Idx w X T N sh sn used warmed) (e : ∀ i, i < N → sh i = sh' i ∧ sn i = sn' i) : Idx w X T N sh' sn' used warmed :=
  ⟨h.ne, h.slots, h.used, h.warmed, h.fz, h.row.congr e⟩

theorem Idx.alloc {w : World} {X T N : Nat} {sh sn : Nat → Int} {used warmed : Int} (h : Idx w X T N sh sn used warmed) (o : Obj) (hX : X < w.heap.size) : Idx (w.alloc o) X T N sh sn used warmed :=
  ⟨h.ne, by rw [World.cell?_alloc_old _ _ _ (by show X ≠ w.heap.size; omega)]; exact h.slots, by rw [World.cell?_alloc_old _ _ _ (by show X ≠ w.heap.size; omega)]; exact h.used, by rw [World.cell?_alloc_old _ _ _ (by show X ≠ w.heap.size; omega)]; exact h.warmed,
   by rw [World.frozen?_alloc_old _ _ _ (by show X ≠ w.heap.size; omega)]; exact h.fz, h.row.alloc o⟩
theorem Idx.other {w : World} {X T N : Nat} {sh sn : Nat → Int} {used warmed : Int} (h : Idx w X T N sh sn used warmed) {a : Addr} (hT : T ≠ a.block) (hX : X ≠ a.block) (v : Value) : Idx (w.setCell a v) X T N sh sn used warmed := by
  have o : ∀ q, (w.setCell a v).cell? ⟨X, q, none⟩ = w.cell? ⟨X, q, none⟩ := fun q => by
    rw [World.cell?_setCell_other _ _ _ _ (fun e => hX (by rw [e]))]
  exact ⟨h.ne, by rw [o]; exact h.slots, by rw [o]; exact h.used, by rw [o]; exact h.warmed, by simpa using h.fz, h.row.other hT v⟩

set_option maxHeartbeats 1000000 in
set_option maxRecDepth 100000 in
theorem zz_any (b0 c0 b1 c1 N e0 r : Nat) (H S : Nat → Int) (used warmed h n : Int) (w : World) (hN : N ≤ 4096) (hg : Good N e0 H S h n) (L : Pl.Lin N r (kkOf N e0 H) (ocOf N e0 S)) (hr1 : S (P N e0 r) = n) (hr2 : H (P N e0 r) = h) (hru : ∀ t, 1 ≤ t → t ≤ N → S (P N e0 t) = n → t = r)
    (hb0 : b0 < w.heap.size) (hb1 : b1 < w.heap.size)
    (hH : ∀ i, i < N → w.cell? ⟨b0, i, none⟩ = some (.int .u32 (H i))) (hS : ∀ i, i < N → w.cell? ⟨b1, i, none⟩ = some (.int .u32 (S i))) :
    Calls Try.prog 8 #[.slice (some ⟨b0, 0, none⟩) N c0, .slice (some ⟨b1, 0, none⟩) N c1, .int .i64 used, .int .u32 warmed, .int .u32 h, .int .u32 n] w fun e w' =>
      e = .returned (.tuple #[.slice (some ⟨w.heap.size + 2, 0, none⟩) N N, .slice (some ⟨w.heap.size + 3, 0, none⟩) N N, .int .i64 (wrap64 (used - 1)), .int .u32 warmed]) ∧ Below w.heap.size w w' ∧
      ∃ sh sn, Row w' (w.heap.size + 2) N sh ∧ Row w' (w.heap.size + 3) N sn ∧ Tab N e0 H S r N sh sn := by
  have hN1 := hg.one
  have HC : Hid (∀ (X T B : Nat) (wx : World), B ≤ X → B ≤ T → Idx wx X T N H S used warmed →
    Calls Try.prog 9 #[.pointer (some ⟨X, 0, none⟩), .int .u32 h, .int .u32 n] wx fun e w' => e = .returned (.tuple #[]) ∧ Below B wx w' ∧ w'.heap.size = wx.heap.size ∧ ∃ sh sn, Idx w' X T N sh sn (wrap64 (used - 1)) warmed ∧ Tab N e0 H S r N sh sn) :=
    fun X T B wx h1 h2 h3 => remove_any X T N e0 r B H S h n used warmed wx hN hg L hr1 hr2 hru h1 h2 h3
  clear hg L hr1 hr2 hru
  have hmk32 := make_slots N hN
  have hmk := run_make_row' (P := Try.prog) 22 23 (.int .u32 0) 4 Try.underlying22 Try.info23 rfl .i64 .i64 N (by omega) (by omega)
  go_enter Try.func8, Try.ntmps8
  go_wp2
  clear hmk32
  go_loopg [17] N (fun g s17 wr => ∃ i : Nat, i ≤ N ∧ g = N - i ∧ s17 = .int .i64 i ∧ Idx wr (w.heap.size + 1) w.heap.size N (fun j => if j < i then H j else 0) (fun j => if j < i then S j else 0) used warmed ∧ Below w.heap.size w wr ∧ wr.heap.size = w.heap.size + 2)
  case atStart =>
    have hR := (SRow.made w N).alloc (.cells #[.slice (some ⟨w.heap.size, 0, none⟩) N N, .int .i64 used, .int .u32 warmed] 34)
    refine ⟨0, Nat.zero_le _, rfl, rfl, ⟨by omega, ?_, ?_, ?_, ?_, hR.congr (fun i _ => by simp)⟩, ((Below.refl _ _).alloc (Nat.le_refl _) _).alloc (by simp) _, by simp⟩
    all_goals first | exact alloc_cell _ _ _ _ _ _ (by simp) (by simp) | exact alloc_frozen _ _ _ _ _ (by simp)
  case round =>
    obtain ⟨i, hi, rfl, rfl, hI, hB, hsz⟩ := hrel
    by_cases hlt : i < N
    · have g0 : wr.cell? ⟨b0, i, none⟩ = some (.int .u32 (H i)) := by rw [hB.cell (p := ⟨b0, i, none⟩) hb0]; exact hH i hlt
      have g1 : wr.cell? ⟨b1, i, none⟩ = some (.int .u32 (S i)) := by rw [hB.cell (p := ⟨b1, i, none⟩) hb1]; exact hS i hlt
      have x0 := hI.slots
      have g3 := hI.row.hash hlt
      have g4 := hI.row.num hlt
      have g5 := hI.row.frozen (i * 2)
      have g6 := hI.row.frozen (i * 2 + 1)
      have HI := hI.put i (H i) (S i)
      have hltz : (i : Int) < (N : Int) := by omega
      clear hI
      go_wp2
      go_region
      all_goals go_wp2
      go_roundg (N - (i + 1))
      case measure => go_light; omega
      case rel =>
        go_light
        refine ⟨i + 1, by omega, rfl, by go_num, (HI.congr (fun j _ => ?_)).drew, ((hB.setCell (Nat.le_refl _) _).setCell (Nat.le_refl _) _).drew, by simp [hsz]⟩
        by_cases e : j = i
        · subst e; simp
        · by_cases e2 : j < i
          · simp [e, e2, show j < i + 1 by omega]
          · simp [e, e2, show ¬ j < i + 1 by omega]
    · obtain rfl : i = N := by omega
      have hI' : Idx wr (w.heap.size + 1) w.heap.size i H S used warmed := hI.congr (fun j hj => by simp [hj])
      clear hI
      go_wp2_with fail
      refine (HC.out (w.heap.size + 1) w.heap.size w.heap.size _ (by omega) (Nat.le_refl _) hI').mono ?_
      rintro e w1 ⟨rfl, hB1, hs1, sh, sn, hI1, hT1⟩
      rw [hsz] at hs1
      have hBB := hB.trans hB1
      have x0 := hI1.slots
      have x1 : ∀ o, (w1.alloc o).cell? ⟨w.heap.size + 1, 0, none⟩ = some (.slice (some ⟨w.heap.size, 0, none⟩) i i) := fun o => by rw [World.cell?_alloc_old _ _ _ (by show w.heap.size + 1 ≠ w1.heap.size; omega)]; exact x0
      have HI1 := hI1
      have HT1 : Hid (Tab i e0 H S r i sh sn) := hT1
      clear hI' hB hB1 hI1 hT1 HC hsz hH hS
      go_wp2
      clear x0 x1 hmk
      go_loopg [20] i (fun g s20 wx => ∃ k : Nat, k ≤ i ∧ g = i - k ∧ s20 = .int .i64 k ∧ Idx wx (w.heap.size + 1) w.heap.size i sh sn (wrap64 (used - 1)) warmed ∧ Row wx (w.heap.size + 2) i (fun j => if j < k then sh j else 0) ∧ Row wx (w.heap.size + 3) i (fun j => if j < k then sn j else 0) ∧ Below w.heap.size w wx ∧ wx.heap.size = w.heap.size + 4)
      case atStart =>
        have hm1 := (Row.made w1 i)
        rw [hs1] at hm1
        have hm2 := (Row.made (w1.alloc (.cells (madeCells #[.int .u32 0] i) 23)) i)
        rw [World.size_alloc, hs1] at hm2
        exact ⟨0, Nat.zero_le _, rfl, rfl, (HI1.alloc _ (by omega)).alloc _ (by simp; omega), (hm1.alloc _).congr (fun _ _ => by simp), hm2.congr (fun _ _ => by simp), (hBB.alloc (by omega) _).alloc (by simp; omega) _, by simp [hs1]⟩
      case round =>
        obtain ⟨k, hk, rfl, rfl, hI, hR1, hR2, hB, hsz⟩ := hrel
        have x0 := hI.slots
        by_cases hlt2 : k < i
        · have g1 := hI.row.hash hlt2
          have g2 := hI.row.num hlt2
          have x1 : ∀ v, (wr.setCell ⟨w.heap.size + 2, k, none⟩ v).cell? ⟨w.heap.size + 1, 0, none⟩ = some (.slice (some ⟨w.heap.size, 0, none⟩) i i) := fun v => by
            rw [World.cell?_setCell_other _ _ _ _ (fun e => by have := congrArg Addr.block e; simp at this)]; exact x0
          have g3 : ∀ v, (wr.setCell ⟨w.heap.size + 2, k, none⟩ v).cell? ⟨w.heap.size, k * 2 + 1, none⟩ = some (.int .u32 (sn k)) := fun v => by
            rw [World.cell?_setCell_other _ _ _ _ (fun e => by have := congrArg Addr.block e; simp at this)]; exact g2
          have h1 : wr.cell? ⟨w.heap.size + 2, k, none⟩ = some (.int .u32 0) := by simpa using hR1.cell hlt2
          have h2 := hR1.frozen k
          have h3 : ∀ v, (wr.setCell ⟨w.heap.size + 2, k, none⟩ v).cell? ⟨w.heap.size + 3, k, none⟩ = some (.int .u32 0) := fun v => by
            rw [World.cell?_setCell_other _ _ _ _ (fun e => by have := congrArg Addr.block e; simp at this)]; simpa using hR2.cell hlt2
          have h4 := hR2.frozen k
          have HR1 := hR1.set k (sh k)
          have HR2 := fun v => (hR2.other (a := ⟨w.heap.size + 2, k, none⟩) (by show w.heap.size + 3 ≠ w.heap.size + 2; omega) v).set k (sn k)
          have HIs := fun u v => (hI.other (a := ⟨w.heap.size + 2, k, none⟩) (by show w.heap.size ≠ w.heap.size + 2; omega) (by show w.heap.size + 1 ≠ w.heap.size + 2; omega) u).other (a := ⟨w.heap.size + 3, k, none⟩) (by show w.heap.size ≠ w.heap.size + 3; omega) (by show w.heap.size + 1 ≠ w.heap.size + 3; omega) v
          clear hI hR1 hR2
          go_wp2
          go_roundg (i - (k + 1))
          case measure => go_light; omega
          case rel =>
            go_light
            refine ⟨k + 1, by omega, rfl, by go_num, HIs _ _, (HR1.other (by show w.heap.size + 2 ≠ w.heap.size + 3; omega) _).congr (fun j _ => ?_), (HR2 _).congr (fun j _ => ?_), (hB.setCell (by show w.heap.size ≤ w.heap.size + 2; omega) _).setCell (by show w.heap.size ≤ w.heap.size + 3; omega) _, by simp [hsz]⟩
            all_goals
              by_cases e : j = k
              · subst e; simp
              · by_cases e2 : j < k
                · simp [e, e2, show j < k + 1 by omega]
                · simp [e, e2, show ¬ j < k + 1 by omega]
        · obtain rfl : k = i := by omega
          have x2 := hI.used
          have x3 := hI.warmed
          go_wp2
          go_region
          all_goals go_wp2
          exact bodyPost_ret (v := .tuple #[.slice (some ⟨w.heap.size + 2, 0, none⟩) k k, .slice (some ⟨w.heap.size + 3, 0, none⟩) k k, .int .i64 (wrap64 (used - 1)), .int .u32 warmed]) (by simp [results, Try.results8, go_sem]) rfl ⟨rfl, hB.drew, sh, sn, (hR1.congr (fun j hj => by rw [if_pos hj])).drew, (hR2.congr (fun j hj => by rw [if_pos hj])).drew, HT1.out⟩
end Go.Proofs.Qxb6623391a
