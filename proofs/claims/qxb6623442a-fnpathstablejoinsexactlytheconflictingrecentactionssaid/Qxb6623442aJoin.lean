/- (paths).join. -/
import Derived.Test.Qxb6623442aBytes
namespace Go.Proofs.Qxb6623442a
open Go.RowKit
set_option linter.unusedVariables false

theorem own_cap {w : World} {base : Nat} {e : TypeId} {size g n cap : Nat} {xs : List Value} (h : w.ownsRow base e size (.slice (some ⟨g, 0, none⟩) n cap) n xs) : n ≤ cap := by
  rcases h.2 with ⟨h', _⟩ | ⟨g', cap', cur, h', _, _, hle, _⟩
  · simp at h'
  · simp only [Value.slice.injEq, Option.some.injEq, Addr.mk.injEq, and_true, true_and] at h'
    omega

/-- 'append(s, x)' of one number onto a slice that is full: a new row. -/
theorem append_tx (w : World) {ops : Array Oper} {rest : List Oper} {o : Oper} {a : Act} {Q : Exit → Act → World → Prop} (hg : o.guard = none) (s x : Operand)
    (hop : o.op = Op.call { callee := Callee.builtin Builtin.append, args := #[s, x], argTypes := #[23, 23] }) (ao : Option Addr) (n cp : Nat) (f : Nat → Int) (Fr : Nat → Prop) (hs : a.eval s = .slice ao n cp) (hcp : cp = n) (hnone : ao = none → n = 0) (hsl : SlF Fr w ao n f)
    (e : Nat) (tx : Int) (hx : a.eval x = .slice (some ⟨e, 0, none⟩) 1 1) (hxc : w.cell? ⟨e, 0, none⟩ = some (.int .i64 tx)) (hn : n ≤ 1048576)
    (hK : ∀ g cap w', n + 1 ≤ cap → w.heap.size ≤ g → g < w'.heap.size → (∀ i, i < n → w'.cell? ⟨g, i, none⟩ = some (.int .i64 (f i))) → w'.cell? ⟨g, n, none⟩ = some (.int .i64 tx) → w.grownBy w' none → wpList Try.prog ops Q rest (a.put o.dst (.slice (some ⟨g, 0, none⟩) (n + 1) cap)) w') :
    wpList Try.prog ops Q (o :: rest) a w := by
  subst hcp
  obtain ⟨i0, hi, hz0, hz1, hz2⟩ := info_parts Try.info3
  refine wpList_append_grows w hg s x 23 hop 3 i0 (.int .i64 0) 1 8 Try.underlying23 hi hz0 hz1 hz2 rfl (by decide) ao cp cp ((List.range cp).map fun i => .int .i64 (f i)) hs (fun h => ⟨hnone h, hnone h⟩) (by simp) (fun b hb j u hj => ?_) ⟨e, 0, none⟩ 1 1 [.int .i64 tx] hx rfl (fun j u hj => ?_) (fun u hu => by simp at hu; subst hu; rfl) (by omega) (by unfold maxLen; omega) (by omega) (fun v' w' hown hgrow => ?_)
  · have hj' : j < cp := by
      obtain ⟨h, _⟩ := List.getElem?_eq_some_iff.1 hj
      simpa using h
    obtain ⟨b', off, hb', _, hc⟩ := hsl (by omega)
    rw [hb] at hb'
    cases hb'
    rw [Go.WideShapes.add_plain, hc j hj']
    simp [hj'] at hj
    rw [hj]
  · match j, hj with
    | 0, hj => simp at hj; subst hj; rw [Go.WideShapes.add_plain]; exact hxc
  · obtain ⟨g, cap, hv, hge, hlt⟩ := hown.form (by omega)
    subst hv
    refine hK g cap w' (own_cap hown) hge hlt (fun i hi => ?_) ?_ hgrow
    · rw [hown.cellAt i (by omega), List.getElem?_append_left (by simpa using hi)]
      simp [hi]
    · rw [hown.cellAt cp (by omega), List.getElem?_append_right (by simp)]
      simp

/-- Does row v gain tx, if the transactions of src are the sources? -/
def gain (tx : Int) (L : Nat → Nat) (Z : Nat → Nat → Int) (src : Nat → Bool) (v : Nat) : Bool := (src v && ((v : Int) != tx)) && ((L v == 0) || (Z v (L v - 1) != tx))

/-- Row v as it stands. -/
def PRow (Fr : Nat → Prop) (w : World) (PB : Nat) (tx : Int) (L : Nat → Nat) (Z : Nat → Nat → Int) (gn : Bool) (v : Nat) : Prop :=
  ∃ (a : Option Addr) (len cap : Nat), w.cell? ⟨PB, v, none⟩ = some (.slice a len cap) ∧
    ((gn = true ∧ len = L v + 1 ∧ L v + 1 ≤ cap ∧ SlF Fr w a (L v + 1) (fun i => if i < L v then Z v i else tx)) ∨ (gn = false ∧ len = L v ∧ cap = L v ∧ (a = none → L v = 0) ∧ SlF Fr w a (L v) (Z v)))

def PSt (Fr : Nat → Prop) (w : World) (PB n : Nat) (tx : Int) (L : Nat → Nat) (Z : Nat → Nat → Int) (src : Nat → Bool) : Prop :=
  ∀ v, v < n → PRow Fr w PB tx L Z (gain tx L Z src v) v ∧ w.frozen? ⟨PB, v, none⟩ = false

section
variable {Fr : Nat → Prop} {w w' : World} {PB n : Nat} {tx : Int} {L : Nat → Nat} {Z : Nat → Nat → Int} {src src' : Nat → Bool}

theorem PSt.same (h : PSt Fr w PB n tx L Z src) (e : ∀ v, v < n → gain tx L Z src v = gain tx L Z src' v) : PSt Fr w PB n tx L Z src' := fun v hv => by
  rw [← e v hv]; exact h v hv
theorem PSt.fram (h : PSt Fr w PB n tx L Z src) (k : Fram Fr w w') (hb : w'.heap[PB]? = w.heap[PB]?) : PSt Fr w' PB n tx L Z src := fun v hv => by
  obtain ⟨⟨a, len, cap, hc, hr⟩, hf⟩ := h v hv
  refine ⟨⟨a, len, cap, by rw [World.cell?_of_block (w := w) hb]; exact hc, ?_⟩, by rw [World.frozen?_of_block (w := w) hb]; exact hf⟩
  rcases hr with ⟨x, y, c, z⟩ | ⟨x, y, z, t, u⟩
  · exact .inl ⟨x, y, c, z.fram k⟩
  · exact .inr ⟨x, y, z, t, u.fram k⟩
theorem PSt.weak {Fr' : Nat → Prop} (h : PSt Fr w PB n tx L Z src) (e : ∀ k, k < w.heap.size → Fr k → Fr' k) : PSt Fr' w PB n tx L Z src := fun v hv => by
  obtain ⟨⟨a, len, cap, hc, hr⟩, hf⟩ := h v hv
  refine ⟨⟨a, len, cap, hc, ?_⟩, hf⟩
  rcases hr with ⟨x, y, c, z⟩ | ⟨x, y, z, t, u⟩
  · exact .inl ⟨x, y, c, z.weak e⟩
  · exact .inr ⟨x, y, z, t, u.weak e⟩

theorem gain_congr {v : Nat} (h : src v = src' v) : gain tx L Z src v = gain tx L Z src' v := by unfold gain; rw [h]
theorem gain_tx {v : Nat} (h : (v : Int) = tx) : gain tx L Z src v = false := by unfold gain; simp [h]
theorem gain_ends {v : Nat} (h1 : L v ≠ 0) (h2 : Z v (L v - 1) = tx) : gain tx L Z src v = false := by unfold gain; simp [h1, h2]
theorem gain_yes {v : Nat} (h0 : src v = true) (h1 : (v : Int) ≠ tx) (h2 : L v = 0 ∨ Z v (L v - 1) ≠ tx) : gain tx L Z src v = true := by
  unfold gain
  rcases h2 with h2 | h2 <;> simp [h0, h1, h2]
theorem gain_src {v : Nat} (h : gain tx L Z src v = true) : src v = true ∧ (v : Int) ≠ tx := by
  unfold gain at h
  simp only [Bool.and_eq_true, bne_iff_ne] at h
  exact ⟨h.1.1, h.1.2⟩
end

def ors (src : Nat → Bool) (F : Nat → Int) (m : Nat) : Nat → Bool := fun v => src v || hit F m v

theorem ors_other {src : Nat → Bool} {F : Nat → Int} {k v x : Nat} (hv : F k = (v : Int)) (h : x ≠ v) : ors src F (k + 1) x = ors src F k x := by
  unfold ors
  have : (F k == (x : Int)) = false := by rw [hv]; exact beq_eq_false_iff_ne.2 (by omega)
  simp [hit, this]
theorem ors_at {src : Nat → Bool} {F : Nat → Int} {k v : Nat} (hv : F k = (v : Int)) : ors src F (k + 1) v = true := by
  unfold ors
  simp [hit, hv]

/-- The block of the paths' own row; none where there are no paths. -/
def pbo (n PB : Nat) : Option Nat := if n = 0 then none else some PB
theorem pbo_pos {n PB : Nat} (h : 0 < n) : pbo n PB = some PB := if_neg (by omega)

def JoinPost (Fr : Nat → Prop) (PB n : Nat) (tx : Int) (L : Nat → Nat) (Z : Nat → Nat → Int) (src : Nat → Bool) (w : World) (e : Ending) (w' : World) : Prop :=
  e = .returned (.tuple #[]) ∧ PSt Fr w' PB n tx L Z src ∧ w.grownBy w' (pbo n PB)

theorem grown_refl (w : World) (r : Option Nat) : w.grownBy w r := ⟨rfl, rfl, rfl, Nat.le_refl _, fun _ _ _ => rfl⟩
theorem grown_trans {w w' w'' : World} {r : Option Nat} (h : w.grownBy w' r) (k : w'.grownBy w'' r) : w.grownBy w'' r :=
  ⟨k.os.trans h.os, k.tape.trans h.tape, k.output.trans h.output, Nat.le_trans h.size k.size, fun i hi hn => (k.block i (Nat.lt_of_lt_of_le hi h.size) hn).trans (h.block i hi hn)⟩
theorem grown_alloc {w w' : World} {r : Option Nat} (h : w.grownBy w' r) (o : Obj) : w.grownBy (w'.alloc o) r :=
  grown_trans h ⟨rfl, rfl, rfl, by simp, fun i hi _ => Below.heap_alloc _ _ _ hi⟩
theorem grown_weak {w w' : World} {r : Option Nat} (h : w.grownBy w' none) : w.grownBy w' r := ⟨h.os, h.tape, h.output, h.size, fun i hi _ => h.block i hi (by simp)⟩
theorem grown_set {w w' : World} {PB : Nat} (h : w.grownBy w' (some PB)) (o : Nat) (v : Value) : w.grownBy (w'.setCell ⟨PB, o, none⟩ v) (some PB) :=
  grown_trans h ⟨rfl, rfl, rfl, by simp, fun i hi hn => Below.heap_setCell _ _ _ _ (fun e => hn (by rw [e]))⟩

/-- The row v has been put anew. -/
theorem PSt.put {Fr : Nat → Prop} {w w' : World} {PB n : Nat} {tx : Int} {L : Nat → Nat} {Z : Nat → Nat → Int} {src src' : Nat → Bool} (h : PSt Fr w PB n tx L Z src) (hPB : ¬ Fr PB) (hg : w.grownBy w' (some PB)) (v : Nat) (hv : v < n)
    (hcell : ∀ x, x < n → x ≠ v → w'.cell? ⟨PB, x, none⟩ = w.cell? ⟨PB, x, none⟩) (hfz : ∀ x, w'.frozen? ⟨PB, x, none⟩ = w.frozen? ⟨PB, x, none⟩)
    (hs : ∀ x, x < n → x ≠ v → src x = src' x) (hnew : PRow Fr w' PB tx L Z (gain tx L Z src' v) v) : PSt Fr w' PB n tx L Z src' := by
  intro x hx
  obtain ⟨⟨a, len, cap, hc, hr⟩, hf⟩ := h x hx
  refine ⟨?_, by rw [hfz]; exact hf⟩
  by_cases e : x = v
  · subst e; exact hnew
  · have k : Fram Fr w w' := (Fram.refl _ _).grown hg (fun q hq => by cases hq; exact hPB)
    rw [← gain_congr (tx := tx) (L := L) (Z := Z) (hs x hx e)]
    refine ⟨a, len, cap, by rw [hcell x hx e]; exact hc, ?_⟩
    rcases hr with ⟨x, y, c, z⟩ | ⟨x, y, z, t, u⟩
    · exact .inl ⟨x, y, c, z.fram k⟩
    · exact .inr ⟨x, y, z, t, u.fram k⟩

set_option maxHeartbeats 1000000 in
set_option maxRecDepth 100000 in
theorem join_any (Fr FrS : Nat → Prop) (pa : Option Addr) (PB n pc : Nat) (tx : Int) (L : Nat → Nat) (Z : Nat → Nat → Int) (src : Nat → Bool) (fa : Option Addr) (m fc : Nat) (F : Nat → Int) (w : World) (hpa : 0 < n → pa = some ⟨PB, 0, none⟩) (hn : n ≤ 1048576) (hm : m ≤ 1048576) (hL : ∀ v, v < n → L v ≤ 1048576)
    (hPB : 0 < n → ¬ Fr PB) (hPS : 0 < n → ¬ FrS PB) (hnew : ∀ b, w.heap.size ≤ b → Fr b) (hP : PSt Fr w PB n tx L Z src) (hs : SlF FrS w fa m F) (hin : ∀ i, i < m → 0 ≤ F i ∧ F i < (n : Int)) :
    Calls Try.prog 12 #[.slice pa n pc, .slice fa m fc, .int .i64 tx] w (JoinPost Fr PB n tx L Z (ors src F m) w) := by
  have HN : Hid (∀ b, w.heap.size ≤ b → Fr b) := hnew
  have HPB : Hid (0 < n → ¬ Fr PB) := hPB
  have HPS : Hid (0 < n → ¬ FrS PB) := hPS
  clear hnew hPB hPS
  go_enter Try.func12, Try.ntmps12
  go_wp2
  go_loopg [11] m (fun g s11 wr => ∃ k : Nat, k ≤ m ∧ g = m - k ∧ s11 = .int .i64 k ∧ PSt Fr wr PB n tx L Z (ors src F k) ∧ w.grownBy wr (some PB) ∧ (n = 0 → wr = w))
  case atStart => exact ⟨0, Nat.zero_le _, rfl, rfl, hP.same (fun v _ => gain_congr (by simp [ors, hit])), grown_refl _ _, fun _ => rfl⟩
  case round =>
    obtain ⟨k, hk, rfl, rfl, hP1, hG, hN0⟩ := hrel
    have HN0 : Hid (n = 0 → wr = w) := hN0
    clear hP hN0
    by_cases hlt : k < m
    · obtain ⟨b, off, rfl, hfr, hc⟩ := hs (by omega)
      obtain ⟨h0, h1⟩ := hin k hlt
      obtain ⟨v, hv⟩ := Int.eq_ofNat_of_zero_le h0
      have hvn : v < n := by omega
      obtain rfl := hpa (by omega)
      have hFm : Fram FrS w wr := (Fram.refl _ _).grown hG (fun q hq => by cases hq; exact HPS.out (by omega))
      have g1 : wr.cell? ⟨b, off + k, none⟩ = some (.int .i64 (v : Int)) := by rw [← hv]; exact hFm.cell (hc k hlt) hfr
      obtain ⟨⟨a, len, cap, hcell, hr⟩, hfz⟩ := hP1 v hvn
      have HV : Hid (F k = (v : Int)) := hv
      have hLv := hL v hvn
      clear hv h0 h1 hc hs hin hL hpa
      by_cases t1 : (v : Int) = tx
      · have t1' : ((v : Int) != tx) = false := by simp [t1]
        have HP : Hid (PSt Fr wr PB n tx L Z (ors src F (k + 1))) := hP1.same (fun x hx => by
          by_cases e : x = v
          · subst e; rw [gain_tx t1, gain_tx t1]
          · exact (gain_congr (ors_other HV.out e)).symm)
        clear t1 hP1 hr
        go_wp2
        go_roundg (m - (k + 1))
        case measure => go_light; omega
        case rel => go_light; exact ⟨k + 1, by omega, rfl, by go_num, HP.out, hG, fun h => absurd h (by omega)⟩
      · have t1' : ((v : Int) != tx) = true := bne_iff_ne.2 t1
        rcases hr with ⟨hgn, rfl, _, hrow⟩ | ⟨hgn, rfl, rfl, hnil, hrow⟩
        · -- the row has gained tx already
          obtain ⟨b2, off2, rfl, _, hc2⟩ := hrow (by omega)
          have g2 : wr.cell? ⟨b2, off2 + L v, none⟩ = some (.int .i64 tx) := by simpa using hc2 (L v) (by omega)
          have g3 : (((L v + 1 : Nat) : Int) == 0) = false := beq_eq_false_iff_ne.2 (by omega)
          have g4 : (tx != tx) = false := by simp
          have HP : Hid (PSt Fr wr PB n tx L Z (ors src F (k + 1))) := hP1.same (fun x hx => by
            by_cases e : x = v
            · subst e; exact gain_congr (by rw [(gain_src hgn).1, ors_at HV.out])
            · exact (gain_congr (ors_other HV.out e)).symm)
          clear hP1 hgn hrow hc2
          go_wp2
          go_roundg (m - (k + 1))
          case measure => go_light; omega
          case rel => go_light; exact ⟨k + 1, by omega, rfl, by go_num, HP.out, hG, fun h => absurd h (by omega)⟩
        · by_cases t2 : L v = 0
          · have t2' : ((L v : Int) == 0) = true := beq_iff_eq.2 (by omega)
            have T2 : Hid (L v = 0) := t2
            clear t2
            have hsl : SlF Fr (wr.alloc (.cells #[.int .i64 tx] 3)) a (L v) (Z v) := hrow.fram ((Fram.refl _ _).alloc _)
            have hxc : (wr.alloc (.cells #[.int .i64 tx] 3)).cell? ⟨wr.heap.size, 0, none⟩ = some (.int .i64 tx) := by rw [World.cell?_alloc_new]; rfl
            go_wp2_with (at_builtin; refine append_tx _ rfl _ _ rfl a (L v) (L v) (Z v) Fr rfl rfl hnil hsl wr.heap.size tx rfl hxc hLv ?_)
            intro g cap' w1 hcap hge hgl hold hnewc hgr
            have hG1 : wr.grownBy w1 (some PB) := grown_trans (grown_alloc (grown_refl _ _) _) (grown_weak hgr)
            have hPlt : PB < wr.heap.size := World.block_lt_of_cell? _ _ hcell
            have hbk : w1.heap[PB]? = wr.heap[PB]? := (hgr.block PB (by simp; omega) (by simp)).trans (Below.heap_alloc _ _ _ hPlt)
            have q1 : w1.cell? ⟨PB, v, none⟩ = some (.slice a (L v) (L v)) := by rw [World.cell?_of_block (w := wr) hbk]; exact hcell
            have q2 : w1.frozen? ⟨PB, v, none⟩ = false := by rw [World.frozen?_of_block (w := wr) hbk]; exact hfz
            have HP : Hid (PSt Fr (w1.setCell ⟨PB, v, none⟩ (.slice (some ⟨g, 0, none⟩) (L v + 1) cap')) PB n tx L Z (ors src F (k + 1))) := by
              have hgPB : g ≠ PB := by omega
              refine hP1.put (HPB.out (by omega)) (grown_set hG1 _ _) v hvn (fun x hx hne => ?_) (fun x => ?_) (fun x hx hne => (ors_other HV.out hne).symm) ?_
              · rw [World.cell?_setCell_other _ _ _ _ (fun e => hne (by have := congrArg Addr.off e; simpa using this.symm)), World.cell?_of_block (w := wr) hbk]
              · rw [World.frozen?_setCell, World.frozen?_of_block (w := wr) hbk]
              · refine ⟨_, _, _, World.cell?_setCell_same _ _ _ q1, .inl ⟨gain_yes (ors_at HV.out) t1 (.inl T2.out), rfl, hcap, fun _ => ⟨g, 0, rfl, HN.out g (by have := hG.size; omega), fun i hi => ?_⟩⟩⟩
                rw [Nat.zero_add, World.cell?_setCell_other _ _ _ _ (fun e => hgPB (by have := congrArg Addr.block e; simpa using this.symm))]
                dsimp only
                by_cases hi2 : i < L v
                · rw [if_pos hi2]; exact hold i hi2
                · rw [if_neg hi2, show i = L v by omega]; exact hnewc
            have HG2 : Hid (w.grownBy (w1.setCell ⟨PB, v, none⟩ (.slice (some ⟨g, 0, none⟩) (L v + 1) cap')) (some PB)) := grown_set (grown_trans hG hG1) _ _
            clear hP1 hgn hrow hsl hxc hold hnewc hgr hG1 hbk hcell
            go_wp2
            go_roundg (m - (k + 1))
            case measure => go_light; omega
            case rel => go_light; exact ⟨k + 1, by omega, rfl, by go_num, HP.out, HG2.out, fun h => absurd h (by omega)⟩
          · have t2' : ((L v : Int) == 0) = false := beq_eq_false_iff_ne.2 (by omega)
            obtain ⟨b2, off2, rfl, hfr2, hc2⟩ := hrow (by omega)
            have g2 := hc2 (L v - 1) (by omega)
            by_cases t3 : Z v (L v - 1) = tx
            · have t3' : (Z v (L v - 1) != tx) = false := by simp [t3]
              have HP : Hid (PSt Fr wr PB n tx L Z (ors src F (k + 1))) := hP1.same (fun x hx => by
                by_cases e : x = v
                · subst e; rw [gain_ends t2 t3, gain_ends t2 t3]
                · exact (gain_congr (ors_other HV.out e)).symm)
              clear t3 hP1 hgn hrow hc2 hnil
              go_wp2
              go_roundg (m - (k + 1))
              case measure => go_light; omega
              case rel => go_light; exact ⟨k + 1, by omega, rfl, by go_num, HP.out, hG, fun h => absurd h (by omega)⟩
            · have t3' : (Z v (L v - 1) != tx) = true := bne_iff_ne.2 t3
              clear hc2
              have hsl : SlF Fr (wr.alloc (.cells #[.int .i64 tx] 3)) (some ⟨b2, off2, none⟩) (L v) (Z v) := hrow.fram ((Fram.refl _ _).alloc _)
              have hxc : (wr.alloc (.cells #[.int .i64 tx] 3)).cell? ⟨wr.heap.size, 0, none⟩ = some (.int .i64 tx) := by rw [World.cell?_alloc_new]; rfl
              go_wp2_with (at_builtin; refine append_tx _ rfl _ _ rfl (some ⟨b2, off2, none⟩) (L v) (L v) (Z v) Fr rfl rfl hnil hsl wr.heap.size tx rfl hxc hLv ?_)
              intro g cap' w1 hcap hge hgl hold hnewc hgr
              have hG1 : wr.grownBy w1 (some PB) := grown_trans (grown_alloc (grown_refl _ _) _) (grown_weak hgr)
              have hPlt : PB < wr.heap.size := World.block_lt_of_cell? _ _ hcell
              have hbk : w1.heap[PB]? = wr.heap[PB]? := (hgr.block PB (by simp; omega) (by simp)).trans (Below.heap_alloc _ _ _ hPlt)
              have q1 : w1.cell? ⟨PB, v, none⟩ = some (.slice (some ⟨b2, off2, none⟩) (L v) (L v)) := by rw [World.cell?_of_block (w := wr) hbk]; exact hcell
              have q2 : w1.frozen? ⟨PB, v, none⟩ = false := by rw [World.frozen?_of_block (w := wr) hbk]; exact hfz
              have HP : Hid (PSt Fr (w1.setCell ⟨PB, v, none⟩ (.slice (some ⟨g, 0, none⟩) (L v + 1) cap')) PB n tx L Z (ors src F (k + 1))) := by
                have hgPB : g ≠ PB := by omega
                refine hP1.put (HPB.out (by omega)) (grown_set hG1 _ _) v hvn (fun x hx hne => ?_) (fun x => ?_) (fun x hx hne => (ors_other HV.out hne).symm) ?_
                · rw [World.cell?_setCell_other _ _ _ _ (fun e => hne (by have := congrArg Addr.off e; simpa using this.symm)), World.cell?_of_block (w := wr) hbk]
                · rw [World.frozen?_setCell, World.frozen?_of_block (w := wr) hbk]
                · refine ⟨_, _, _, World.cell?_setCell_same _ _ _ q1, .inl ⟨gain_yes (ors_at HV.out) t1 (.inr t3), rfl, hcap, fun _ => ⟨g, 0, rfl, HN.out g (by have := hG.size; omega), fun i hi => ?_⟩⟩⟩
                  rw [Nat.zero_add, World.cell?_setCell_other _ _ _ _ (fun e => hgPB (by have := congrArg Addr.block e; simpa using this.symm))]
                  dsimp only
                  by_cases hi2 : i < L v
                  · rw [if_pos hi2]; exact hold i hi2
                  · rw [if_neg hi2, show i = L v by omega]; exact hnewc
              have HG2 : Hid (w.grownBy (w1.setCell ⟨PB, v, none⟩ (.slice (some ⟨g, 0, none⟩) (L v + 1) cap')) (some PB)) := grown_set (grown_trans hG hG1) _ _
              clear hP1 hgn hrow hsl hxc hold hnewc hgr hG1 hbk hcell
              go_wp2
              go_roundg (m - (k + 1))
              case measure => go_light; omega
              case rel => go_light; exact ⟨k + 1, by omega, rfl, by go_num, HP.out, HG2.out, fun h => absurd h (by omega)⟩
    · obtain rfl : k = m := by omega
      go_wp2
      go_end0
      refine ⟨rfl, hP1, ?_⟩
      by_cases h0 : n = 0
      · rw [HN0.out h0]; exact grown_refl _ _
      · rw [pbo_pos (by omega)]; exact hG
end Go.Proofs.Qxb6623442a
