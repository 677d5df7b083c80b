/- zzHasPrefix, zzIsMinusOf. -/
import Derived.Test.Qxb6617515aDoorSmall
import Derived.Deep.DeepFit
namespace Go.Proofs.Qxb6617515aDoor
open Go.RowKit
set_option linter.unusedVariables false

theorem ByF.shorter {w : World} {a : Option Addr} {n m : Nat} {f : Nat → Int} (h : ByF w a n f) (hm : m ≤ n) : ByF w a m f := fun h0 => by
  obtain ⟨b, off, e, hc⟩ := h (by omega)
  exact ⟨b, off, e, fun i hi => hc i (by omega)⟩

set_option maxHeartbeats 1000000 in
theorem prefix_any (a b : Option Addr) (ns np ca cb : Nat) (f g : Nat → Int) (w : World) (hn : ns ≤ 1048576) (hca : ns ≤ ca) (hcm : ca ≤ maxLen) (hp : np ≤ ns) (hf : ByF w a ns f) (hg : ByF w b np g) (he : ∀ i, i < np → f i = g i) :
    Calls Tryd.prog 7 #[.slice a ns ca, .slice b np cb] w (DrewPost w (.bool true)) := by
  have HE := hid (eq_any a b np ca cb f g w (by omega) (hf.shorter hp) hg he)
  have h1 : ¬ ((ns : Int) < (np : Int)) := by omega
  clear hf hg he
  go_enter Tryd.func7, Tryd.ntmps7
  go_wp2_with fail
  refine HE.out.mono ?_
  rintro e w2 ⟨rfl, q, hw⟩
  have HQ := hid hw
  clear hw HE
  go_wp2_with fail
  go_ret
  exact ⟨rfl, q, HQ.out⟩

set_option maxHeartbeats 1000000 in
theorem minus_any (a b : Option Addr) (n ca cb : Nat) (f g : Nat → Int) (w : World) (hn : n ≤ 1048576) (hn1 : 1 ≤ n) (hca : n + 1 ≤ ca) (hcm : ca ≤ maxLen) (hf : ByF w a (n + 1) f) (hg : ByF w b n g) (h0 : f 0 = 45) (he : ∀ i, i < n → f (i + 1) = g i) :
    Calls Tryd.prog 9 #[.slice a (n + 1) ca, .slice b n cb] w (DrewPost w (.bool true)) := by
  obtain ⟨gb, go, rfl, hc⟩ := hf (by omega)
  have g1 : w.cell? ⟨gb, go, none⟩ = some (.int .u8 45) := by have := hc 0 (by omega); rw [h0] at this; exact this
  have HE := hid (eq_any (some ⟨gb, go + 1, none⟩) b n (ca - 1) cb (fun i => f (i + 1)) g w (by omega) (fun _ => ⟨gb, go + 1, rfl, fun i hi => by have := hc (i + 1) (by omega); rw [← this]; congr 2; omega⟩) hg he)
  have hne : ¬ ca = 1 := by omega
  clear hf hg he hc
  go_enter Tryd.func9, Tryd.ntmps9
  go_wp2_with fail
  refine HE.out.mono ?_
  rintro e w2 ⟨rfl, q, hw⟩
  have HQ := hid hw
  clear hw HE
  go_wp2_with fail
  go_ret
  exact ⟨rfl, q, HQ.out⟩
end Go.Proofs.Qxb6617515aDoor
