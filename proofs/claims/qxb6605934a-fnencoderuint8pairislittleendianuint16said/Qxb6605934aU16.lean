import Derived.Test.Qxb6605934aEq
import Derived.Deep.RegionWith
namespace Go.Proofs.Qxb6605934a
open Go.RowKit

set_option maxHeartbeats 2000000 in
theorem uint16_any (E base n : Nat) (xs : List Value) (v : Int) (w : World) (h0 : 0 ≤ v) (h1 : v ≤ 65535) (hn : n ≤ 1048580) (h : Enc w base E n xs) :
    Calls Try.prog 8 #[.pointer (some ⟨E, 0, none⟩), .int .u16 v] w fun e w' => e = .returned (.tuple #[]) ∧ Enc w' base E (n + 2) (xs ++ [.int .u8 (v % 256), .int .u8 (v / 256)]) ∧ Below base w w' := by
  obtain ⟨hbE, a, c, hE, hown⟩ := h
  have hlt : E < w.heap.size := (Array.getElem?_eq_some_iff.1 hE).1
  have hc0 : w.cell? ⟨E, 0, none⟩ = some (.slice a n c) := by simp [World.cell?, hE]
  have HO := hidden hown
  have HE := hidden hE
  clear hown hE
  have HK := hidden (appendU16_any a base n c xs v w.drew h0 h1 hn (show base ≤ w.heap.size by omega) HO.out)
  have HS : Hid (∀ v' (w1 : World), w1.ownsRow base 5 1 v' (n + 2) (xs ++ [.int .u8 (v % 256), .int .u8 (v / 256)]) → w.drew.grownBy w1 (Value.slice a n c).ownBlock → ∃ a' c', v' = .slice a' (n + 2) c' ∧ w1.cell? ⟨E, 0, none⟩ = some (.slice a n c) ∧ w1.frozen? ⟨E, 0, none⟩ = false ∧
      Hid (Enc (w1.setCell ⟨E, 0, none⟩ (.slice a' (n + 2) c')) base E (n + 2) (xs ++ [.int .u8 (v % 256), .int .u8 (v / 256)])) ∧ Hid (Below base w (w1.setCell ⟨E, 0, none⟩ (.slice a' (n + 2) c')))) := by
    intro v' w1 hown' hgrow
    have hg : w.grownBy w1 (Value.slice a n c).ownBlock := ⟨hgrow.os, hgrow.tape, hgrow.output, hgrow.size, hgrow.block⟩
    obtain ⟨hE1, hb1⟩ := grown_below HE.out HO.out hbE hg
    exact enc_stored hbE HE.out hE1 hown' hb1
  clear HO HE
  go_enter Try.func8, Try.ntmps8
  go_wp2_with fail
  go_region_with (go_at_call 11; refine HK.out.mono ?_; rintro e w1 ⟨v', rfl, hown', hgrow⟩; obtain ⟨a', c', hv, hcE, hfE, henc, hbel⟩ := HS.out v' w1 hown' hgrow; rw [hv]; clear hown' hgrow hv)
  all_goals go_wp2
  all_goals (go_end0; exact ⟨rfl, henc.out, hbel.out⟩)
end Go.Proofs.Qxb6605934a
