import Derived.Test.Qxb6605934aRows
import Derived.WalkKit
import Derived.WalkSpells
import Derived.RegionTactic
import Derived.Deep.QuietTactic
import Derived.BigQuiet
namespace Go.Proofs.Qxb6605934a
open Go.RowKit

theorem hidden {p : Prop} (h : p) : Hid p := h

theorem info5 : (Try.prog.info? 5).map (fun i => (i.zero, i.size, i.bytes)) = some (some (.int .u8 0), 1, 1) := by kernel_rfl

theorem block_lt {w : World} {a : Addr} {v : Value} (h : w.cell? a = some v) : a.block < w.heap.size := by
  unfold World.cell? at h
  split at h
  · rename_i e
    exact (Array.getElem?_eq_some_iff.1 e).1
  · exact absurd h (by simp)

/-- The cells of n bytes. -/
def bs (f : Nat → Int) (n : Nat) : List Value := (List.range n).map fun i => .int .u8 (f i)
theorem bs_len (f : Nat → Int) (n : Nat) : (bs f n).length = n := by simp [bs]
theorem bs_get (f : Nat → Int) (n i : Nat) (h : i < n) : (bs f n)[i]? = some (.int .u8 (f i)) := by simp [bs, h]
theorem bs_of {f : Nat → Int} {n : Nat} {xs : List Value} (hl : xs.length = n) (h : ∀ i, i < n → xs[i]? = some (.int .u8 (f i))) : xs = bs f n := by
  apply List.ext_getElem?
  intro i
  by_cases hi : i < n
  · rw [h i hi, bs_get f n i hi]
  · rw [List.getElem?_eq_none (by omega), List.getElem?_eq_none (by rw [bs_len]; omega)]

/-- A slice that can be read: the bytes f 0, .., f (len - 1). -/
def Reads (w : World) (a : Option Addr) (len cap : Nat) (f : Nat → Int) : Prop :=
  (a = none ∧ len = 0 ∧ cap = 0) ∨ ∃ x, a = some x ∧ len ≤ cap ∧ ∀ i, i < len → w.cell? (x.add i) = some (.int .u8 (f i))

theorem Reads.below {w w' : World} {a : Option Addr} {len cap : Nat} {f : Nat → Int} (h : Reads w a len cap f) (hb : Below w.heap.size w w') : Reads w' a len cap f := by
  rcases h with h | ⟨x, rfl, hl, hc⟩
  · exact .inl h
  · exact .inr ⟨x, rfl, hl, fun i hi => by rw [hb.cell (by exact block_lt (hc i hi))]; exact hc i hi⟩

theorem reads_owned {w : World} {base : Nat} {a : Option Addr} {n c : Nat} {f : Nat → Int} (h : w.ownsRow base 5 1 (.slice a n c) n (bs f n)) : Reads w a n c f := by
  rcases h.2 with ⟨hv, hn⟩ | ⟨g, cap, cur, hv, hb, hh, hnc, _⟩
  · simp at hv
    exact .inl hv
  · simp at hv
    obtain ⟨rfl, rfl⟩ := hv
    refine .inr ⟨_, rfl, hnc, fun i hi => ?_⟩
    exact h.cells (g := g) rfl i _ (bs_get f n i hi)

theorem owned_below {w w' : World} {base B : Nat} {v : Value} {n : Nat} {xs : List Value} (h : w.ownsRow base 5 1 v n xs) (hb : Below B w w') (hB : w.heap.size ≤ B) : w'.ownsRow base 5 1 v n xs := by
  refine ⟨h.1, ?_⟩
  rcases h.2 with hn | ⟨g, cap, cur, rfl, hg, hh, r⟩
  · exact .inl hn
  · have : g < w.heap.size := (Array.getElem?_eq_some_iff.1 hh).1
    exact .inr ⟨g, cap, cur, rfl, hg, by rw [hb.block g (by omega)]; exact hh, r⟩

theorem clone_nil (w : World) :
    Calls Try.prog 5 #[.slice none 0 0] w fun e w' => e = .returned (.slice none 0 0) ∧ w' = w := by
  have q := fun (w : World) => Lib.run_eql_slice_nil (P := Try.prog) w 22 5 none 0 0 0 0 Try.underlying22
  go_enter Try.func5, Try.ntmps5
  go_wp2
  go_ret
  exact ⟨rfl, rfl⟩

/-- A slice that is not nil: a new row of the same bytes. -/
theorem clone_some (x : Addr) (len cap : Nat) (f : Nat → Int) (w : World) (hl : len ≤ cap) (hm : len ≤ 1048576)
    (hc : ∀ i, i < len → w.cell? (x.add i) = some (.int .u8 (f i))) :
    Calls Try.prog 5 #[.slice (some x) len cap] w fun e w' => e = .returned (.slice (some ⟨w.heap.size, 0, none⟩) len len) ∧
      w'.ownsRow w.heap.size 5 1 (.slice (some ⟨w.heap.size, 0, none⟩) len len) len (bs f len) ∧ Below w.heap.size w w' := by
  have q := fun (w : World) => Lib.run_eql_slice_nil (P := Try.prog) w 22 5 (some x) len cap 0 0 Try.underlying22
  obtain ⟨i0, hi, hz0, hz1, hz2⟩ := info_parts info5
  have HC := hidden hc
  clear hc
  go_enter Try.func5, Try.ntmps5
  go_wp2_with (first | (at_make; refine wpList_make_full _ rfl _ _ 22 rfl w.heap.size 5 i0 (.int .u8 0) 1 Try.underlying22 hi hz0 hz1 _ _ _ _ len rfl rfl rfl rfl ?b1 ?b2 ?b3 ?_))
  case b1 => rw [hz2]; omega
  case b2 => unfold maxLen; omega
  case b3 => exact Nat.le_refl _
  intro w1 hown hgrow
  have HB := hidden (show Below w.heap.size w w1 from (Below.refl _ _).grown hgrow (Nat.le_refl _) (by simp))
  have HR : Hid (∃ xs, w1.ownsRow w.heap.size 5 1 (.slice (some ⟨w.heap.size, 0, none⟩) len len) len xs) := ⟨_, hown⟩
  clear hown hgrow
  go_wp2_with fail
  go_loopw [4] (fun i wr => ∃ k : Nat, k ≤ len ∧ i = .int .i64 k ∧ (∃ xs, wr.ownsRow w.heap.size 5 1 (.slice (some ⟨w.heap.size, 0, none⟩) len len) len xs ∧ ∀ j, j < k → xs[j]? = some (.int .u8 (f j))) ∧ Below w.heap.size w wr) (fun i _ => len - (intOf i).toNat)
  case atStart =>
    obtain ⟨xs, hx⟩ := HR.out
    exact ⟨0, Nat.zero_le _, rfl, ⟨xs, hx, fun j hj => absurd hj (Nat.not_lt_zero _)⟩, HB.out⟩
  case round =>
    obtain ⟨k, hk, rfl, ⟨xs, hR, hxs⟩, hB⟩ := hrel
    have hlen : xs.length = len := by simpa using hR.1
    by_cases hlt : k < len
    · have hcw := HC.out k hlt
      have hcx : wr.cell? (x.add k) = some (.int .u8 (f k)) := by rw [hB.cell (by exact block_lt hcw)]; exact hcw
      obtain ⟨v0, hc0⟩ : ∃ v0, wr.cell? ⟨w.heap.size, k, none⟩ = some v0 := ⟨_, (hR.cellAt k (by omega)).trans (List.getElem?_eq_getElem (by omega))⟩
      have hf0 : wr.frozen? ⟨w.heap.size, k, none⟩ = false := hR.frozenAt k
      have HR' := hidden (hR.stored k (.int .u8 (f k))).1
      have HB' := hidden (hB.setCell (p := ⟨w.heap.size, k, none⟩) (Nat.le_refl _) (.int .u8 (f k)))
      have HX : Hid (∀ j, j < k + 1 → (xs.set k (.int .u8 (f k)))[j]? = some (.int .u8 (f j))) := by
        intro j hj
        by_cases e : j = k
        · subst e; rw [List.getElem?_set_self (by omega)]
        · rw [List.getElem?_set_ne (by omega)]; exact hxs j (by omega)
      clear hcw hR hB HR hxs hlen
      go_wp2_with fail
      go_roundw
      case rel => exact ⟨k + 1, by omega, by go_num, ⟨_, HR'.out, HX.out⟩, HB'.out⟩
      case measure => simp [intOf]; omega
    · obtain rfl : k = len := by omega
      have HR' := hidden (bs_of hlen hxs ▸ hR)
      have HB' := hidden hB
      clear hR hB HR hxs hlen
      go_wp2_with fail
      go_ret
      exact ⟨rfl, HR'.out, HB'.out⟩

theorem clone_any (a : Option Addr) (len cap : Nat) (f : Nat → Int) (w : World) (h : Reads w a len cap f) (hm : len ≤ 1048576) :
    Calls Try.prog 5 #[.slice a len cap] w fun e w' => ∃ a' c', e = .returned (.slice a' len c') ∧ w'.ownsRow w.heap.size 5 1 (.slice a' len c') len (bs f len) ∧ Below w.heap.size w w' := by
  rcases h with ⟨rfl, rfl, rfl⟩ | ⟨x, rfl, hl, hc⟩
  · refine (clone_nil w).mono fun e w' ⟨he, hw⟩ => ?_
    subst hw
    exact ⟨none, 0, he, World.ownsRow_nil _ _ _ _, Below.refl _ _⟩
  · refine (clone_some x len cap f w hl hm hc).mono fun e w' ⟨he, hR, hb⟩ => ?_
    exact ⟨_, _, he, hR, hb⟩
end Go.Proofs.Qxb6605934a
