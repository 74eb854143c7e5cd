import Derived.Test.Qxb6605820aRows
import Derived.WalkKit
import Derived.WalkSpells
namespace Go.Proofs.Qxb6605820a
open Go.RowKit

theorem hidden {p : Prop} (h : p) : Hid p := h

theorem info4 : (Try.prog.info? 4).map (fun i => (i.zero, i.size, i.bytes)) = some (some (.bool false), 1, 1) := by kernel_rfl
theorem info31 : (Try.prog.info? 31).map (fun i => (i.zero, i.size, i.bytes)) = some (some (.agg #[.string ⟨#[]⟩, .bool false, .bool false, .bool false]), 4, 24) := by kernel_rfl

theorem block_lt {w : World} {a : Addr} {v : Value} (h : w.cell? a = some v) : a.block < w.heap.size := by
  unfold World.cell? at h
  split at h
  · rename_i e
    exact (Array.getElem?_eq_some_iff.1 e).1
  · exact absurd h (by simp)

/-- Block g is a row of n bools that may be written. -/
def Bools (w : World) (g n : Nat) : Prop := ∃ c : Array Value, w.heap[g]? = some (.cells c 4 (0, 0)) ∧ c.size = n ∧ ∀ i, i < n → ∃ b, c[i]? = some (.bool b)
/-- Block g is a row of n cells, of type 31, that may be written. -/
def Cols (w : World) (g n : Nat) : Prop := ∃ c : Array Value, w.heap[g]? = some (.cells c 31 (0, 0)) ∧ c.size = n

theorem Bools.cell {w : World} {g n i : Nat} (h : Bools w g n) (hi : i < n) : ∃ b, w.cell? ⟨g, i, none⟩ = some (.bool b) := by
  obtain ⟨c, hh, _, hb⟩ := h
  obtain ⟨b, e⟩ := hb i hi
  exact ⟨b, by simp [World.cell?, hh, e]⟩
theorem Bools.free {w : World} {g n i : Nat} (h : Bools w g n) : w.frozen? ⟨g, i, none⟩ = false := by
  obtain ⟨c, hh, _, _⟩ := h
  simp [World.frozen?, hh]
theorem Bools.set {w : World} {g n i : Nat} (h : Bools w g n) (b : Bool) : Bools (w.setCell ⟨g, i, none⟩ (.bool b)) g n := by
  obtain ⟨c, hh, hs, hb⟩ := h
  refine ⟨_, Go.heap_setCell_same w g i c 4 _ hh, by simpa using hs, ?_⟩
  intro j hj
  rw [Array.getElem?_setIfInBounds]
  split
  · rw [if_pos (by omega)]; exact ⟨b, rfl⟩
  · exact hb j hj
theorem Bools.below {B : Nat} {w w' : World} {g n : Nat} (h : Bools w g n) (hb : Below B w w') (hg : g < B) : Bools w' g n := by
  obtain ⟨c, hh, hs, hc⟩ := h
  exact ⟨c, by rw [hb.block g hg]; exact hh, hs, hc⟩
theorem Cols.cell {w : World} {g n i : Nat} (h : Cols w g n) (hi : i < n) : ∃ v, w.cell? ⟨g, i, none⟩ = some v := by
  obtain ⟨c, hh, hs⟩ := h
  exact ⟨c[i]'(by omega), by simp [World.cell?, hh, hs, hi]⟩
theorem Cols.free {w : World} {g n i : Nat} (h : Cols w g n) : w.frozen? ⟨g, i, none⟩ = false := by
  obtain ⟨c, hh, _⟩ := h
  simp [World.frozen?, hh]
theorem Cols.set {w : World} {g n i : Nat} (h : Cols w g n) (v : Value) : Cols (w.setCell ⟨g, i, none⟩ v) g n := by
  obtain ⟨c, hh, hs⟩ := h
  exact ⟨_, Go.heap_setCell_same w g i c 31 _ hh, by simpa using hs⟩

theorem clone_nil (w : World) :
    Calls Try.prog 5 #[.slice none 0 0] w fun e w' => e = .returned (.slice none 0 0) ∧ w' = w := by
  have q := fun (w : World) => Lib.run_eql_slice_nil (P := Try.prog) w 22 4 none 0 0 0 0 Try.underlying22
  go_enter Try.func5, Try.ntmps5
  go_wp2
  go_ret
  exact ⟨rfl, rfl⟩

/-- A slice of bools that is not nil: a new row of bools. -/
theorem clone_some (x : Addr) (len cap : Nat) (B : Nat → Bool) (w : World) (hl : len ≤ cap) (hm : len ≤ 65536)
    (hc : ∀ i, i < cap → w.cell? (x.add i) = some (.bool (B i))) :
    Calls Try.prog 5 #[.slice (some x) len cap] w fun e w' => e = .returned (.slice (some ⟨w.heap.size, 0, none⟩) len len) ∧
      Bools w' w.heap.size len ∧ Below w.heap.size w w' := by
  have q := fun (w : World) => Lib.run_eql_slice_nil (P := Try.prog) w 22 4 (some x) len cap 0 0 Try.underlying22
  obtain ⟨i0, hi, hz0, hz1, hz2⟩ := info_parts info4
  have HC := hidden hc
  clear hc
  go_enter Try.func5, Try.ntmps5
  go_wp2_with (first | (at_make; refine wpList_make_full _ rfl _ _ 22 rfl w.heap.size 4 i0 (.bool false) 1 Try.underlying22 hi hz0 hz1 _ _ _ _ len rfl rfl rfl rfl ?b1 ?b2 ?b3 ?_))
  case b1 => rw [hz2]; omega
  case b2 => unfold maxLen; omega
  case b3 => exact Nat.le_refl _
  intro w1 hown hgrow
  have HB := hidden (show Below w.heap.size w w1 from (Below.refl _ _).grown hgrow (Nat.le_refl _) (by simp))
  have HR : Bools w1 w.heap.size len := by
    obtain ⟨hlen, ⟨hv, _⟩ | ⟨g, cp, cur, hv, _, hh, _, _, hsz, htk⟩⟩ := hown
    · simp at hv
    · simp at hv
      obtain ⟨rfl, rfl⟩ := hv
      refine ⟨cur, hh, by simpa using hsz, ?_⟩
      intro i hi
      have htk' : cur.toList.take (len * 1) = List.replicate len (.bool false) := by
        rw [htk]; exact toList_madeCells_one _ _
      rw [Nat.mul_one, List.take_of_length_le (by simp; omega)] at htk'
      refine ⟨false, ?_⟩
      rw [← Array.getElem?_toList, htk']
      simp [hi]
  clear hown hgrow
  go_wp2_with fail
  go_loopw [4] (fun i wr => ∃ k : Nat, k ≤ len ∧ i = .int .i64 k ∧ Bools wr w.heap.size len ∧ Below w.heap.size w wr) (fun i _ => len - (intOf i).toNat)
  case atStart => exact ⟨0, Nat.zero_le _, rfl, HR, HB.out⟩
  case round =>
    obtain ⟨k, hk, rfl, hR, hB⟩ := hrel
    by_cases hlt : k < len
    · have hcw := HC.out k (by omega)
      have hcx : wr.cell? (x.add k) = some (.bool (B k)) := by rw [hB.cell (by exact block_lt hcw)]; exact hcw
      obtain ⟨b0, hc0⟩ := hR.cell hlt
      have hf0 : wr.frozen? ⟨w.heap.size, k, none⟩ = false := hR.free
      have HR' := hidden (hR.set (i := k) (B k))
      have HB' := hidden (hB.setCell (p := ⟨w.heap.size, k, none⟩) (Nat.le_refl _) (.bool (B k)))
      clear hcw hR hB HR
      go_wp2_with fail
      go_roundw
      case rel => exact ⟨k + 1, by omega, by go_num, HR'.out, HB'.out⟩
      case measure => simp [intOf]; omega
    · have HR' := hidden hR
      have HB' := hidden hB
      clear hR hB HR
      go_wp2_with fail
      go_ret
      exact ⟨rfl, HR'.out, HB'.out⟩

/-- The columns. -/
theorem cols_some (g len cap : Nat) (w : World) (hm : len ≤ 65536) (hR : Bools w g len) :
    Calls Try.prog 7 #[.slice (some ⟨g, 0, none⟩) len cap] w fun e w' => e = .returned (.slice (some ⟨w.heap.size, 0, none⟩) len len) ∧ Below w.heap.size w w' := by
  obtain ⟨i0, hi, hz0, hz1, hz2⟩ := info_parts info31
  have hgs : len ≠ 0 → g < w.heap.size := fun h => by
    obtain ⟨b, hb⟩ := hR.cell (i := 0) (by omega)
    exact block_lt hb
  have HG := hidden hgs
  have HRw := hidden hR
  clear hgs hR
  go_enter Try.func7, Try.ntmps7
  go_wp2_with (first | (at_make; refine wpList_make_full _ rfl _ _ 26 rfl w.heap.size 31 i0 (.agg #[.string ⟨#[]⟩, .bool false, .bool false, .bool false]) 4 Try.underlying26 hi hz0 hz1 _ _ _ _ len rfl rfl rfl rfl ?b1 ?b2 ?b3 ?_))
  case b1 => rw [hz2]; omega
  case b2 => unfold maxLen; omega
  case b3 => exact Nat.le_refl _
  intro w1 hown hgrow
  have HB := hidden (show Below w.heap.size w w1 from (Below.refl _ _).grown hgrow (Nat.le_refl _) (by simp))
  have HR : Hid (Cols w1 w.heap.size (4 * len)) := by
    obtain ⟨hlen, ⟨hv, _⟩ | ⟨g, cp, cur, hv, _, hh, _, _, hsz, htk⟩⟩ := hown
    · simp at hv
    · simp at hv
      obtain ⟨rfl, rfl⟩ := hv
      exact ⟨cur, hh, by omega⟩
  clear hown hgrow
  go_wp2_with fail
  go_loopw [4] (fun i wr => ∃ k : Nat, k ≤ len ∧ i = .int .i64 k ∧ Cols wr w.heap.size (4 * len) ∧ Below w.heap.size w wr) (fun i _ => len - (intOf i).toNat)
  case atStart => exact ⟨0, Nat.zero_le _, rfl, HR.out, HB.out⟩
  case round =>
    obtain ⟨k, hk, rfl, hC, hB⟩ := hrel
    by_cases hlt : k < len
    · obtain ⟨b, hcx⟩ := (HRw.out.below hB (HG.out (by omega))).cell hlt
      obtain ⟨v0, hc0⟩ := hC.cell (i := k * 4 + 1) (by omega)
      have hf0 : wr.frozen? ⟨w.heap.size, k * 4 + 1, none⟩ = false := hC.free
      have HR' := hidden (hC.set (i := k * 4 + 1) (.bool b))
      have HB' := hidden (hB.setCell (p := ⟨w.heap.size, k * 4 + 1, none⟩) (Nat.le_refl _) (.bool b))
      clear hC hB HR
      go_wp2_with fail
      go_roundw
      case rel => exact ⟨k + 1, by omega, by go_num, HR'.out, HB'.out⟩
      case measure => simp [intOf]; omega
    · have HB' := hidden hB
      clear hC hB HR
      go_wp2_with fail
      go_ret
      exact ⟨rfl, HB'.out⟩
/-- .. of the nil slice. -/
theorem cols_nil (w : World) :
    Calls Try.prog 7 #[.slice none 0 0] w fun e w' => e = .returned (.slice (some ⟨w.heap.size, 0, none⟩) 0 0) ∧ Below w.heap.size w w' := by
  obtain ⟨i0, hi, hz0, hz1, hz2⟩ := info_parts info31
  go_enter Try.func7, Try.ntmps7
  go_wp2_with (first | (at_make; refine wpList_make_full _ rfl _ _ 26 rfl w.heap.size 31 i0 (.agg #[.string ⟨#[]⟩, .bool false, .bool false, .bool false]) 4 Try.underlying26 hi hz0 hz1 _ _ _ _ 0 rfl rfl rfl rfl ?b1 ?b2 ?b3 ?_))
  case b1 => omega
  case b2 => unfold maxLen; omega
  case b3 => exact Nat.le_refl _
  intro w1 hown hgrow
  have HB := hidden (show Below w.heap.size w w1 from (Below.refl _ _).grown hgrow (Nat.le_refl _) (by simp))
  clear hown hgrow
  go_wp2_with fail
  go_loop [4] (fun i => i = .int .i64 0) (fun _ => 0)
  case atStart => rfl
  case round =>
    subst hrel
    go_wp2_with fail
    go_ret
    exact ⟨rfl, HB.out⟩

/-! ### ONE CONTRACT A FUNCTION -/
/-- WHAT THE WALK IS TOLD OF A SLICE OF BOOLS THAT CAME IN. -/
def IsBools (w : World) (a : Option Addr) (len cap : Nat) : Prop :=
  (a = none ∧ len = 0 ∧ cap = 0) ∨ ∃ (x : Addr) (B : Nat → Bool), a = some x ∧ len ≤ cap ∧ ∀ i, i < cap → w.cell? (x.add i) = some (.bool (B i))
/-- What is known of its clone. -/
def Key (w : World) (a : Option Addr) (len cap : Nat) : Prop := (a = none ∧ len = 0 ∧ cap = 0) ∨ ∃ g, a = some ⟨g, 0, none⟩ ∧ g < w.heap.size ∧ Bools w g len

theorem IsBools.below {w w' : World} {a : Option Addr} {len cap : Nat} (h : IsBools w a len cap) (hb : Below w.heap.size w w') : IsBools w' a len cap := by
  rcases h with h | ⟨x, B, rfl, hl, hc⟩
  · exact .inl h
  · exact .inr ⟨x, B, rfl, hl, fun i hi => by rw [hb.cell (by exact block_lt (hc i hi))]; exact hc i hi⟩
theorem Key.below {w w' : World} {a : Option Addr} {len cap : Nat} (h : Key w a len cap) (hb : Below w.heap.size w w') : Key w' a len cap := by
  rcases h with h | ⟨g, rfl, hg, hR⟩
  · exact .inl h
  · exact .inr ⟨g, rfl, Nat.lt_of_lt_of_le hg hb.size, hR.below hb hg⟩

theorem clone_any (a : Option Addr) (len cap : Nat) (w : World) (h : IsBools w a len cap) (hm : len ≤ 65536) :
    Calls Try.prog 5 #[.slice a len cap] w fun e w' => ∃ a' c', e = .returned (.slice a' len c') ∧ Key w' a' len c' ∧ Below w.heap.size w w' := by
  rcases h with ⟨rfl, rfl, rfl⟩ | ⟨x, B, rfl, hl, hc⟩
  · refine (clone_nil w).mono fun e w' ⟨he, hw⟩ => ?_
    subst hw
    exact ⟨none, 0, he, .inl ⟨rfl, rfl, rfl⟩, Below.refl _ _⟩
  · refine (clone_some x len cap B w hl hm hc).mono fun e w' ⟨he, hR, hb⟩ => ?_
    refine ⟨_, _, he, .inr ⟨_, rfl, ?_, hR⟩, hb⟩
    obtain ⟨c, hh, _⟩ := hR
    exact (Array.getElem?_eq_some_iff.1 hh).1

theorem cols_any (a : Option Addr) (len cap : Nat) (w : World) (h : Key w a len cap) (hm : len ≤ 65536) :
    Calls Try.prog 7 #[.slice a len cap] w fun e w' => e = .returned (.slice (some ⟨w.heap.size, 0, none⟩) len len) ∧ Below w.heap.size w w' := by
  rcases h with ⟨rfl, rfl, rfl⟩ | ⟨g, rfl, hg, hR⟩
  · exact cols_nil w
  · exact cols_some g len cap w hm hR
end Go.Proofs.Qxb6605820a
