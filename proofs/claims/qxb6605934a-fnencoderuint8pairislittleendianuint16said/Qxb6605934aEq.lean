import Derived.Test.Qxb6605934aLeaf
namespace Go.Proofs.Qxb6605934a
open Go.RowKit

/-- Two slices of the same bytes. -/
theorem eq_some (x y : Addr) (len c1 c2 : Nat) (f : Nat → Int) (w : World) (hm : len ≤ 2097152)
    (hx : ∀ i, i < len → w.cell? (x.add i) = some (.int .u8 (f i))) (hy : ∀ i, i < len → w.cell? (y.add i) = some (.int .u8 (f i))) :
    Calls Try.prog 10 #[.slice (some x) len c1, .slice (some y) len c2] w fun e w' => e = .returned (.bool true) ∧ ∃ q, w' = w.drewN q := by
  have HX := hidden hx
  have HY := hidden hy
  clear hx hy
  go_enter Try.func10, Try.ntmps10
  go_wp2_with fail
  go_loopw [5] (fun i wr => ∃ k : Nat, k ≤ len ∧ i = .int .i64 k ∧ ∃ q, wr = w.drewN q) (fun i _ => len - (intOf i).toNat)
  case atStart => exact ⟨0, Nat.zero_le _, rfl, 0, rfl⟩
  case round =>
    obtain ⟨k, hk, rfl, q, rfl⟩ := hrel
    by_cases hlt : k < len
    · have h1 := HX.out k hlt
      have h2 := HY.out k hlt
      have h3 : (k : Int) < (len : Int) := by omega
      go_wp2_with fail
      go_quiet (fail)
      go_wp2
      go_roundw
      case rel => exact ⟨k + 1, by omega, by go_num, q + nq, rfl⟩
      case measure => simp [intOf]; omega
    · go_wp2_with fail
      go_ret
      exact ⟨rfl, q, rfl⟩

/-- .. of no bytes. -/
theorem eq_none (a b : Option Addr) (c1 c2 : Nat) (w : World) :
    Calls Try.prog 10 #[.slice a 0 c1, .slice b 0 c2] w fun e w' => e = .returned (.bool true) ∧ ∃ q, w' = w.drewN q := by
  go_enter Try.func10, Try.ntmps10
  go_wp2_with fail
  go_loop [5] (fun i => i = .int .i64 0) (fun _ => 0)
  case atStart => rfl
  case round =>
    subst hrel
    go_wp2_with fail
    go_ret
    exact ⟨rfl, 0, rfl⟩

theorem eq_any (a b : Option Addr) (len c1 c2 : Nat) (f : Nat → Int) (w : World) (hm : len ≤ 2097152) (h1 : Reads w a len c1 f) (h2 : Reads w b len c2 f) :
    Calls Try.prog 10 #[.slice a len c1, .slice b len c2] w fun e w' => e = .returned (.bool true) ∧ ∃ q, w' = w.drewN q := by
  rcases h1 with ⟨rfl, rfl, rfl⟩ | ⟨x, rfl, _, hx⟩
  · exact eq_none _ _ _ _ _
  · rcases h2 with ⟨rfl, rfl, rfl⟩ | ⟨y, rfl, _, hy⟩
    · exact eq_none _ _ _ _ _
    · exact eq_some x y len c1 c2 f w hm hx hy

theorem newEnc_any (a : Option Addr) (n c : Nat) (w : World) :
    Calls Try.prog 6 #[.slice a n c, .slice none 0 0, .slice none 0 0] w fun e w' => e = .returned (.pointer (some ⟨w.heap.size, 0, none⟩)) ∧ w' = w.alloc (.cells #[.slice a n c, .slice none 0 0, .slice none 0 0, .nilIface] 38) := by
  go_enter Try.func6, Try.ntmps6
  go_wp2_with fail
  go_ret
  exact ⟨rfl, rfl⟩

theorem fixed_any (E : Nat) (v : Value) (w : World) (hc : w.cell? ⟨E, 0, none⟩ = some v) :
    Calls Try.prog 9 #[.pointer (some ⟨E, 0, none⟩)] w fun e w' => e = .returned v ∧ w' = w := by
  go_enter Try.func9, Try.ntmps9
  go_wp2_with fail
  go_ret
  exact ⟨rfl, rfl⟩

/-- An encoder at block E, whose fixed part is the n cells xs, in a row among the blocks from 'base' on. -/
def Enc (w : World) (base E n : Nat) (xs : List Value) : Prop :=
  base ≤ E ∧ ∃ a c, w.heap[E]? = some (.cells #[.slice a n c, .slice none 0 0, .slice none 0 0, .nilIface] 38 (0, 0)) ∧ w.ownsRow base 5 1 (.slice a n c) n xs

theorem ownBlock_ne {w : World} {base E n c : Nat} {a : Option Addr} {xs : List Value} {cs : Array Value} (hE : w.heap[E]? = some (.cells cs 38 (0, 0))) (h : w.ownsRow base 5 1 (.slice a n c) n xs) : (Value.slice a n c).ownBlock ≠ some E := by
  rcases h.2 with ⟨hv, _⟩ | ⟨g, cap, cur, hv, _, hh, _⟩
  · simp at hv
    obtain ⟨rfl, _⟩ := hv
    simp [Value.ownBlock]
  · simp at hv
    obtain ⟨rfl, _⟩ := hv
    simp [Value.ownBlock]
    intro e
    subst e
    rw [hE] at hh
    simp at hh

/-- Behind an append on the fixed part: what the store into the encoder leaves. -/
theorem enc_stored {w w1 : World} {base E n c m : Nat} {a : Option Addr} {ys : List Value} {v' : Value} (hbE : base ≤ E)
    (hE : w.heap[E]? = some (.cells #[.slice a n c, .slice none 0 0, .slice none 0 0, .nilIface] 38 (0, 0))) (hE1 : w1.heap[E]? = w.heap[E]?)
    (hown' : w1.ownsRow base 5 1 v' m ys) (hb : Below base w w1) :
    ∃ a' c', v' = .slice a' m c' ∧ w1.cell? ⟨E, 0, none⟩ = some (.slice a n c) ∧ w1.frozen? ⟨E, 0, none⟩ = false ∧
      Enc (w1.setCell ⟨E, 0, none⟩ (.slice a' m c')) base E m ys ∧ Below base w (w1.setCell ⟨E, 0, none⟩ (.slice a' m c')) := by
  obtain ⟨a', c', rfl⟩ : ∃ a' c', v' = .slice a' m c' := by
    rcases hown'.2 with ⟨hv, hn⟩ | ⟨g, cap, cur, hv, _⟩
    · exact ⟨none, 0, by rw [hv, hn]⟩
    · exact ⟨_, _, hv⟩
  rw [hE] at hE1
  refine ⟨a', c', rfl, by simp [World.cell?, hE1], by simp [World.frozen?, hE1], ⟨hbE, a', c', ?_, ?_⟩, hb.setCell hbE _⟩
  · rw [Go.heap_setCell_same w1 E 0 _ 38 _ hE1]
    rfl
  · exact ownsRow_setCell_other hown' (by exact ownBlock_ne hE1 hown') _

theorem grown_below {w w1 : World} {base E n c : Nat} {a : Option Addr} {xs : List Value} {cs : Array Value} (hE : w.heap[E]? = some (.cells cs 38 (0, 0)))
    (hown : w.ownsRow base 5 1 (.slice a n c) n xs) (hbE : base ≤ E) (hg : w.grownBy w1 (Value.slice a n c).ownBlock) : w1.heap[E]? = w.heap[E]? ∧ Below base w w1 := by
  have hlt : E < w.heap.size := (Array.getElem?_eq_some_iff.1 hE).1
  refine ⟨hg.block E hlt (fun e => ownBlock_ne hE hown e.symm), ?_⟩
  exact (Below.refl _ _).grown hg (by omega) (fun k hk => (hown.lt k hk).1)

theorem grown_alloc {w w1 : World} {o : Obj} {row : Option Nat} (hg : (w.alloc o).grownBy w1 row) : w.grownBy w1 row := by
  refine ⟨hg.os, hg.tape, hg.output, Nat.le_trans (by simp) hg.size, fun k hk hne => ?_⟩
  rw [hg.block k (by simp; omega) hne]
  exact Below.heap_alloc w o k hk

set_option maxHeartbeats 1000000 in
theorem uint8_any (E base n : Nat) (xs : List Value) (v : Int) (w : World) (hn : n ≤ 1048580) (h : Enc w base E n xs) :
    Calls Try.prog 7 #[.pointer (some ⟨E, 0, none⟩), .int .u8 v] w fun e w' => e = .returned (.tuple #[]) ∧ Enc w' base E (n + 1) (xs ++ [.int .u8 v]) ∧ Below base w w' := by
  obtain ⟨hbE, a, c, hE, hown⟩ := h
  have hlt : E < w.heap.size := (Array.getElem?_eq_some_iff.1 hE).1
  have hc0 : w.cell? ⟨E, 0, none⟩ = some (.slice a n c) := by simp [World.cell?, hE]
  have HO := hidden hown
  have HE := hidden hE
  clear hown hE
  obtain ⟨i0, hi, hz0, hz1, hz2⟩ := info_parts info5
  go_enter Try.func7, Try.ntmps7
  go_wp2_with (at_builtin; refine wpList_append_own _ rfl (.tmp 8) (.tmp 10) 22 rfl base 5 i0 (.int .u8 0) 1 1 Try.underlying22 hi hz0 hz1 hz2 rfl (by decide) _ _ _ rfl (HO.out.alloc _) ⟨w.heap.size, 0, none⟩ 1 1 [.int .u8 v] rfl rfl ?c1 ?c2 ?c3 ?c4 ?c5 ?_)
  case c1 =>
    intro j u hj
    match j, hj with
    | 0, hj => simp at hj; subst hj; simp [Addr.add]
  case c2 => intro u hu; simp at hu; subst hu; rfl
  case c3 => unfold maxLen; omega
  case c4 => omega
  case c5 => simp; omega
  intro v' w1 hown' hgrow _
  obtain ⟨hE1, hb1⟩ := grown_below HE.out HO.out hbE (grown_alloc hgrow)
  obtain ⟨a', c', hv, hcE, hfE, henc, hbel⟩ := enc_stored hbE HE.out hE1 hown' hb1
  rw [hv]
  have HN := hidden henc
  have HB := hidden hbel
  clear hown' hgrow hE1 hb1 henc hbel hv hc0
  go_wp2
  go_end0
  exact ⟨rfl, HN.out, HB.out⟩

set_option maxHeartbeats 1000000 in
theorem appendU16_any (a : Option Addr) (base n c : Nat) (xs : List Value) (v : Int) (w : World) (h0 : 0 ≤ v) (h1 : v ≤ 65535) (hn : n ≤ 1048580) (hbase : base ≤ w.heap.size) (hown : w.ownsRow base 5 1 (.slice a n c) n xs) :
    Calls Try.prog 11 #[.agg #[], .slice a n c, .int .u16 v] w fun e w' => ∃ v', e = .returned v' ∧ w'.ownsRow base 5 1 v' (n + 2) (xs ++ [.int .u8 (v % 256), .int .u8 (v / 256)]) ∧ w.grownBy w' (Value.slice a n c).ownBlock := by
  have HO := hidden hown
  clear hown
  obtain ⟨i0, hi, hz0, hz1, hz2⟩ := info_parts info5
  go_enter Try.func11, Try.ntmps11
  go_wp2_with (at_builtin; refine wpList_append_own _ rfl (.tmp 7) (.tmp 13) 22 rfl base 5 i0 (.int .u8 0) 1 1 Try.underlying22 hi hz0 hz1 hz2 rfl (by decide) _ _ _ rfl ((HO.out.alloc _).alloc _) ⟨w.heap.size + 1, 0, none⟩ 2 2 [.int .u8 (v % 256), .int .u8 (v / 256)] rfl rfl ?c1 ?c2 ?c3 ?c4 ?c5 ?_)
  case c1 =>
    intro j u hj
    match j, hj with
    | 0, hj => simp at hj; subst hj; simp [Addr.add]
    | 1, hj => simp at hj; subst hj; simp [Addr.add]
  case c2 =>
    intro u hu
    simp at hu
    rcases hu with rfl | rfl <;> rfl
  case c3 => unfold maxLen; omega
  case c4 => omega
  case c5 => simp; omega
  intro v' w1 hown' hgrow _
  have HN := hidden hown'
  have HG := hidden (grown_alloc (grown_alloc hgrow))
  clear hown' hgrow
  go_wp2
  go_ret
  exact ⟨_, rfl, HN.out, HG.out⟩
end Go.Proofs.Qxb6605934a
