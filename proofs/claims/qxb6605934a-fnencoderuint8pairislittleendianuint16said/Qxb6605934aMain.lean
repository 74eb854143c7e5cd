import Derived.Test.Qxb6605934aU16
import Derived.Laws.BitsAllLaws
namespace Go.Proofs.Qxb6605934a
open Go.RowKit

theorem small_yes (a : Option Addr) (len cap : Nat) (lo hi : Int) (w : World) (hm : len ≤ 1048576) :
    Calls Try.prog 4 #[.slice a len cap, .int .u8 lo, .int .u8 hi] w fun e w' => e = .returned (.bool true) ∧ w' = w := by
  go_enter Try.func4, Try.ntmps4
  go_wp2
  go_ret
  exact ⟨rfl, rfl⟩

theorem small_no (a : Option Addr) (len cap : Nat) (lo hi : Int) (w : World) (hm : 1048576 < len) :
    Calls Try.prog 4 #[.slice a len cap, .int .u8 lo, .int .u8 hi] w fun e w' => e = .returned (.bool false) ∧ w' = w := by
  go_enter Try.func4, Try.ntmps4
  go_wp2
  go_ret
  exact ⟨rfl, rfl⟩

theorem pair_big (a : Option Addr) (len cap : Nat) (lo hi : Int) (w : World) (hm : 1048576 < len) :
    Calls Try.prog 3 #[.slice a len cap, .int .u8 lo, .int .u8 hi] w fun e w' => e = .returned (.bool true) ∧ w' = w := by
  go_enter Try.func3, Try.ntmps3
  go_wp2_with fail
  refine (small_no a len cap lo hi _ hm).mono ?_
  rintro e w' ⟨rfl, rfl⟩
  go_wp2_with fail
  go_ret
  exact ⟨rfl, rfl⟩

/-- The bytes with lo and hi behind them. -/
def ext (f : Nat → Int) (len : Nat) (lo hi : Int) (i : Nat) : Int := if i < len then f i else if i = len then lo else hi
theorem bs_ext (f : Nat → Int) (len : Nat) (lo hi : Int) : bs f len ++ [.int .u8 lo] ++ [.int .u8 hi] = bs (ext f len lo hi) (len + 2) := by
  apply bs_of
  · simp [bs_len]
  · intro i h
    rcases (show i < len ∨ i = len ∨ i = len + 1 by omega) with h | h | h
    · rw [List.getElem?_append_left (by simp [bs_len]; omega), List.getElem?_append_left (by simp [bs_len]; omega), bs_get f len i h]
      simp [ext, h]
    · subst h
      rw [List.getElem?_append_left (by simp [bs_len]), List.getElem?_append_right (by simp [bs_len])]
      simp [ext, bs_len]
    · subst h
      rw [List.getElem?_append_right (by simp [bs_len])]
      have : ¬ len + 1 < len := by omega
      simp [ext, bs_len, this]

theorem Enc.below {w w' : World} {base E n B : Nat} {xs : List Value} (h : Enc w base E n xs) (hb : Below B w w') (hB : w.heap.size ≤ B) : Enc w' base E n xs := by
  obtain ⟨hbE, a, c, hE, hown⟩ := h
  have : E < w.heap.size := (Array.getElem?_eq_some_iff.1 hE).1
  exact ⟨hbE, a, c, by rw [hb.block E (by omega)]; exact hE, owned_below hown hb hB⟩

theorem enc_new {w : World} {base n c : Nat} {a : Option Addr} {xs : List Value} (hb : base ≤ w.heap.size) (h : w.ownsRow base 5 1 (.slice a n c) n xs) :
    Enc (w.alloc (.cells #[.slice a n c, .slice none 0 0, .slice none 0 0, .nilIface] 38)) base w.heap.size n xs :=
  ⟨hb, a, c, heap_alloc_new w _, h.alloc _⟩

theorem or_pair (lo hi : Int) (l0 : 0 ≤ lo) (l1 : lo ≤ 255) (h0 : 0 ≤ hi) (h1 : hi ≤ 255) : bits .or .u16 lo (hi * 256) = lo + hi * 256 := by
  rw [u16_or lo (hi * 256) (by omega) (by omega) (by omega) (by omega), Nat.or_comm, nat_join 8 _ _ (by omega) (by omega)]
  omega

theorem Enc.fixed {w : World} {base E n : Nat} {xs : List Value} (h : Enc w base E n xs) : ∃ a c, w.cell? ⟨E, 0, none⟩ = some (.slice a n c) ∧ w.ownsRow base 5 1 (.slice a n c) n xs := by
  obtain ⟨_, a, c, hE, hown⟩ := h
  exact ⟨a, c, by simp [World.cell?, hE], hown⟩

theorem owned_pos {w : World} {base n c : Nat} {a : Option Addr} {xs : List Value} (h : w.ownsRow base 5 1 (.slice a (n + 2) c) (n + 2) xs) : ∃ g, a = some ⟨g, 0, none⟩ ∧ n + 2 ≤ c := by
  rcases h.2 with ⟨_, hn⟩ | ⟨g, cap, cur, hv, _, _, hc, _⟩
  · omega
  · simp at hv
    exact ⟨g, hv.1, by omega⟩

/-- What is read of the row that bears lo and hi at its end. -/
theorem owned_ext {w : World} {base g len c : Nat} {f : Nat → Int} {lo hi : Int} (h : w.ownsRow base 5 1 (.slice (some ⟨g, 0, none⟩) (len + 2) c) (len + 2) (bs (ext f len lo hi) (len + 2))) :
    Reads w (some ⟨g, 0, none⟩) len c f ∧ w.cell? ⟨g, len, none⟩ = some (.int .u8 lo) ∧ w.cell? ⟨g, len + 1, none⟩ = some (.int .u8 hi) := by
  have hc : ∀ i, i < len + 2 → w.cell? ⟨g, i, none⟩ = some (.int .u8 (ext f len lo hi i)) := fun i hi => by
    rw [h.cellAt i (by omega), bs_get _ _ i hi]
  obtain ⟨g', e, hcap⟩ := owned_pos h
  refine ⟨.inr ⟨_, rfl, by omega, fun i hi => ?_⟩, ?_, ?_⟩
  · have := h.cells (g := g) rfl i _ (bs_get _ _ i (by omega))
    rw [show ext f len lo _ i = f i by simp [ext, hi]] at this
    exact this
  · have := hc len (by omega)
    simpa [ext] using this
  · have := hc (len + 1) (by omega)
    have hn : ¬ len + 1 < len := by omega
    simpa [ext, hn] using this

theorem below_drewn (w : World) (q : Nat) : Below w.heap.size w (w.drewN q) := ⟨rfl, rfl, rfl, Nat.le_refl _, fun _ _ => rfl⟩

set_option maxHeartbeats 2000000 in
theorem pair_small (a0 : Option Addr) (len cap : Nat) (f : Nat → Int) (lo hi : Int) (w : World) (hm : len ≤ 1048576) (hR : Reads w a0 len cap f) (l0 : 0 ≤ lo) (l1 : lo ≤ 255) (h0 : 0 ≤ hi) (h1 : hi ≤ 255) :
    Calls Try.prog 3 #[.slice a0 len cap, .int .u8 lo, .int .u8 hi] w fun e w' => e = .returned (.bool true) ∧ Below w.heap.size w w' := by
  have HR := hidden hR
  clear hR
  go_enter Try.func3, Try.ntmps3
  go_wp2_with fail
  refine (small_yes a0 len cap lo hi _ hm).mono ?_
  rintro e w' ⟨rfl, rfl⟩
  go_wp2_with fail
  refine (clone_any a0 len cap f _ HR.out hm).mono ?_
  rintro e w1 ⟨af, cf, rfl, o1, b1⟩
  have O1 := hidden (reads_owned o1)
  have B1 := hidden b1
  clear o1 b1
  go_wp2_with fail
  refine (clone_any af len cf f _ O1.out hm).mono ?_
  rintro e w2 ⟨a2, c2, rfl, o2, b2⟩
  have O2 := hidden o2
  have B2 := hidden b2
  clear o2 b2
  go_wp2_with fail
  refine (newEnc_any a2 len c2 _).mono ?_
  rintro e w3 ⟨rfl, e3⟩
  have N3 : Hid (Enc w3 w1.heap.size w2.heap.size len (bs f len)) := by rw [e3]; exact enc_new B2.out.size O2.out
  have B3 : Hid (Below w1.heap.size w1 w3) := by rw [e3]; exact B2.out.alloc B2.out.size _
  clear e3 O2 B2
  go_wp2_with fail
  refine (uint8_any w2.heap.size w1.heap.size len _ lo _ (by omega) N3.out).mono ?_
  rintro e w4 ⟨rfl, n4, b4⟩
  have N4 := hidden n4
  have B4 := hidden (B3.out.trans b4)
  clear n4 b4 N3 B3
  go_wp2_with fail
  refine (uint8_any w2.heap.size w1.heap.size (len + 1) _ hi _ (by omega) N4.out).mono ?_
  rintro e w5 ⟨rfl, n5, b5⟩
  have N5 : Hid (Enc w5 w1.heap.size w2.heap.size (len + 2) (bs (ext f len lo hi) (len + 2))) := by rw [← bs_ext]; exact n5
  have B5 := hidden (B4.out.trans b5)
  clear n5 b5 N4 B4
  go_wp2_with fail
  refine (clone_any af len cf f _ (O1.out.below B5.out) hm).mono ?_
  rintro e w6 ⟨a6, c6, rfl, o6, b6⟩
  have O6 := hidden o6
  have B6 := hidden b6
  clear o6 b6
  go_wp2_with fail
  refine (newEnc_any a6 len c6 _).mono ?_
  rintro e w7 ⟨rfl, e7⟩
  have N7 : Hid (Enc w7 w5.heap.size w6.heap.size len (bs f len)) := by rw [e7]; exact enc_new B6.out.size O6.out
  have B7 : Hid (Below w5.heap.size w5 w7) := by rw [e7]; exact B6.out.alloc B6.out.size _
  clear e7 O6 B6
  go_wp2_with fail
  rw [or_pair lo hi l0 l1 h0 h1]
  refine (uint16_any w6.heap.size w5.heap.size len _ (lo + hi * 256) _ (by omega) (by omega) (by omega) N7.out).mono ?_
  rintro e w8 ⟨rfl, n8, b8⟩
  have e1 : (lo + hi * 256) % 256 = lo := by omega
  have e2 : (lo + hi * 256) / 256 = hi := by omega
  rw [e1, e2] at n8
  have N8 : Hid (Enc w8 w5.heap.size w6.heap.size (len + 2) (bs (ext f len lo hi) (len + 2))) := by rw [← bs_ext, List.append_assoc]; exact n8
  have B8 := hidden (B7.out.trans b8)
  have M8 := hidden (N5.out.below B8.out (Nat.le_refl _))
  clear n8 b8 e1 e2 N7 B7 N5
  obtain ⟨a1, c1, hf1, own1⟩ := M8.out.fixed
  obtain ⟨a9, c9, hf9, own9⟩ := N8.out.fixed
  obtain ⟨g1, ea1, hcap1⟩ := owned_pos own1
  subst ea1
  obtain ⟨r1, hlo, hhi⟩ := owned_ext own1
  have R1 := hidden r1
  have W1 := hidden (reads_owned own1)
  have W9 := hidden (reads_owned own9)
  have hcap1' : len ≤ c1 := by omega
  have F := hidden (O1.out.below (B5.out.trans (B8.out.mono B5.out.size)))
  clear own1 own9 M8 N8 r1 hcap1
  go_wp2_with fail
  refine (fixed_any w2.heap.size _ _ hf1).mono ?_
  rintro e w10 ⟨rfl, rfl⟩
  go_wp2_with fail
  refine (fixed_any w6.heap.size _ _ hf9).mono ?_
  rintro e w11 ⟨rfl, rfl⟩
  go_wp2_with fail
  refine (eq_any _ _ len c1 cf f _ (by omega) R1.out F.out).mono ?_
  rintro e w12 ⟨rfl, q1, rfl⟩
  go_wp2_with fail
  refine (eq_any _ _ (len + 2) c1 c9 (ext f len lo hi) _ (by omega) (W1.out.below (below_drewn _ _)) (W9.out.below (below_drewn _ _))).mono ?_
  rintro e w13 ⟨rfl, q2, rfl⟩
  go_wp2_with fail
  go_ret
  have z1 := B1.out.size
  have z5 := B5.out.size
  refine ⟨rfl, ?_⟩
  have b8 : Below w'.heap.size w' w11 := (B1.out.trans (B5.out.mono z1)).trans (B8.out.mono (by omega))
  exact b8.trans ((below_drewn _ _).mono (Nat.le_trans z1 (Nat.le_trans z5 B8.out.size)))
end Go.Proofs.Qxb6605934a
