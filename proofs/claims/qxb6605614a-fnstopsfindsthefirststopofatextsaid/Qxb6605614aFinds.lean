import Derived.Test.Qxb6605614aClone
import Derived.Test.Qxb6605614aScan
import Derived.Test.Qxb6605614aMarks
namespace Go.Proofs.Qxb6605614a
open Go.RowKit Plain

theorem small_yes (a : Option Addr) (len cap : Nat) (w : World) (hm : len ≤ 1048576) :
    Calls Try.prog 7 #[.slice a len cap] w fun e w' => e = .returned (.bool true) ∧ w' = w := by
  go_enter Try.func7, Try.ntmps7
  go_wp2
  go_ret
  exact ⟨rfl, rfl⟩

theorem small_no (a : Option Addr) (len cap : Nat) (w : World) (hm : 1048576 < len) :
    Calls Try.prog 7 #[.slice a len cap] w fun e w' => e = .returned (.bool false) ∧ w' = w := by
  go_enter Try.func7, Try.ntmps7
  go_wp2
  go_ret
  exact ⟨rfl, rfl⟩

theorem finds_big (a : Option Addr) (len cap : Nat) (w : World) (hm : 1048576 < len) :
    Calls Try.prog 4 #[.slice a len cap] w fun e w' => e = .returned (.bool true) ∧ w' = w := by
  go_enter Try.func4, Try.ntmps4
  go_wp2_with fail
  refine (small_no a len cap _ hm).mono ?_
  rintro e w' ⟨rfl, rfl⟩
  go_wp2_with fail
  go_ret
  exact ⟨rfl, rfl⟩

theorem put_byte (f : Nat → Nat) (hf : ∀ i, f i < 256) (i j : Nat) (hj : j < 8) :
    bits .or .u64 ((word (chunk f i j) : Nat) : Int) (IntKind.u64.wrap (IntKind.u64.wrap ((f (i + j) : Nat) : Int) * 2 ^ (8 * j))) = ((word (chunk f i (j + 1)) : Nat) : Int) := by
  have hb := hf (i + j)
  have e : IntKind.u64.wrap ((f (i + j) : Nat) : Int) = ((f (i + j) : Nat) : Int) := by rw [IntKind.wrap_u64]; omega
  have h := or_put (chunk f i j) (chunk_small f hf i j) (by rw [chunk_len]; exact hj) (f (i + j)) hb
  rw [chunk_len] at h
  rw [e, h, chunk_succ]

theorem stops_chunk (f : Nat → Nat) (hf : ∀ i, f i < 256) (i : Nat) : stopsN (word (chunk f i 8)) = word ((chunk f i 8).map mk8) :=
  stops_map _ (chunk_small f hf i 8) (chunk_len f i 8)
theorem chunk_lt (f : Nat → Nat) (hf : ∀ i, f i < 256) (i : Nat) : word (chunk f i 8) < 18446744073709551616 := by
  have := word_lt _ (chunk_small f hf i 8)
  rw [chunk_len] at this
  exact this
theorem marks_lt (f : Nat → Nat) (hf : ∀ i, f i < 256) (i : Nat) : word ((chunk f i 8).map mk8) < 18446744073709551616 := map_lt keeps_mk8 (chunk_small f hf i 8) (chunk_len f i 8)
theorem low_none (f : Nat → Nat) (hf : ∀ i, f i < 256) (i : Nat) : bits .and .u64 ((word ((chunk f i 8).map mk8) : Nat) : Int) 9187201950435737471 = 0 := by
  rw [show bits .and .u64 ((word ((chunk f i 8).map mk8) : Nat) : Int) 9187201950435737471 = ((word ((chunk f i 8).map mk8) &&& 9187201950435737471 : Nat) : Int) from u64_and_nat _ 9187201950435737471 (marks_lt f hf i) (by decide),
    low_clean _ (chunk_small f hf i 8) (chunk_len f i 8)]
  rfl

theorem bit_eq (f : Nat → Nat) (hf : ∀ i, f i < 256) (i j : Nat) (hj : j < 8) :
    (bits .and .u64 (((word ((chunk f i 8).map mk8) : Nat) : Int) / 2 ^ (8 * j + 7)) 1 != 0) = stopB (f (i + j)) := by
  have hlt := marks_lt f hf i
  have hb := high_bit (chunk f i 8) (chunk_small f hf i 8) j (f (i + j)) (chunk_get f i 8 j hj)
  generalize word ((chunk f i 8).map mk8) = S at hlt hb
  have e : ((S : Nat) : Int) / 2 ^ (8 * j + 7) = ((S / 2 ^ (8 * j + 7) : Nat) : Int) := by rw [Int.natCast_ediv, Int.natCast_pow]; rfl
  have e2 : bits .and .u64 ((S / 2 ^ (8 * j + 7) : Nat) : Int) 1 = ((S / 2 ^ (8 * j + 7) &&& 1 : Nat) : Int) := u64_and_nat _ 1 (Nat.lt_of_le_of_lt (Nat.div_le_self _ _) hlt) (by decide)
  rw [e, e2, nat_mask1, hb]
  cases stopB (f (i + j)) <;> rfl

set_option maxHeartbeats 1000000 in
theorem finds_some (x : Addr) (len cap : Nat) (zs : List Int) (f : Nat → Nat) (hf : ∀ i, f i < 256) (hfz : ∀ i, zs.getD i 0 = ((f i : Nat) : Int)) (w : World) (hl : len ≤ cap) (hm : len ≤ 1048576) (hz : zs.length = cap)
    (hc : ∀ i, i < zs.length → w.cell? (x.add i) = some (.int .u8 (zs.getD i 0))) :
    Calls Try.prog 4 #[.slice (some x) len cap] w fun e w' => e = .returned (.bool true) ∧ Below w.heap.size w w' := by
  have HK := hidden (clone_some x len cap zs w hl hm hz hc)
  have HZ := hidden hfz
  have HF := hidden hf
  clear hc hz hfz hf
  go_enter Try.func4, Try.ntmps4
  go_wp2_with fail
  refine (small_yes (some x) len cap _ hm).mono ?_
  rintro e w' ⟨rfl, rfl⟩
  go_wp2_with fail
  refine HK.out.mono ?_
  rintro e w1 ⟨rfl, hcell, hb⟩
  have HB := hidden hb
  have hc1 : ∀ i, i < len → w1.cell? ⟨w'.heap.size, i, none⟩ = some (.int .u8 ((f i : Nat) : Int)) := fun i hi => by rw [hcell i hi, HZ.out]
  have HC := hidden hc1
  clear hcell hb HK hc1
  go_wp2_with fail
  go_loop [4, 5, 6, 7] (fun g c b i => ∃ m : Nat, 8 * m ≤ len ∧ i = .int .i64 ((8 * m : Nat) : Int) ∧ g = .int .i64 (fst f (8 * m)) ∧ c = .int .i64 ((cnt f (8 * m) : Nat) : Int) ∧ b = .bool true) (fun _ _ _ i => len - (intOf i).toNat)
  case atStart => exact ⟨0, Nat.zero_le _, rfl, rfl, rfl, rfl⟩
  case round =>
    obtain ⟨m, hk, rfl, rfl, rfl, rfl⟩ := hrel
    by_cases hlt : 8 * m + 8 ≤ len
    · go_wp2_with fail
      go_loop [8, 9] (fun t i => ∃ j : Nat, j ≤ 8 ∧ i = .int .i64 j ∧ t = .int .u64 ((word (chunk f (8 * m) j) : Nat) : Int)) (fun _ i => 8 - (intOf i).toNat)
      case atStart => exact ⟨0, Nat.zero_le _, rfl, rfl⟩
      case round =>
        obtain ⟨j, hj, rfl, rfl⟩ := hrel
        by_cases hj8 : j < 8
        · have hcj := HC.out (8 * m + j) (by omega)
          go_wp2_with fail
          go_round
          case rel => exact ⟨j + 1, by omega, by go_num, by rw [put_byte f HF.out (8 * m) j hj8]⟩
          case measure => simp [intOf]; omega
        · obtain rfl : j = 8 := by omega
          go_wp2_with fail
          refine (zz_any (word (chunk f (8 * m) 8)) (chunk_lt f HF.out (8 * m)) _).mono ?_
          rintro e w2 ⟨rfl, rfl⟩
          have hlow := low_none f HF.out (8 * m)
          rw [stops_chunk f HF.out (8 * m)]
          obtain ⟨S, hS⟩ : ∃ S, S = word ((chunk f (8 * m) 8).map mk8) := ⟨_, rfl⟩
          rw [← hS] at hlow
          rw [← hS]
          have HS := hidden hS
          clear hS
          go_wp2_with fail
          go_loop [4, 5, 11] (fun g c i => ∃ j : Nat, j ≤ 8 ∧ i = .int .i64 j ∧ g = .int .i64 (fst f (8 * m + j)) ∧ c = .int .i64 ((cnt f (8 * m + j) : Nat) : Int)) (fun _ _ i => 8 - (intOf i).toNat)
          case atStart => exact ⟨0, Nat.zero_le _, rfl, rfl, rfl⟩
          case round =>
            obtain ⟨j, hj, rfl, rfl, rfl⟩ := hrel
            have hcb := cnt_le f (8 * m + j)
            have hfb := fst_bd f (8 * m + j)
            by_cases hj8 : j < 8
            · have hbit := bit_eq f HF.out (8 * m) j hj8
              rw [← HS.out] at hbit
              cases hs : stopB (f (8 * m + j))
              · rw [hs] at hbit
                have h1 := hidden (cnt_no f (8 * m + j) hs)
                have h2 := hidden (fst_no f (8 * m + j) hs)
                go_wp2_with fail
                go_round
                case rel => exact ⟨j + 1, by omega, by go_num, by rw [← Nat.add_assoc, h2.out], by rw [← Nat.add_assoc, h1.out]⟩
                case measure => simp [intOf]; omega
              · rw [hs] at hbit
                have h1 := hidden (cnt_yes f (8 * m + j) hs)
                by_cases hn : fst f (8 * m + j) < 0
                · have h2 := hidden (fst_new f (8 * m + j) hs hn)
                  go_wp2_with fail
                  go_round
                  case rel => exact ⟨j + 1, by omega, by go_num, by rw [← Nat.add_assoc, h2.out]; go_num, by rw [← Nat.add_assoc, h1.out]; go_num⟩
                  case measure => simp [intOf]; omega
                · have h2 := hidden (fst_old f (8 * m + j) hs hn)
                  go_wp2_with fail
                  go_round
                  case rel => exact ⟨j + 1, by omega, by go_num, by rw [← Nat.add_assoc, h2.out], by rw [← Nat.add_assoc, h1.out]; go_num⟩
                  case measure => simp [intOf]; omega
            · obtain rfl : j = 8 := by omega
              go_wp2_with fail
              go_round
              case rel => exact ⟨m + 1, by omega, by go_num, by rw [Nat.mul_add], by rw [Nat.mul_add], rfl⟩
              case measure => simp [intOf]; omega
    · go_wp2_with fail
      go_loop [12, 13, 14] (fun g c i => ∃ k : Nat, k ≤ 8 * m ∧ i = .int .i64 k ∧ g = .int .i64 (fst f k) ∧ c = .int .i64 ((cnt f k : Nat) : Int)) (fun _ _ i => 8 * m - (intOf i).toNat)
      case atStart => exact ⟨0, Nat.zero_le _, rfl, rfl, rfl⟩
      case round =>
        obtain ⟨k, hkm, rfl, rfl, rfl⟩ := hrel
        have hcb := cnt_le f k
        have hfb := fst_bd f k
        by_cases hk8 : k < 8 * m
        · have hcj := HC.out k (by omega)
          cases hs : stopB (f k)
          · have h1 := hidden (cnt_no f k hs)
            have h2 := hidden (fst_no f k hs)
            go_wp2_with fail
            refine (stop_any (f k) _).mono ?_
            rintro e w2 ⟨rfl, rfl⟩
            go_wp2_with fail
            go_round
            case rel => exact ⟨k + 1, by omega, by go_num, by rw [h2.out], by rw [h1.out]⟩
            case measure => simp [intOf]; omega
          · have h1 := hidden (cnt_yes f k hs)
            by_cases hn : fst f k < 0
            · have h2 := hidden (fst_new f k hs hn)
              go_wp2_with fail
              refine (stop_any (f k) _).mono ?_
              rintro e w2 ⟨rfl, rfl⟩
              go_wp2_with fail
              go_round
              case rel => exact ⟨k + 1, by omega, by go_num, by rw [h2.out], by rw [h1.out]; go_num⟩
              case measure => simp [intOf]; omega
            · have h2 := hidden (fst_old f k hs hn)
              go_wp2_with fail
              refine (stop_any (f k) _).mono ?_
              rintro e w2 ⟨rfl, rfl⟩
              go_wp2_with fail
              go_round
              case rel => exact ⟨k + 1, by omega, by go_num, by rw [h2.out], by rw [h1.out]; go_num⟩
              case measure => simp [intOf]; omega
        · obtain rfl : k = 8 * m := by omega
          go_wp2_with fail
          go_ret
          exact ⟨by simp, HB.out⟩
end Go.Proofs.Qxb6605614a
