import Derived.Test.Qxb6605614aLeaf
namespace Go.Proofs.Qxb6605614a
open Go.RowKit Plain

/-! ### THE PLAIN LAW, in the walk's spelling -/
theorem pow8 (k : Nat) : (2 : Int) ^ (8 * k) = ((256 ^ k : Nat) : Int) := by rw [Int.natCast_pow, Int.pow_mul]; rfl

theorem pow_le8 (k : Nat) (hk : k < 8) : 256 ^ k * 256 ≤ 18446744073709551616 := by
  have h : 256 ^ (k + 1) ≤ 256 ^ 8 := Nat.pow_le_pow_right (by decide) (by omega)
  rw [Nat.pow_succ] at h
  exact h

/-- A byte is laid above the bytes of a word. -/
theorem or_put (l : List Nat) (h : Small l) (hl : l.length < 8) (v : Nat) (hv : v < 256) :
    bits .or .u64 ((word l : Nat) : Int) (IntKind.u64.wrap ((v : Int) * 2 ^ (8 * l.length))) = ((word (l ++ [v]) : Nat) : Int) := by
  have hp := pow_le8 l.length hl
  have hw := word_lt l h
  have h1 : v * 256 ^ l.length < 256 ^ l.length * 256 := by
    rw [Nat.mul_comm]; exact Nat.mul_lt_mul_of_pos_left hv (Nat.pow_pos (by decide))
  have e1 : IntKind.u64.wrap ((v : Int) * 2 ^ (8 * l.length)) = ((v * 256 ^ l.length : Nat) : Int) := by
    rw [IntKind.wrap_u64, pow8, ← Int.natCast_mul]
    omega
  have h2 : 256 ^ l.length ≤ 256 ^ l.length * 256 := Nat.le_mul_of_pos_right _ (by decide)
  rw [e1, u64_or_nat _ _ (by omega) (by omega), or_snoc v l h]

def bk (a k : Nat) : Nat := a / 256 ^ k % 256
def wantN (a k : Nat) : Nat := word (((byt 8 a).take k).map mk8)

theorem shift_byte (a k : Nat) : ((a : Int) / 2 ^ (8 * k) % 256) = ((bk a k : Nat) : Int) := by
  unfold bk
  rw [pow8, Int.natCast_emod, Int.natCast_ediv]; rfl

theorem keeps_mk8 : Keeps mk8 := keeps_or (keeps_or (keeps_hi _ _) (keeps_hi _ _)) (keeps_hi _ _)

theorem byt_take (a k : Nat) (hk : k < 8) : (byt 8 a).take (k + 1) = (byt 8 a).take k ++ [bk a k] := by
  have hg := byt_get 8 a k hk
  rw [List.take_add_one, hg]
  rfl

theorem take_small {l : List Nat} (h : Small l) (k : Nat) : Small (l.take k) := fun x hx => h x (List.mem_of_mem_take hx)

theorem bk_lt (a k : Nat) : bk a k < 256 := Nat.mod_lt _ (by decide)

theorem want_stop (a k : Nat) (hk : k < 8) (hs : stopB (bk a k) = true) :
    bits .or .u64 ((wantN a k : Nat) : Int) (IntKind.u64.wrap (128 * 2 ^ (8 * k))) = ((wantN a (k + 1) : Nat) : Int) := by
  have hlen : (((byt 8 a).take k).map mk8).length = k := by simp [byt_len]; omega
  have h := or_put (((byt 8 a).take k).map mk8) (small_map keeps_mk8 (take_small (byt_small 8 a) k)) (by omega) 128 (by decide)
  rw [hlen] at h
  refine h.trans ?_
  unfold wantN
  rw [byt_take a k hk, List.map_append, List.map_singleton, mk8_eq _ (bk_lt a k), if_pos hs]

theorem want_skip (a k : Nat) (hk : k < 8) (hs : stopB (bk a k) = false) : ((wantN a k : Nat) : Int) = ((wantN a (k + 1) : Nat) : Int) := by
  unfold wantN
  rw [byt_take a k hk, List.map_append, List.map_singleton, mk8_eq _ (bk_lt a k), hs, word_snoc]
  simp

theorem want_all (a : Nat) (ha : a < 18446744073709551616) : stopsN a = wantN a 8 := by
  have e : a = word (byt 8 a) := (word_byt 8 a ha).symm
  unfold wantN
  rw [List.take_of_length_le (by rw [byt_len]; exact Nat.le_refl 8), ← stops_map (byt 8 a) (byt_small 8 a) (byt_len 8 a), ← e]

/-! ### THE WALK -/
theorem marks_any (a : Nat) (ha : a < 18446744073709551616) (w : World) :
    Calls Try.prog 3 #[.int .u64 (a : Int)] w fun e w' => e = .returned (.bool true) ∧ w' = w := by
  go_enter Try.func3, Try.ntmps3
  go_wp2
  go_loop [3, 4] (fun t i => ∃ k : Nat, k ≤ 8 ∧ i = .int .u64 k ∧ t = .int .u64 (wantN a k : Nat)) (fun _ i => 8 - (intOf i).toNat)
  case atStart => exact ⟨0, Nat.zero_le _, rfl, rfl⟩
  case round =>
    obtain ⟨k, hk, rfl, rfl⟩ := hrel
    by_cases hlt : k < 8
    · cases hs : stopB (bk a k)
      · go_wp2_with fail
        rw [shift_byte a k]
        refine (stop_any (bk a k) _).mono ?_
        rintro e w' ⟨rfl, rfl⟩
        go_wp2_with fail
        go_round
        case rel => exact ⟨k + 1, by omega, by go_num, by rw [want_skip a k hlt hs]⟩
        case measure => simp [intOf]; omega
      · go_wp2_with fail
        rw [shift_byte a k]
        refine (stop_any (bk a k) _).mono ?_
        rintro e w' ⟨rfl, rfl⟩
        go_wp2_with fail
        go_round
        case rel => exact ⟨k + 1, by omega, by go_num, by rw [want_stop a k hlt hs]⟩
        case measure => simp [intOf]; omega
    · obtain rfl : k = 8 := by omega
      go_wp2_with fail
      refine (zz_any a ha _).mono ?_
      rintro e w' ⟨rfl, rfl⟩
      rw [want_all a ha]
      go_wp2_with fail
      go_ret
      exact ⟨by simp, rfl⟩
end Go.Proofs.Qxb6605614a
