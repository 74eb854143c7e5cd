import Derived.Test.Qxb6605614aRows
import Derived.Test.Qxb6605614aWord
import Derived.WalkKit
import Derived.Laws.BitsAllLaws
namespace Go.Proofs.Qxb6605614a
open Go.RowKit Plain

theorem ret_int {k : IntKind} {a b : Int} (h : a = b) : Ending.returned (.int k a) = .returned (.int k b) := by rw [h]
theorem ret_bool {a b : Bool} (h : a = b) : Ending.returned (.bool a) = .returned (.bool b) := by rw [h]

theorem hiI (a D : Nat) (ha : a < 18446744073709551616) :
    bits .andNot .u64 (bits .xor .u64 IntKind.u64.max (bits .or .u64 (IntKind.u64.wrap (bits .and .u64 (a : Int) 9187201950435737471 + (D : Int))) (a : Int))) 9187201950435737471
      = (((18446744073709551615 ^^^ (((a &&& 9187201950435737471) + D) % 18446744073709551616 ||| a)) &&& 9259542123273814144 : Nat) : Int) := by
  have e1 : bits .and .u64 (a : Int) 9187201950435737471 = ((a &&& 9187201950435737471 : Nat) : Int) := u64_and_nat a 9187201950435737471 ha (by decide)
  have e2 : IntKind.u64.wrap (((a &&& 9187201950435737471 : Nat) : Int) + (D : Int)) = ((((a &&& 9187201950435737471) + D) % 18446744073709551616 : Nat) : Int) := by
    rw [IntKind.wrap_u64]; omega
  have l2 : ((a &&& 9187201950435737471) + D) % 18446744073709551616 < 18446744073709551616 := Nat.mod_lt _ (by decide)
  have l3 : (((a &&& 9187201950435737471) + D) % 18446744073709551616 ||| a) < 18446744073709551616 := Nat.or_lt_two_pow (n := 64) l2 ha
  have l4 : (18446744073709551615 ^^^ (((a &&& 9187201950435737471) + D) % 18446744073709551616 ||| a)) < 18446744073709551616 := Nat.xor_lt_two_pow (n := 64) (by decide) l3
  have em : IntKind.u64.max = ((18446744073709551615 : Nat) : Int) := by decide
  rw [e1, e2, u64_or_nat _ _ l2 ha, em, u64_xor_nat _ _ (by decide) l3]
  exact u64_andNot_nat _ 9187201950435737471 l4 (by decide)

theorem zero_lt (a : Nat) : zeroN a < 18446744073709551616 := Nat.lt_of_le_of_lt Nat.and_le_right (by decide)
theorem ctl_lt (a : Nat) : ctlN a < 18446744073709551616 := Nat.lt_of_le_of_lt Nat.and_le_right (by decide)

theorem zero_any (a : Nat) (ha : a < 18446744073709551616) (w : World) :
    Calls Try.prog 10 #[.int .u64 (a : Int)] w fun e w' => e = .returned (.int .u64 (zeroN a : Nat)) ∧ w' = w := by
  go_enter Try.func10, Try.ntmps10
  go_wp2
  go_ret
  exact ⟨ret_int (hiI a 9187201950435737471 ha), rfl⟩

theorem ctl_any (a : Nat) (ha : a < 18446744073709551616) (w : World) :
    Calls Try.prog 11 #[.int .u64 (a : Int)] w fun e w' => e = .returned (.int .u64 (ctlN a : Nat)) ∧ w' = w := by
  go_enter Try.func11, Try.ntmps11
  go_wp2
  go_ret
  exact ⟨ret_int (hiI a 6944656592455360608 ha), rfl⟩

theorem xorQ (a : Nat) (ha : a < 18446744073709551616) : bits .xor .u64 (a : Int) 2459565876494606882 = ((a ^^^ 2459565876494606882 : Nat) : Int) := u64_xor_nat a 2459565876494606882 ha (by decide)
theorem xorB (a : Nat) (ha : a < 18446744073709551616) : bits .xor .u64 (a : Int) 6655295901103053916 = ((a ^^^ 6655295901103053916 : Nat) : Int) := u64_xor_nat a 6655295901103053916 ha (by decide)

theorem stops_any (a : Nat) (ha : a < 18446744073709551616) (w : World) :
    Calls Try.prog 9 #[.int .u64 (a : Int)] w fun e w' => e = .returned (.int .u64 (stopsN a : Nat)) ∧ w' = w := by
  go_enter Try.func9, Try.ntmps9
  go_wp2_with fail
  rw [xorQ a ha]
  refine (zero_any (a ^^^ 2459565876494606882) (Nat.xor_lt_two_pow (n := 64) ha (by decide)) _).mono ?_
  rintro e w' ⟨rfl, rfl⟩
  go_wp2_with fail
  rw [xorB a ha]
  refine (zero_any (a ^^^ 6655295901103053916) (Nat.xor_lt_two_pow (n := 64) ha (by decide)) _).mono ?_
  rintro e w' ⟨rfl, rfl⟩
  go_wp2_with fail
  refine (ctl_any a ha _).mono ?_
  rintro e w' ⟨rfl, rfl⟩
  go_wp2_with fail
  go_ret
  exact ⟨ret_int (by rw [u64_or_nat _ _ (zero_lt _) (zero_lt _), u64_or_nat _ _ (Nat.or_lt_two_pow (n := 64) (zero_lt _) (zero_lt _)) (ctl_lt _)]; rfl), rfl⟩

theorem zz_any (a : Nat) (ha : a < 18446744073709551616) (w : World) :
    Calls Try.prog 6 #[.int .u64 (a : Int)] w fun e w' => e = .returned (.int .u64 (stopsN a : Nat)) ∧ w' = w := by
  go_enter Try.func6, Try.ntmps6
  go_wp2_with fail
  refine (stops_any a ha _).mono ?_
  rintro e w' ⟨rfl, rfl⟩
  go_wp2_with fail
  go_ret
  exact ⟨rfl, rfl⟩

theorem stop_any (a : Nat) (w : World) :
    Calls Try.prog 5 #[.int .u8 (a : Int)] w fun e w' => e = .returned (.bool (stopB a)) ∧ w' = w := by
  by_cases h1 : a = 34
  · subst h1
    go_enter Try.func5, Try.ntmps5
    go_wp2
    go_ret
    exact ⟨rfl, rfl⟩
  by_cases h2 : a = 92
  · subst h2
    go_enter Try.func5, Try.ntmps5
    go_wp2
    go_ret
    exact ⟨rfl, rfl⟩
  have g1 : ((a : Int) == 34) = false := by simp; omega
  have g2 : ((a : Int) == 92) = false := by simp; omega
  have H : Hid (stopB a = decide ((a : Int) < 32)) := by
    show stopB a = _
    unfold stopB
    have k1 : (a == 34) = false := by simpa using h1
    have k2 : (a == 92) = false := by simpa using h2
    have k3 : a < 32 ↔ (a : Int) < 32 := by omega
    simp [k1, k2, k3]
  clear h1 h2
  go_enter Try.func5, Try.ntmps5
  go_wp2
  go_ret
  exact ⟨ret_bool H.out.symm, rfl⟩
end Go.Proofs.Qxb6605614a
