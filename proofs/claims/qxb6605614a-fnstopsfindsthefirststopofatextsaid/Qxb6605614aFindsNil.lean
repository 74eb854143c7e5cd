import Derived.Test.Qxb6605614aFinds
namespace Go.Proofs.Qxb6605614a
open Go.RowKit Plain

/-- The nil slice: no round at all. -/
theorem finds_nil (w : World) :
    Calls Try.prog 4 #[.slice none 0 0] w fun e w' => e = .returned (.bool true) ∧ Below w.heap.size w w' := by
  go_enter Try.func4, Try.ntmps4
  go_wp2_with fail
  refine (small_yes none 0 0 _ (by omega)).mono ?_
  rintro e w' ⟨rfl, rfl⟩
  go_wp2_with fail
  refine (clone_nil _).mono ?_
  rintro e w1 ⟨rfl, rfl⟩
  go_wp2_with fail
  go_loop [4, 5, 6, 7] (fun g c b i => i = .int .i64 0 ∧ g = .int .i64 (-1) ∧ c = .int .i64 0 ∧ b = .bool true) (fun _ _ _ _ => 0)
  case atStart => exact ⟨rfl, rfl, rfl, rfl⟩
  case round =>
    obtain ⟨rfl, rfl, rfl, rfl⟩ := hrel
    go_wp2_with fail
    go_loop [12, 13, 14] (fun g c i => i = .int .i64 0 ∧ g = .int .i64 (-1) ∧ c = .int .i64 0) (fun _ _ _ => 0)
    case atStart => exact ⟨rfl, rfl, rfl⟩
    case round =>
      obtain ⟨rfl, rfl, rfl⟩ := hrel
      go_wp2_with fail
      go_ret
      exact ⟨rfl, Below.refl _ _⟩
end Go.Proofs.Qxb6605614a
