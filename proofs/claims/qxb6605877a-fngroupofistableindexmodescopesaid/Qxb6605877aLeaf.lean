import Derived.Test.Qxb6605877aRows
import Derived.WalkKit
import Derived.WalkSpells
import Derived.RegionTactic
import Derived.BigRegion
namespace Go.Proofs.Qxb6605877a
open Go.RowKit

theorem hidden {p : Prop} (h : p) : Hid p := h

theorem bcell {W w1 : World} (hb : Below W.heap.size W w1) : (∀ b o, b < W.heap.size → w1.cell? ⟨b, o, none⟩ = W.cell? ⟨b, o, none⟩) ∧ (∀ b o, b < W.heap.size → w1.frozen? ⟨b, o, none⟩ = W.frozen? ⟨b, o, none⟩) :=
  ⟨fun b o h => hb.cell (p := ⟨b, o, none⟩) h, fun b o h => hb.frozen (p := ⟨b, o, none⟩) h⟩

theorem block_lt {w : World} {a : Addr} {v : Value} (h : w.cell? a = some v) : a.block < w.heap.size := by
  unfold World.cell? at h
  split at h
  · rename_i e
    exact (Array.getElem?_eq_some_iff.1 e).1
  · exact absurd h (by simp)


theorem toRequest_any (o : Int) (t i k : ByteArray) (s : Bool) (m c : Int) (w : World) :
    Calls Try.prog 7 #[.agg #[.int .u64 o, .string t, .string i, .string k, .bool s, .int .i64 m, .int .i64 c]] w fun e w' =>
      e = .returned (.agg #[.int .u64 o, .string t, .string i, .string k, .bool s, .int .i64 m, .int .i64 c, .bool false, .bool false, .bool false, .int .u64 0, .int .u64 0, .pointer none]) ∧ Below w.heap.size w w' := by
  go_enter Try.func7, Try.ntmps7
  go_wp2_with fail
  exact bodyPost_ret (v := .agg #[.int .u64 o, .string t, .string i, .string k, .bool s, .int .i64 m, .int .i64 c, .bool false, .bool false, .bool false, .int .u64 0, .int .u64 0, .pointer none]) (by simp [results, Try.results7, go_sem]) rfl
    ⟨rfl, ((Below.refl _ _).alloc (Nat.le_refl _) _).alloc (by simp) _⟩

set_option maxHeartbeats 2000000 in
theorem groupOf_any (b : Nat) (t i : ByteArray) (m c : Int) (w : World) (h1 : w.cell? ⟨b, 1, none⟩ = some (.string t)) (h2 : w.cell? ⟨b, 2, none⟩ = some (.string i))
    (h5 : w.cell? ⟨b, 5, none⟩ = some (.int .i64 m)) (h6 : w.cell? ⟨b, 6, none⟩ = some (.int .i64 c)) :
    Calls Try.prog 19 #[.pointer (some ⟨b, 0, none⟩)] w fun e w' => e = .returned (.agg #[.string t, .string i, .int .i64 m, .int .i64 c]) ∧ Below w.heap.size w w' := by
  have hb : b < w.heap.size := block_lt h1
  go_enter Try.func19, Try.ntmps19
  go_wp2_with fail
  go_region
  go_wp2
  exact bodyPost_ret (v := .agg #[.string t, .string i, .int .i64 m, .int .i64 c]) (by simp [results, Try.results19, go_sem]) rfl ⟨rfl, ((Below.refl _ _).alloc (Nat.le_refl _) _).drew⟩

theorem zz_any (b : Nat) (t i : ByteArray) (m c : Int) (w : World) (h1 : w.cell? ⟨b, 1, none⟩ = some (.string t)) (h2 : w.cell? ⟨b, 2, none⟩ = some (.string i))
    (h5 : w.cell? ⟨b, 5, none⟩ = some (.int .i64 m)) (h6 : w.cell? ⟨b, 6, none⟩ = some (.int .i64 c)) :
    Calls Try.prog 8 #[.pointer (some ⟨b, 0, none⟩)] w fun e w' => e = .returned (.agg #[.string t, .string i, .int .i64 m, .int .i64 c]) ∧ Below w.heap.size w w' := by
  have hb : b < w.heap.size := block_lt h1
  go_enter Try.func8, Try.ntmps8
  go_wp2_with fail
  refine (groupOf_any b t i m c _ (by simpa [go_sem, hb] using h1) (by simpa [go_sem, hb] using h2) (by simpa [go_sem, hb] using h5) (by simpa [go_sem, hb] using h6)).mono ?_
  rintro e w1 ⟨rfl, hb1⟩
  obtain ⟨hc, hf⟩ := bcell hb1
  have hz : w.heap.size < w1.heap.size := by have := hb1.size; simp at this; omega
  have HB := hidden hb1
  clear hb1
  go_wp2_with fail
  refine bodyPost_ret (v := .agg #[.string t, .string i, .int .i64 m, .int .i64 c]) (by simp [results, Try.results8, go_sem, hc]) rfl ⟨rfl, ?_⟩
  have hB : Below w.heap.size w w1 := ((Below.refl _ _).alloc (Nat.le_refl _) _).trans (HB.out.mono (by simp))
  exact (((hB.setCell (Nat.le_refl _) _).setCell (Nat.le_refl _) _).setCell (Nat.le_refl _) _).setCell (Nat.le_refl _) _
end Go.Proofs.Qxb6605877a
