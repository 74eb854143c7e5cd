import Derived.Test.Qxb6605877aGroup
namespace Go.Proofs.Qxb6605877a
open Go.RowKit

set_option maxHeartbeats 2000000 in
theorem group_small (o o' : Int) (t i k t' i' k' : ByteArray) (s s' : Bool) (m c m' c' : Int) (w : World) (h : t.size + i.size + k.size + t'.size + i'.size + k'.size ≤ 1048576)
    (hcase : (t.toList == t'.toList) = false ∨ ((t.toList == t'.toList) = true ∧ (i.toList == i'.toList) = false) ∨ ((t.toList == t'.toList) = true ∧ (i.toList == i'.toList) = true ∧ (m == m') = false) ∨
      ((t.toList == t'.toList) = true ∧ (i.toList == i'.toList) = true ∧ (m == m') = true ∧ (c == c') = false) ∨ ((t.toList == t'.toList) = true ∧ (i.toList == i'.toList) = true ∧ (m == m') = true ∧ (c == c') = true)) :
    Calls Try.prog 3 #[.agg #[.int .u64 o, .string t, .string i, .string k, .bool s, .int .i64 m, .int .i64 c], .agg #[.int .u64 o', .string t', .string i', .string k', .bool s', .int .i64 m', .int .i64 c']] w fun e w' =>
      e = .returned (.bool true) ∧ Below w.heap.size w w' := by
  rcases hcase with h1 | ⟨h1, h2⟩ | ⟨h1, h2, h3⟩ | ⟨h1, h2, h3, h4⟩ | ⟨h1, h2, h3, h4⟩
  all_goals
    go_enter Try.func3, Try.ntmps3
    go_wp2_with fail
    refine (small_yes o o' t i k t' i' k' s s' m c m' c' _ h).mono ?_
    rintro e w1 ⟨rfl, hb1⟩
    obtain ⟨hc1, hf1⟩ := bcell hb1
    have hz1 : w.heap.size + 1 < w1.heap.size := by have := hb1.size; simp at this; omega
    have hy1 : w.heap.size < w1.heap.size := by omega
    have HB1 := hidden hb1
    clear hb1 hf1
    go_wp2_with fail
    refine (toRequest_any o t i k s m c _).mono ?_
    rintro e w2 ⟨rfl, hb2⟩
    obtain ⟨hc2, hf2⟩ := bcell hb2
    have hz2 : w.heap.size + 1 < w2.heap.size := by have := hb2.size; omega
    have hy2 : w.heap.size < w2.heap.size := by omega
    have HB2 := hidden hb2
    clear hb2 hf2
    go_wp2_with fail
    refine (toRequest_any o' t' i' k' s' m' c' _).mono ?_
    rintro e w3 ⟨rfl, hb3⟩
    obtain ⟨hc3, hf3⟩ := bcell hb3
    have hx3 : w2.heap.size < w3.heap.size := by have := hb3.size; simp at this; omega
    have hz3 : w.heap.size + 1 < w3.heap.size := by omega
    have hy3 : w.heap.size < w3.heap.size := by omega
    have HB3 := hidden hb3
    clear hb3 hf3
    have q1 : ∀ ob, (w3.alloc ob).cell? ⟨w2.heap.size, 1, none⟩ = some (.string t) := fun ob => by simp [go_sem, hc3, hx3]
    have q2 : ∀ ob, (w3.alloc ob).cell? ⟨w2.heap.size, 2, none⟩ = some (.string i) := fun ob => by simp [go_sem, hc3, hx3]
    have q5 : ∀ ob, (w3.alloc ob).cell? ⟨w2.heap.size, 5, none⟩ = some (.int .i64 m) := fun ob => by simp [go_sem, hc3, hx3]
    have q6 : ∀ ob, (w3.alloc ob).cell? ⟨w2.heap.size, 6, none⟩ = some (.int .i64 c) := fun ob => by simp [go_sem, hc3, hx3]
    have Q1 := hidden q1
    have Q2 := hidden q2
    have Q5 := hidden q5
    have Q6 := hidden q6
    clear q1 q2 q5 q6
    go_wp2_with fail
    refine (zz_any w2.heap.size t i m c _ (Q1.out _) (Q2.out _) (Q5.out _) (Q6.out _)).mono ?_
    rintro e w4 ⟨rfl, hb4⟩
    clear Q1 Q2 Q5 Q6
    obtain ⟨hc4, hf4⟩ := bcell hb4
    have hx4 : w3.heap.size < w4.heap.size := by have := hb4.size; simp at this; omega
    have hz4 : w.heap.size + 1 < w4.heap.size := by omega
    have hy4 : w.heap.size < w4.heap.size := by omega
    have HB4 := hidden hb4
    clear hb4 hf4
    have q1 : ∀ ob, (w4.alloc ob).cell? ⟨w3.heap.size, 1, none⟩ = some (.string t') := fun ob => by simp [go_sem, hc4, hx4]
    have q2 : ∀ ob, (w4.alloc ob).cell? ⟨w3.heap.size, 2, none⟩ = some (.string i') := fun ob => by simp [go_sem, hc4, hx4]
    have q5 : ∀ ob, (w4.alloc ob).cell? ⟨w3.heap.size, 5, none⟩ = some (.int .i64 m') := fun ob => by simp [go_sem, hc4, hx4]
    have q6 : ∀ ob, (w4.alloc ob).cell? ⟨w3.heap.size, 6, none⟩ = some (.int .i64 c') := fun ob => by simp [go_sem, hc4, hx4]
    have Q1 := hidden q1
    have Q2 := hidden q2
    have Q5 := hidden q5
    have Q6 := hidden q6
    clear q1 q2 q5 q6
    go_wp2_with fail
    refine (zz_any w3.heap.size t' i' m' c' _ (Q1.out _) (Q2.out _) (Q5.out _) (Q6.out _)).mono ?_
    rintro e w5 ⟨rfl, hb5⟩
    clear Q1 Q2 Q5 Q6
    obtain ⟨hc5, hf5⟩ := bcell hb5
    have hx5 : w4.heap.size < w5.heap.size := by have := hb5.size; simp at this; omega
    have hz5 : w.heap.size + 1 < w5.heap.size := by omega
    have hy5 : w.heap.size < w5.heap.size := by omega
    have HB5 := hidden hb5
    clear hb5 hf5
    go_wp2_with fail
    go_ret
    have z2 := HB2.out.size
    have z3 := HB3.out.size
    have z4 := HB4.out.size
    simp only [World.size_alloc] at z2 z3 z4
    refine ⟨rfl, ?_⟩
    have b1 : Below w.heap.size w w1 := (((Below.refl _ _).alloc (Nat.le_refl _) _).alloc (by simp) _).trans (HB1.out.mono (by simp; omega))
    have b2 : Below w.heap.size w w2 := b1.trans (HB2.out.mono (by omega))
    have b3 : Below w.heap.size w w3 := (b2.alloc (by omega) _).trans (HB3.out.mono (by simp; omega))
    have b4 : Below w.heap.size w w4 := (b3.alloc (by omega) _).trans (HB4.out.mono (by simp; omega))
    have b5 : Below w.heap.size w w5 := (b4.alloc (by omega) _).trans (HB5.out.mono (by simp; omega))
    exact b5.alloc (by omega) _
end Go.Proofs.Qxb6605877a
