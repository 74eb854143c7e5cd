import Derived.Test.Qxb6605614aLeaf
import Derived.WalkSpells
import Derived.Laws.CopyOwn
namespace Go.Proofs.Qxb6605614a
open Go.RowKit Plain

theorem info5 : (Try.prog.info? 5).map (fun i => (i.zero, i.size, i.bytes)) = some (some (.int .u8 0), 1, 1) := by kernel_rfl

theorem clone_nil (w : World) :
    Calls Try.prog 8 #[.slice none 0 0] w fun e w' => e = .returned (.slice none 0 0) ∧ w' = w := by
  have q := fun (w : World) => Lib.run_eql_slice_nil (P := Try.prog) w 27 5 none 0 0 0 0 Try.underlying27
  go_enter Try.func8, Try.ntmps8
  go_wp2
  go_ret
  exact ⟨rfl, rfl⟩

theorem hidden {p : Prop} (h : p) : Hid p := h

theorem block_lt {w : World} {a : Addr} {v : Value} (h : w.cell? a = some v) : a.block < w.heap.size := by
  unfold World.cell? at h
  split at h
  · rename_i e
    exact (Array.getElem?_eq_some_iff.1 e).1
  · exact absurd h (by simp)

theorem cell_of_row {w : World} {g i : Nat} {c : List Value} {t : TypeId} (h : w.heap[g]? = some (.cells c.toArray t (0, 0))) : w.cell? ⟨g, i, none⟩ = c[i]? := by
  simp [World.cell?, h]

theorem size5 : (Try.prog.info? 5).map (·.size) = some 1 := by kernel_rfl

/-- A slice that is not nil: a new row of the same numbers. -/
theorem clone_some (x : Addr) (len cap : Nat) (zs : List Int) (w : World) (hl : len ≤ cap) (hm : len ≤ 1048576) (hz : zs.length = cap)
    (hc : ∀ i, i < zs.length → w.cell? (x.add i) = some (.int .u8 (zs.getD i 0))) :
    Calls Try.prog 8 #[.slice (some x) len cap] w fun e w' => e = .returned (.slice (some ⟨w.heap.size, 0, none⟩) len len) ∧
      (∀ i, i < len → w'.cell? ⟨w.heap.size, i, none⟩ = some (.int .u8 (zs.getD i 0))) ∧ Below w.heap.size w w' := by
  have q := fun (w : World) => Lib.run_eql_slice_nil (P := Try.prog) w 27 5 (some x) len cap 0 0 Try.underlying27
  obtain ⟨i0, hi, hz0, hz1, hz2⟩ := info_parts info5
  obtain ⟨cs, hcs⟩ : ∃ cs, cs = (zs.take len).map (Value.int .u8) := ⟨_, rfl⟩
  have hlen : cs.length = len := by rw [hcs]; simp; omega
  have hget : ∀ j, j < len → cs[j]? = some (.int .u8 (zs.getD j 0)) := by
    intro j hj
    rw [hcs]
    simp [hj, List.getElem?_eq_getElem (show j < zs.length by omega)]
  have h1 : ∀ v ∈ cs, v.oneCell' = true := by
    intro v hv
    rw [hcs] at hv
    obtain ⟨n, _, rfl⟩ := List.mem_map.1 hv
    rfl
  have HC : Hid (∀ j, j < len → cs[j]? = some (.int .u8 (zs.getD j 0))) := hget
  have HL : Hid (cs.length = len) := hlen
  clear hget hlen hcs
  go_enter Try.func8, Try.ntmps8
  go_wp2_with (first | (at_make; refine wpList_make_full _ rfl _ _ 27 rfl w.heap.size 5 i0 (.int .u8 0) 1 Try.underlying27 hi hz0 hz1 _ _ _ _ len rfl rfl rfl rfl ?b1 ?b2 ?b3 ?_))
  case b1 => rw [hz2]; omega
  case b2 => unfold maxLen; omega
  case b3 => exact Nat.le_refl _
  intro w1 hown hgrow
  have hb1 : Below w.heap.size w w1 := (Below.refl _ _).grown hgrow (Nat.le_refl _) (by simp)
  obtain ⟨cur, hh, hcl⟩ : ∃ cur : List Value, w1.heap[w.heap.size]? = some (.cells cur.toArray 5 (0, 0)) ∧ cur.length = len := by
    obtain ⟨_, ⟨hv, _⟩ | ⟨g, cp, cur, hv, _, hh, _, _, hsz, _⟩⟩ := hown
    · simp at hv
    · simp at hv
      obtain ⟨rfl, rfl⟩ := hv
      exact ⟨cur.toList, by simpa using hh, by simpa using hsz⟩
  have hsrc : ∀ j v, cs[j]? = some v → w1.cell? (x.add j) = some v := by
    intro j v hj
    have hjl : j < len := by
      have := (List.getElem?_eq_some_iff.1 hj).1
      rw [HL.out] at this; exact this
    have hv := HC.out j hjl
    rw [hj] at hv
    simp only [Option.some.injEq] at hv
    subst hv
    have hcw := hc j (by omega)
    have := block_lt hcw
    rw [hb1.cell (by exact this)]
    exact hcw
  obtain ⟨w2, hrun, hg2, hb2⟩ : ∃ w2, (Builtin.copy_ #[27, 27] 3 #[.slice (some ⟨w.heap.size, 0, none⟩) len len, .slice (some x) len cap]).run Try.prog w1 = .ok (.int .i64 (len : Int)) w2 ∧
      Hid (w2.heap[w.heap.size]? = some (.cells cs.toArray 5 (0, 0))) ∧ Below w.heap.size w w2 := by
    have hr := run_copy_row (P := Try.prog) w1 27 27 3 5 w.heap.size 0 len len x len cap cur.toArray 5 cs Try.underlying27 size5 hh (by rw [HL.out]; exact (Nat.min_self len).symm) hsrc (by simp [HL.out, hcl]) h1
    have e : (cur.toArray.toList.take 0 ++ cs ++ cur.toArray.toList.drop (0 + cs.length)).toArray = cs.toArray := by
      have := HL.out
      simp
      omega
    rw [e, HL.out] at hr
    exact ⟨_, hr, setRow_heap w1 _ _ _ 5 _ hh, below_setRow hb1 (Nat.le_refl _) _⟩
  clear hown hgrow hh hsrc hcl
  go_wp2
  go_ret
  refine ⟨rfl, ?_, hb2⟩
  intro i hil
  rw [cell_of_row hg2.out]
  exact HC.out i hil
end Go.Proofs.Qxb6605614a
