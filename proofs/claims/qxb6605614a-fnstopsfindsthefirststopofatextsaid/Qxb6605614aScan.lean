import Derived.Test.Qxb6605614aWord
namespace Go.Proofs.Qxb6605614a.Plain

/-- How many of the first k bytes are stops. -/
def cnt (f : Nat → Nat) : Nat → Nat
  | 0 => 0
  | k + 1 => if stopB (f k) then cnt f k + 1 else cnt f k

/-- The place of the first stop among the first k bytes; -1 where there is none. -/
def fst (f : Nat → Nat) : Nat → Int
  | 0 => -1
  | k + 1 => if stopB (f k) then (if fst f k < 0 then (k : Int) else fst f k) else fst f k

theorem cnt_le (f : Nat → Nat) : ∀ k, cnt f k ≤ k
  | 0 => Nat.le_refl 0
  | k + 1 => by have := cnt_le f k; simp only [cnt]; split <;> omega

theorem fst_bd (f : Nat → Nat) : ∀ k, -1 ≤ fst f k ∧ fst f k < (k : Int) + 1
  | 0 => by simp [fst]
  | k + 1 => by have := fst_bd f k; simp only [fst]; split <;> (try split) <;> omega

theorem cnt_yes (f : Nat → Nat) (k : Nat) (h : stopB (f k) = true) : cnt f (k + 1) = cnt f k + 1 := by simp [cnt, h]
theorem cnt_no (f : Nat → Nat) (k : Nat) (h : stopB (f k) = false) : cnt f (k + 1) = cnt f k := by simp [cnt, h]
theorem fst_no (f : Nat → Nat) (k : Nat) (h : stopB (f k) = false) : fst f (k + 1) = fst f k := by simp [fst, h]
theorem fst_new (f : Nat → Nat) (k : Nat) (h : stopB (f k) = true) (hn : fst f k < 0) : fst f (k + 1) = k := by simp [fst, h, hn]
theorem fst_old (f : Nat → Nat) (k : Nat) (h : stopB (f k) = true) (hn : ¬ fst f k < 0) : fst f (k + 1) = fst f k := by simp [fst, h, hn]

/-- The bytes i, i + 1, .., i + j - 1. -/
def chunk (f : Nat → Nat) (i j : Nat) : List Nat := (List.range j).map fun t => f (i + t)

theorem chunk_succ (f : Nat → Nat) (i j : Nat) : chunk f i (j + 1) = chunk f i j ++ [f (i + j)] := by
  simp [chunk, List.range_succ]
theorem chunk_len (f : Nat → Nat) (i j : Nat) : (chunk f i j).length = j := by simp [chunk]
theorem chunk_small (f : Nat → Nat) (hf : ∀ i, f i < 256) (i j : Nat) : Small (chunk f i j) := by
  intro x hx
  simp only [chunk, List.mem_map] at hx
  obtain ⟨t, _, rfl⟩ := hx
  exact hf _
theorem chunk_get (f : Nat → Nat) (i j k : Nat) (h : k < j) : (chunk f i j)[k]? = some (f (i + k)) := by
  simp [chunk, h]

theorem keeps_mk : Keeps mk8 := keeps_or (keeps_or (keeps_hi _ _) (keeps_hi _ _)) (keeps_hi _ _)

/-- No bit but high bits. -/
theorem low_clean (l : List Nat) (h : Small l) (h8 : l.length = 8) : word (l.map mk8) &&& 9187201950435737471 = 0 := by
  have e1 : (9187201950435737471 : Nat) = word (l.map fun _ => 127) := by rw [rep_map _ _ h8]; rfl
  rw [e1, and_map _ _ keeps_mk (keeps_const (by decide)) l h]
  have : ∀ l : List Nat, Small l → word (l.map fun x => mk8 x &&& 127) = 0 := by
    intro l
    induction l with
    | nil => intro _; rfl
    | cons b r ih =>
      intro h
      have hb := h b (by simp)
      have hr := ih (fun x hx => h x (by simp [hx]))
      simp only [List.map_cons, word, hr]
      rw [mk8_eq b hb]
      split <;> rfl
  exact this l h

/-- The high bit of byte k. -/
theorem high_bit (l : List Nat) (h : Small l) (k b : Nat) (hk : l[k]? = some b) : word (l.map mk8) / 2 ^ (8 * k + 7) % 2 = if stopB b then 1 else 0 := by
  have hb : b < 256 := h b (List.mem_of_getElem? hk)
  have hd := word_div (l.map mk8) k (small_map keeps_mk h)
  have hg : (l.map mk8).getD k 0 = mk8 b := by simp [hk]
  rw [hg, mk8_eq b hb] at hd
  have e : (2 : Nat) ^ (8 * k + 7) = 256 ^ k * 128 := by rw [Nat.pow_add, Nat.pow_mul]
  rw [e, ← Nat.div_div_eq_div_mul]
  generalize word (l.map mk8) / 256 ^ k = q at hd
  split at hd <;> rename_i hs
  · rw [if_pos hs]; omega
  · rw [if_neg hs]; omega
end Go.Proofs.Qxb6605614a.Plain
