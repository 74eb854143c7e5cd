namespace Go.Proofs.Qxb6605614a.Plain

/-- The number whose bytes, lowest first, are given. -/
def word : List Nat → Nat
  | [] => 0
  | b :: r => b + 256 * word r

theorem word_lt : ∀ (l : List Nat), (∀ x ∈ l, x < 256) → word l < 256 ^ l.length
  | [], _ => by simp [word]
  | b :: r, h => by
    have hb := h b (by simp)
    have hr := word_lt r (fun x hx => h x (by simp [hx]))
    simp only [word, List.length_cons, Nat.pow_succ]
    omega

theorem two8 (x a : Nat) : a + 256 * x = 2 ^ 8 * x + a := by omega

theorem and_step (a b x y : Nat) (ha : a < 256) (hb : b < 256) : (a + 256 * x) &&& (b + 256 * y) = (a &&& b) + 256 * (x &&& y) := by
  have hab : a &&& b < 2 ^ 8 := Nat.and_lt_two_pow a (by omega)
  apply Nat.eq_of_testBit_eq
  intro j
  rw [Nat.testBit_and, two8, two8, two8, Nat.testBit_two_pow_mul_add _ (by omega), Nat.testBit_two_pow_mul_add _ (by omega), Nat.testBit_two_pow_mul_add _ hab]
  split <;> simp [Nat.testBit_and]

theorem or_step (a b x y : Nat) (ha : a < 256) (hb : b < 256) : (a + 256 * x) ||| (b + 256 * y) = (a ||| b) + 256 * (x ||| y) := by
  have hab : a ||| b < 2 ^ 8 := Nat.or_lt_two_pow (by omega) (by omega)
  apply Nat.eq_of_testBit_eq
  intro j
  rw [Nat.testBit_or, two8, two8, two8, Nat.testBit_two_pow_mul_add _ (by omega), Nat.testBit_two_pow_mul_add _ (by omega), Nat.testBit_two_pow_mul_add _ hab]
  split <;> simp [Nat.testBit_or]

theorem xor_step (a b x y : Nat) (ha : a < 256) (hb : b < 256) : (a + 256 * x) ^^^ (b + 256 * y) = (a ^^^ b) + 256 * (x ^^^ y) := by
  have hab : a ^^^ b < 2 ^ 8 := Nat.xor_lt_two_pow (by omega) (by omega)
  apply Nat.eq_of_testBit_eq
  intro j
  rw [Nat.testBit_xor, two8, two8, two8, Nat.testBit_two_pow_mul_add _ (by omega), Nat.testBit_two_pow_mul_add _ (by omega), Nat.testBit_two_pow_mul_add _ hab]
  split <;> simp [Nat.testBit_xor]

def Small (l : List Nat) : Prop := ∀ x ∈ l, x < 256
def Keeps (f : Nat → Nat) : Prop := ∀ x, x < 256 → f x < 256

theorem and_map (f g : Nat → Nat) (hf : Keeps f) (hg : Keeps g) : ∀ l, Small l → word (l.map f) &&& word (l.map g) = word (l.map fun x => f x &&& g x)
  | [], _ => by simp [word]
  | b :: r, h => by
    have hb := h b (by simp)
    have hr := and_map f g hf hg r (fun x hx => h x (by simp [hx]))
    simp only [List.map_cons, word]
    rw [and_step _ _ _ _ (hf b hb) (hg b hb), hr]

theorem or_map (f g : Nat → Nat) (hf : Keeps f) (hg : Keeps g) : ∀ l, Small l → word (l.map f) ||| word (l.map g) = word (l.map fun x => f x ||| g x)
  | [], _ => by simp [word]
  | b :: r, h => by
    have hb := h b (by simp)
    have hr := or_map f g hf hg r (fun x hx => h x (by simp [hx]))
    simp only [List.map_cons, word]
    rw [or_step _ _ _ _ (hf b hb) (hg b hb), hr]

theorem xor_map (f g : Nat → Nat) (hf : Keeps f) (hg : Keeps g) : ∀ l, Small l → word (l.map f) ^^^ word (l.map g) = word (l.map fun x => f x ^^^ g x)
  | [], _ => by simp [word]
  | b :: r, h => by
    have hb := h b (by simp)
    have hr := xor_map f g hf hg r (fun x hx => h x (by simp [hx]))
    simp only [List.map_cons, word]
    rw [xor_step _ _ _ _ (hf b hb) (hg b hb), hr]

theorem add_map (f g : Nat → Nat) : ∀ l : List Nat, word (l.map f) + word (l.map g) = word (l.map fun x => f x + g x)
  | [] => by simp [word]
  | b :: r => by
    have hr := add_map f g r
    simp only [List.map_cons, word]
    omega

theorem small_map {f : Nat → Nat} (hf : Keeps f) {l : List Nat} (h : Small l) : Small (l.map f) := by
  intro x hx
  obtain ⟨y, hy, rfl⟩ := List.mem_map.1 hx
  exact hf y (h y hy)

theorem map_lt {f : Nat → Nat} (hf : Keeps f) {l : List Nat} (h : Small l) (h8 : l.length = 8) : word (l.map f) < 18446744073709551616 := by
  have := word_lt _ (small_map hf h)
  simpa [h8] using this

/-- A word of eight equal bytes. -/
def rep (c : Nat) : Nat := word [c, c, c, c, c, c, c, c]

theorem rep_map (c : Nat) (l : List Nat) (h8 : l.length = 8) : word (l.map fun _ => c) = rep c := by
  have : (l.map fun _ => c) = List.replicate 8 c := by rw [← h8]; exact List.map_const' ..
  rw [this]; rfl

/-- 'zeroBytes', as the Go text reckons it. -/
def zeroN (w : Nat) : Nat := (18446744073709551615 ^^^ (((w &&& 9187201950435737471) + 9187201950435737471) % 18446744073709551616 ||| w)) &&& 9259542123273814144
/-- 'controls', as the Go text reckons it. -/
def ctlN (w : Nat) : Nat := (18446744073709551615 ^^^ (((w &&& 9187201950435737471) + 6944656592455360608) % 18446744073709551616 ||| w)) &&& 9259542123273814144
/-- 'stops', as the Go text reckons it. -/
def stopsN (w : Nat) : Nat := (zeroN (w ^^^ 2459565876494606882) ||| zeroN (w ^^^ 6655295901103053916)) ||| ctlN w

def hi (d b : Nat) : Nat := (255 ^^^ (((b &&& 127) + d) ||| b)) &&& 128

theorem keeps_id : Keeps (fun x => x) := fun _ h => h
theorem keeps_const {c : Nat} (hc : c < 256) : Keeps (fun _ => c) := fun _ _ => hc
theorem keeps_and {f g : Nat → Nat} (hf : Keeps f) : Keeps (fun x => f x &&& g x) := fun x h => Nat.lt_of_le_of_lt Nat.and_le_left (hf x h)
theorem keeps_or {f g : Nat → Nat} (hf : Keeps f) (hg : Keeps g) : Keeps (fun x => f x ||| g x) := fun x h => Nat.or_lt_two_pow (n := 8) (hf x h) (hg x h)
theorem keeps_xor {f g : Nat → Nat} (hf : Keeps f) (hg : Keeps g) : Keeps (fun x => f x ^^^ g x) := fun x h => Nat.xor_lt_two_pow (n := 8) (hf x h) (hg x h)
theorem keeps_add {f : Nat → Nat} (hf : ∀ x, f x < 128) {d : Nat} (hd : d < 129) : Keeps (fun x => f x + d) := fun x _ => by have := hf x; show f x + d < 256; omega

theorem low7 (x : Nat) : x &&& 127 < 128 := Nat.and_lt_two_pow (n := 7) x (by decide)

theorem hi_map (d D : Nat) (hd : d < 129) (f : Nat → Nat) (hf : Keeps f) (l : List Nat) (h : Small l) (h8 : l.length = 8) (hD : rep d = D) :
    (18446744073709551615 ^^^ (((word (l.map f) &&& 9187201950435737471) + D) % 18446744073709551616 ||| word (l.map f))) &&& 9259542123273814144 = word (l.map fun b => hi d (f b)) := by
  have e1 : (9187201950435737471 : Nat) = word (l.map fun _ => 127) := by rw [rep_map _ _ h8]; rfl
  have e2 : D = word (l.map fun _ => d) := by rw [rep_map _ _ h8]; exact hD.symm
  have e3 : (9259542123273814144 : Nat) = word (l.map fun _ => 128) := by rw [rep_map _ _ h8]; rfl
  have e4 : (18446744073709551615 : Nat) = word (l.map fun _ => 255) := by rw [rep_map _ _ h8]; rfl
  have ka : Keeps (fun x => (f x &&& 127) + d) := keeps_add (fun x => low7 (f x)) hd
  rw [e1, and_map f _ hf (keeps_const (by decide)) l h, e2, add_map, Nat.mod_eq_of_lt (map_lt ka h h8), or_map _ f ka hf l h, e4,
    xor_map _ _ (keeps_const (by decide)) (keeps_or ka hf) l h, e3, and_map _ _ (keeps_xor (keeps_const (by decide)) (keeps_or ka hf)) (keeps_const (by decide)) l h]
  rfl

/-- What one byte gives. -/
def mk8 (b : Nat) : Nat := (hi 127 (b ^^^ 34) ||| hi 127 (b ^^^ 92)) ||| hi 96 b

theorem keeps_hi (d : Nat) (f : Nat → Nat) : Keeps (fun b => hi d (f b)) := fun _ _ => Nat.lt_of_le_of_lt Nat.and_le_right (by decide)

theorem stops_map (l : List Nat) (h : Small l) (h8 : l.length = 8) : stopsN (word l) = word (l.map mk8) := by
  have e0 : word l = word (l.map fun x => x) := by rw [List.map_id']
  have q1 : (2459565876494606882 : Nat) = word (l.map fun _ => 34) := by rw [rep_map _ _ h8]; rfl
  have q2 : (6655295901103053916 : Nat) = word (l.map fun _ => 92) := by rw [rep_map _ _ h8]; rfl
  have k1 : Keeps (fun x => x ^^^ 34) := keeps_xor keeps_id (keeps_const (by decide))
  have k2 : Keeps (fun x => x ^^^ 92) := keeps_xor keeps_id (keeps_const (by decide))
  unfold stopsN zeroN ctlN
  rw [e0, q1, q2, xor_map _ _ keeps_id (keeps_const (by decide)) l h, xor_map _ _ keeps_id (keeps_const (by decide)) l h,
    hi_map 127 9187201950435737471 (by decide) _ k1 l h h8 rfl, hi_map 127 9187201950435737471 (by decide) _ k2 l h h8 rfl, hi_map 96 6944656592455360608 (by decide) _ keeps_id l h h8 rfl,
    or_map _ _ (keeps_hi _ _) (keeps_hi _ _) l h, or_map _ _ (keeps_or (keeps_hi _ _) (keeps_hi _ _)) (keeps_hi _ _) l h]
  rfl

/-- Is it a stop? -/
def stopB (b : Nat) : Bool := b == 34 || (b == 92 || decide (b < 32))

theorem mk8_eq : ∀ b, b < 256 → mk8 b = if stopB b then 128 else 0 := by decide +kernel

/-! ### bytes of a word -/
def byt : Nat → Nat → List Nat
  | 0, _ => []
  | n + 1, w => w % 256 :: byt n (w / 256)

theorem byt_len : ∀ n w, (byt n w).length = n
  | 0, _ => rfl
  | n + 1, w => by simp [byt, byt_len n]

theorem byt_small : ∀ n w, Small (byt n w)
  | 0, _ => by intro x hx; simp [byt] at hx
  | n + 1, w => by
    intro x hx
    simp only [byt, List.mem_cons] at hx
    rcases hx with rfl | hx
    · omega
    · exact byt_small n _ x hx

theorem word_byt : ∀ n w, w < 256 ^ n → word (byt n w) = w
  | 0, w, h => by simp at h; simp [byt, word, h]
  | n + 1, w, h => by
    have : w / 256 < 256 ^ n := by rw [Nat.pow_succ] at h; omega
    simp only [byt, word, word_byt n _ this]
    omega

theorem byt_get : ∀ n w k, k < n → (byt n w)[k]? = some (w / 256 ^ k % 256)
  | 0, _, _, h => by omega
  | n + 1, w, 0, _ => by simp [byt]
  | n + 1, w, k + 1, h => by
    simp only [byt, List.getElem?_cons_succ]
    rw [byt_get n _ k (by omega), Nat.div_div_eq_div_mul, Nat.pow_succ, Nat.mul_comm]

/-- A byte more, at the top. -/
theorem word_snoc (v : Nat) : ∀ l, word (l ++ [v]) = word l + v * 256 ^ l.length
  | [] => by simp [word]
  | b :: r => by
    simp only [List.cons_append, word, word_snoc v r, List.length_cons, Nat.pow_succ, Nat.mul_add]
    have : 256 * (v * 256 ^ r.length) = v * (256 ^ r.length * 256) := by rw [Nat.mul_comm, Nat.mul_assoc]
    omega

theorem or_snoc (v : Nat) (l : List Nat) (h : Small l) : word l ||| v * 256 ^ l.length = word (l ++ [v]) := by
  have hl := word_lt l h
  have e : (256 : Nat) ^ l.length = 2 ^ (8 * l.length) := by rw [Nat.pow_mul]
  rw [word_snoc, e, Nat.or_comm, Nat.add_comm, Nat.mul_comm v]
  rw [e] at hl
  exact (Nat.two_pow_add_eq_or_of_lt hl v).symm

/-- A byte of a word, read by a shift. -/
theorem word_div : ∀ (l : List Nat) (k : Nat), Small l → word l / 256 ^ k % 256 = l.getD k 0
  | [], k, _ => by simp [word]
  | b :: r, 0, h => by have := h b (by simp); simp [word]; omega
  | b :: r, k + 1, h => by
    have hb := h b (by simp)
    have e : word (b :: r) / 256 ^ (k + 1) = word r / 256 ^ k := by
      have hw : word (b :: r) = b + 256 * word r := rfl
      have hd : word (b :: r) / 256 = word r := by rw [hw]; omega
      rw [Nat.pow_succ, Nat.mul_comm, ← Nat.div_div_eq_div_mul, hd]
    rw [e, word_div r k (fun x hx => h x (by simp [hx]))]
    simp

end Go.Proofs.Qxb6605614a.Plain
