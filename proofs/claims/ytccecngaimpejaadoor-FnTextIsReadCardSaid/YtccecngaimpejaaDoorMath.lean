/- The plain law of the CRC tables over 32 bits: the division is linear over exclusive or; tables, slices of eight bytes, one changed byte. Nothing of the program stands here; no condition. -/
namespace Go.Proofs.YtccecngaimpejaaDoor.Crc

abbrev W := BitVec 32

/-- One bit of the division. -/
def step (p c : W) : W := (c >>> 1) ^^^ (if c.getLsbD 0 then p else 0#32)

/-- k bits of the division. -/
def steps (p : W) : Nat → W → W
  | 0, c => c
  | k + 1, c => step p (steps p k c)

/-- Eight bits. -/
def div (p c : W) : W := steps p 8 c

/-- k times eight bits. -/
def divs (p : W) : Nat → W → W
  | 0, c => c
  | k + 1, c => div p (divs p k c)

/-- A byte as a word. -/
def byte (b : UInt8) : W := BitVec.ofNat 32 b.toNat

/-- The check's inner state behind more bytes. -/
def upd (p c : W) (l : List UInt8) : W := l.foldl (fun c b => div p (c ^^^ byte b)) c

theorem xor4 (a b c d : W) : (a ^^^ b) ^^^ (c ^^^ d) = (a ^^^ c) ^^^ (b ^^^ d) := by
  rw [BitVec.xor_assoc, ← BitVec.xor_assoc b, BitVec.xor_comm b c, BitVec.xor_assoc c, ← BitVec.xor_assoc]

theorem step_xor (p a b : W) : step p (a ^^^ b) = step p a ^^^ step p b := by
  unfold step
  rw [BitVec.ushiftRight_xor_distrib, BitVec.getLsbD_xor, xor4]
  congr 1
  cases a.getLsbD 0 <;> cases b.getLsbD 0 <;> simp

theorem step_zero (p : W) : step p 0#32 = 0#32 := by
  simp [step]

theorem steps_xor (p : W) (k : Nat) (a b : W) : steps p k (a ^^^ b) = steps p k a ^^^ steps p k b := by
  induction k with
  | zero => rfl
  | succ k ih => simp only [steps]; rw [ih, step_xor]

theorem div_xor (p a b : W) : div p (a ^^^ b) = div p a ^^^ div p b := steps_xor p 8 a b

theorem divs_xor (p : W) (k : Nat) (a b : W) : divs p k (a ^^^ b) = divs p k a ^^^ divs p k b := by
  induction k with
  | zero => rfl
  | succ k ih => simp only [divs]; rw [ih, div_xor]

theorem divs_add (p : W) (k m : Nat) (c : W) : divs p (k + m) c = divs p k (divs p m c) := by
  induction k with
  | zero => rw [Nat.zero_add]; rfl
  | succ k ih => rw [Nat.succ_add]; simp only [divs]; rw [ih]

/-- A word whose lowest bit is none is shifted alone. -/
theorem step_even (p c : W) (h : c.getLsbD 0 = false) : step p c = c >>> 1 := by
  unfold step; rw [h]; simp

theorem steps_even (p c : W) (k : Nat) (h : ∀ i, i < k → c.getLsbD i = false) : steps p k c = c >>> k := by
  induction k with
  | zero => simp [steps]
  | succ k ih =>
    rw [steps, ih (fun i hi => h i (by omega)), step_even, BitVec.shiftRight_add]
    rw [BitVec.getLsbD_ushiftRight]
    exact h _ (by omega)

theorem div_even (p c : W) (h : ∀ i, i < 8 → c.getLsbD i = false) : div p c = c >>> 8 := steps_even p c 8 h

/-- The low byte. -/
def low (c : W) : W := c &&& 255#32

theorem low_bit (c : W) (i : Nat) : (low c).getLsbD i = (decide (i < 8) && c.getLsbD i) := by
  unfold low
  rw [BitVec.getLsbD_and]
  by_cases hi : i < 32
  · have : (255#32).getLsbD i = decide (i < 8) := by
      have h : ∀ j : Fin 32, (255#32).getLsbD j.1 = decide (j.1 < 8) := by decide
      exact h ⟨i, hi⟩
    rw [this, Bool.and_comm]
  · rw [BitVec.getLsbD_of_ge c i (by omega)]; simp

/-- A word parts into its low byte and the rest. -/
theorem div_parts (p c : W) : div p c = div p (low c) ^^^ (c >>> 8) := by
  have e : c = low c ^^^ (c ^^^ low c) := by
    rw [BitVec.xor_comm c, ← BitVec.xor_assoc, BitVec.xor_self, BitVec.zero_xor]
  have h : div p (c ^^^ low c) = c >>> 8 := by
    rw [div_even]
    · rw [BitVec.ushiftRight_xor_distrib]
      have : low c >>> 8 = 0#32 := by
        apply BitVec.eq_of_getLsbD_eq
        intro i hi
        rw [BitVec.getLsbD_ushiftRight, low_bit]; simp; omega
      rw [this, BitVec.xor_zero]
    · intro i hi
      rw [BitVec.getLsbD_xor, low_bit]; simp [hi]
  rw [← h, ← div_xor, ← e]

/-- The byte-wise step by the table: the round of the simple way. -/
theorem div_table (p c : W) (b : UInt8) : div p (c ^^^ byte b) = div p (low (c ^^^ byte b)) ^^^ (c >>> 8) := by
  rw [div_parts, BitVec.ushiftRight_xor_distrib]
  have : byte b >>> 8 = 0#32 := by
    apply BitVec.eq_of_toNat_eq
    have := b.toNat_lt
    simp [byte, BitVec.toNat_ushiftRight, Nat.shiftRight_eq_div_pow]
    omega
  rw [this, BitVec.xor_zero]


/-- Little-endian: the word of four bytes. -/
def le4 (a b c d : UInt8) : W := ((byte a ||| (byte b <<< 8)) ||| (byte c <<< 16)) ||| (byte d <<< 24)

theorem byte_bit (b : UInt8) (i : Nat) : (byte b).getLsbD i = (decide (i < 8) && (byte b).getLsbD i) := by
  by_cases hi : i < 8
  · simp [hi]
  · have h : b.toNat < 2 ^ i := Nat.lt_of_lt_of_le b.toNat_lt (Nat.pow_le_pow_right (by omega) (by omega))
    have : (byte b).getLsbD i = false := by
      rw [byte, BitVec.getLsbD_ofNat, Nat.testBit_lt_two_pow h]; simp
    rw [this]; simp

/-- A byte k bytes up, k bytes of the division later. -/
theorem divs_shl (p : W) (b : UInt8) (k : Nat) (hk : k < 4) : divs p k (byte b <<< (8 * k)) = byte b := by
  induction k with
  | zero => simp [divs]
  | succ k ih =>
    rw [divs_add p k 1]
    have h1 : divs p 1 (byte b <<< (8 * (k + 1))) = byte b <<< (8 * k) := by
      show div p (byte b <<< (8 * (k + 1))) = _
      rw [div_even]
      · apply BitVec.eq_of_getLsbD_eq
        intro i hi
        rw [BitVec.getLsbD_ushiftRight, BitVec.getLsbD_shiftLeft, BitVec.getLsbD_shiftLeft]
        by_cases h8 : 8 + i < 32
        · have e : 8 + i - 8 * (k + 1) = i - 8 * k := by omega
          rw [e]
          by_cases hlt : i < 8 * k
          · simp [hlt]; omega
          · simp [hlt, hi, h8]; omega
        · rw [byte_bit b (i - 8 * k)]
          simp [h8]; omega
      · intro i hi
        rw [BitVec.getLsbD_shiftLeft]
        have : i < 8 * (k + 1) := by omega
        simp [this]
    rw [h1]
    exact ih (by omega)

theorem le4_xor (a b c d : UInt8) : le4 a b c d = byte a ^^^ (byte b <<< 8) ^^^ (byte c <<< 16) ^^^ (byte d <<< 24) := by
  apply BitVec.eq_of_getLsbD_eq
  intro i hi
  unfold le4
  simp only [BitVec.getLsbD_or, BitVec.getLsbD_xor, BitVec.getLsbD_shiftLeft]
  rw [byte_bit a i, byte_bit b (i - 8), byte_bit c (i - 16), byte_bit d (i - 24)]
  by_cases h1 : i < 8
  · simp [h1, show i < 16 by omega, show i < 24 by omega]
  · by_cases h2 : i < 16
    · simp [h1, h2, show i < 24 by omega, show i - 8 < 8 by omega]
    · by_cases h3 : i < 24
      · simp [h1, h2, h3, show ¬ i - 8 < 8 by omega, show i - 16 < 8 by omega]
      · simp [h1, h2, h3, show ¬ i - 8 < 8 by omega, show ¬ i - 16 < 8 by omega]

/-- A word parts into its four bytes. -/
theorem word_parts (c : W) : c = low c ^^^ (low (c >>> 8) <<< 8) ^^^ (low (c >>> 16) <<< 16) ^^^ ((c >>> 24) <<< 24) := by
  apply BitVec.eq_of_getLsbD_eq
  intro i hi
  simp only [BitVec.getLsbD_xor, BitVec.getLsbD_shiftLeft, low_bit, BitVec.getLsbD_ushiftRight]
  by_cases h1 : i < 8
  · simp [h1, show i < 16 by omega, show i < 24 by omega]
  · by_cases h2 : i < 16
    · simp [h1, h2, hi, show i < 24 by omega, show i - 8 < 8 by omega, show 8 + (i - 8) = i by omega]
    · by_cases h3 : i < 24
      · simp [h1, h2, h3, hi, show ¬ i - 8 < 8 by omega, show i - 16 < 8 by omega, show 16 + (i - 16) = i by omega]
      · simp [h1, h2, h3, hi, show ¬ i - 8 < 8 by omega, show ¬ i - 16 < 8 by omega, show 24 + (i - 24) = i by omega]

theorem low_byte (c : W) : ∃ b : UInt8, low c = byte b := by
  refine ⟨UInt8.ofNat c.toNat, ?_⟩
  apply BitVec.eq_of_toNat_eq
  simp only [low, byte, BitVec.toNat_and, BitVec.toNat_ofNat, UInt8.toNat_ofNat']
  have : c.toNat &&& 255 % 2 ^ 32 = c.toNat % 2 ^ 8 := Nat.and_two_pow_sub_one_eq_mod c.toNat 8
  rw [this]; omega

theorem high_byte (c : W) : ∃ b : UInt8, c >>> 24 = byte b := by
  refine ⟨UInt8.ofNat (c.toNat / 2 ^ 24), ?_⟩
  apply BitVec.eq_of_toNat_eq
  have := c.isLt
  simp only [byte, BitVec.toNat_ushiftRight, BitVec.toNat_ofNat, UInt8.toNat_ofNat', Nat.shiftRight_eq_div_pow]
  omega

/-- Four bytes of the division at once, by four tables. -/
theorem divs_word (p : W) (k : Nat) (c : W) :
    divs p (k + 4) c = divs p (k + 4) (low c) ^^^ divs p (k + 3) (low (c >>> 8)) ^^^ divs p (k + 2) (low (c >>> 16)) ^^^ divs p (k + 1) (c >>> 24) := by
  obtain ⟨b1, h1⟩ := low_byte (c >>> 8)
  obtain ⟨b2, h2⟩ := low_byte (c >>> 16)
  obtain ⟨b3, h3⟩ := high_byte c
  conv => lhs; rw [word_parts c]
  rw [divs_xor, divs_xor, divs_xor, h1, h2, h3]
  rw [show k + 4 = k + 3 + 1 by omega, divs_add p (k + 3) 1 (byte b1 <<< 8), divs_shl p b1 1 (by omega)]
  rw [show k + 3 + 1 = k + 2 + 2 by omega, divs_add p (k + 2) 2 (byte b2 <<< 16), divs_shl p b2 2 (by omega)]
  rw [show k + 2 + 2 = k + 1 + 3 by omega, divs_add p (k + 1) 3 (byte b3 <<< 24), divs_shl p b3 3 (by omega)]

/-- Eight bytes of the division at once, by eight tables: the round of the slicing way. -/
theorem upd8 (p c : W) (b0 b1 b2 b3 b4 b5 b6 b7 : UInt8) :
    upd p c [b0, b1, b2, b3, b4, b5, b6, b7] =
      divs p 1 (byte b7) ^^^ divs p 2 (byte b6) ^^^ divs p 3 (byte b5) ^^^ divs p 4 (byte b4) ^^^ divs p 5 ((c ^^^ le4 b0 b1 b2 b3) >>> 24) ^^^
        divs p 6 (low ((c ^^^ le4 b0 b1 b2 b3) >>> 16)) ^^^ divs p 7 (low ((c ^^^ le4 b0 b1 b2 b3) >>> 8)) ^^^ divs p 8 (low (c ^^^ le4 b0 b1 b2 b3)) := by
  have e : upd p c [b0, b1, b2, b3, b4, b5, b6, b7] =
      divs p 8 (c ^^^ le4 b0 b1 b2 b3) ^^^ divs p 4 (byte b4) ^^^ divs p 3 (byte b5) ^^^ divs p 2 (byte b6) ^^^ divs p 1 (byte b7) := by
    have s1 := divs_shl p b1 1 (by omega)
    have s2 := divs_shl p b2 2 (by omega)
    have s3 := divs_shl p b3 3 (by omega)
    have t1 : divs p 8 (byte b1 <<< 8) = divs p 7 (byte b1) := by rw [divs_add p 7 1, s1]
    have t2 : divs p 8 (byte b2 <<< 16) = divs p 6 (byte b2) := by rw [divs_add p 6 2, s2]
    have t3 : divs p 8 (byte b3 <<< 24) = divs p 5 (byte b3) := by rw [divs_add p 5 3, s3]
    rw [le4_xor, divs_xor, divs_xor, divs_xor, divs_xor, t1, t2, t3]
    simp only [upd, List.foldl_cons, List.foldl_nil, div_xor, divs, BitVec.xor_assoc]
  rw [e, divs_word p 4]
  ac_rfl


theorem upd_append (p c : W) (l m : List UInt8) : upd p c (l ++ m) = upd p (upd p c l) m := by
  unfold upd; rw [List.foldl_append]

theorem upd_snoc (p c : W) (l : List UInt8) (b : UInt8) : upd p c (l ++ [b]) = div p (upd p c l ^^^ byte b) := by
  rw [upd_append]; rfl

theorem upd_cons (p c : W) (b : UInt8) (l : List UInt8) : upd p c (b :: l) = upd p (div p (c ^^^ byte b)) l := rfl

/-- The outer check: the inner one between two complements. -/
def crc (p s : W) (l : List UInt8) : W := ~~~ upd p (~~~ s) l

theorem crc_append (p s : W) (l m : List UInt8) : crc p s (l ++ m) = crc p (crc p s l) m := by
  unfold crc; rw [upd_append, BitVec.not_not]

theorem crc_resume (p s : W) (l m : List UInt8) : crc p (~~~ upd p (~~~ s) l) m = crc p s (l ++ m) := (crc_append p s l m).symm

theorem crc_nil (p s : W) : crc p s [] = s := by
  unfold crc upd; rw [List.foldl_nil, BitVec.not_not]

/-- The IEEE polynomial. -/
def ieee : W := 0xEDB88320#32

theorem crc_a : crc ieee 0#32 [97] = 0xE8B7BE43#32 := by decide +kernel

/- One changed byte. -/

theorem step_inj0 (c : W) (h : step ieee c = 0#32) : c = 0#32 := by
  have h31 : (step ieee c).getLsbD 31 = false := by rw [h]; rfl
  have hb : c.getLsbD 0 = false := by
    unfold step at h31
    rw [BitVec.getLsbD_xor, BitVec.getLsbD_ushiftRight, BitVec.getLsbD_of_ge c (1 + 31) (by omega)] at h31
    cases hc : c.getLsbD 0 with
    | false => rfl
    | true => rw [hc] at h31; exact absurd h31 (by decide)
  rw [step_even _ _ hb] at h
  apply BitVec.eq_of_getLsbD_eq
  intro i hi
  cases i with
  | zero => rw [hb]; rfl
  | succ i =>
    have := congrArg (fun x => BitVec.getLsbD x i) h
    simp only [BitVec.getLsbD_ushiftRight] at this
    rw [Nat.add_comm i 1, this]; simp

theorem xor_twice (a b : W) : (a ^^^ b) ^^^ b = a := by
  rw [BitVec.xor_assoc, BitVec.xor_self, BitVec.xor_zero]

theorem xor_eq_zero {a b : W} (h : a ^^^ b = 0#32) : a = b := by
  rw [← xor_twice a b, h, BitVec.zero_xor]

theorem xor_right {a b c : W} (h : a ^^^ c = b ^^^ c) : a = b := by
  rw [← xor_twice a c, h, xor_twice]

theorem xor_left {a b c : W} (h : c ^^^ a = c ^^^ b) : a = b := by
  rw [BitVec.xor_comm c a, BitVec.xor_comm c b] at h
  exact xor_right h

theorem step_inj {a b : W} (h : step ieee a = step ieee b) : a = b := by
  apply xor_eq_zero
  apply step_inj0
  rw [step_xor, h, BitVec.xor_self]

theorem steps_inj (k : Nat) {a b : W} (h : steps ieee k a = steps ieee k b) : a = b := by
  induction k with
  | zero => exact h
  | succ k ih => exact ih (step_inj h)

theorem div_inj {a b : W} (h : div ieee a = div ieee b) : a = b := steps_inj 8 h

theorem upd_inj (l : List UInt8) : ∀ {a b : W}, upd ieee a l = upd ieee b l → a = b := by
  induction l with
  | nil => intro a b h; exact h
  | cons x l ih =>
    intro a b h
    rw [upd_cons, upd_cons] at h
    exact xor_right (div_inj (ih h))

theorem byte_inj {a b : UInt8} (h : byte a = byte b) : a = b := by
  have := congrArg BitVec.toNat h
  simp only [byte, BitVec.toNat_ofNat] at this
  have ha := a.toNat_lt
  have hb := b.toNat_lt
  apply UInt8.toNat_inj.1
  omega

/-- Two texts that differ in one byte have different checks. -/
theorem crc_differs (s : W) (l r : List UInt8) (a b : UInt8) (h : a ≠ b) : crc ieee s (l ++ a :: r) ≠ crc ieee s (l ++ b :: r) := by
  intro e
  unfold crc at e
  rw [BitVec.not_inj, upd_append, upd_append, upd_cons, upd_cons] at e
  exact h (byte_inj (xor_left (div_inj (upd_inj r e))))

/- The checks of three texts of one length and of their exclusive or. -/

/-- The bytes' exclusive or. -/
def xor3 : List UInt8 → List UInt8 → List UInt8 → List UInt8
  | a :: l, b :: m, c :: n => (a ^^^ b ^^^ c) :: xor3 l m n
  | _, _, _ => []

theorem byte_xor (a b : UInt8) : byte (a ^^^ b) = byte a ^^^ byte b := by
  apply BitVec.eq_of_toNat_eq
  have ha : a.toNat < 2 ^ 32 := Nat.lt_trans a.toNat_lt (by decide)
  have hb : b.toNat < 2 ^ 32 := Nat.lt_trans b.toNat_lt (by decide)
  simp only [byte, BitVec.toNat_ofNat, BitVec.toNat_xor, UInt8.toNat_xor]
  rw [Nat.mod_eq_of_lt ha, Nat.mod_eq_of_lt hb, Nat.mod_eq_of_lt (Nat.xor_lt_two_pow ha hb)]

theorem xor33 (x y z a b c : W) : (x ^^^ y ^^^ z) ^^^ (a ^^^ b ^^^ c) = (x ^^^ a) ^^^ (y ^^^ b) ^^^ (z ^^^ c) := by
  ac_rfl

theorem upd_xor3 (p : W) (n : Nat) : ∀ (l m k : List UInt8) (x y z : W), l.length = n → m.length = n → k.length = n →
    upd p (x ^^^ y ^^^ z) (xor3 l m k) = upd p x l ^^^ upd p y m ^^^ upd p z k := by
  induction n with
  | zero =>
    intro l m k x y z hl hm hk
    obtain rfl := List.length_eq_zero_iff.1 hl
    obtain rfl := List.length_eq_zero_iff.1 hm
    obtain rfl := List.length_eq_zero_iff.1 hk
    rfl
  | succ n ih =>
    intro l m k x y z hl hm hk
    cases l with
    | nil => cases hl
    | cons a l =>
      cases m with
      | nil => cases hm
      | cons b m =>
        cases k with
        | nil => cases hk
        | cons c k =>
          simp only [xor3, upd_cons]
          rw [byte_xor, byte_xor, xor33, div_xor, div_xor]
          exact ih l m k _ _ _ (by simpa using hl) (by simpa using hm) (by simpa using hk)

theorem not_xor3 (x y z : W) : ~~~ (x ^^^ y ^^^ z) = ~~~ x ^^^ ~~~ y ^^^ ~~~ z := by
  apply BitVec.eq_of_getLsbD_eq
  intro i hi
  simp only [BitVec.getLsbD_not, BitVec.getLsbD_xor, hi, decide_true, Bool.true_and]
  cases x.getLsbD i <;> cases y.getLsbD i <;> cases z.getLsbD i <;> rfl

theorem crc_affine (p : W) (l m k : List UInt8) (hm : m.length = l.length) (hk : k.length = l.length) :
    crc p 0#32 (xor3 l m k) = crc p 0#32 l ^^^ crc p 0#32 m ^^^ crc p 0#32 k := by
  unfold crc
  have h := upd_xor3 p l.length l m k (~~~ 0#32) (~~~ 0#32) (~~~ 0#32) rfl hm hk
  rw [show (~~~ 0#32 ^^^ ~~~ 0#32 ^^^ ~~~ 0#32 : W) = ~~~ 0#32 by decide] at h
  rw [h, not_xor3]

end Go.Proofs.YtccecngaimpejaaDoor.Crc
