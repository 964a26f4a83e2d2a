/- Seat b6613005aD: the plain arithmetic of words and bytes: no Go in sight. -/
import Derived.Lib.TrailingZeros
namespace Go.Proofs.Qxb6613005aDoor.Plain

/-! ### Bitwise operations, a byte at a time -/
theorem xor_cons (a b c d : Nat) (ha : a < 256) (hc : c < 256) : (a + 256 * b) ^^^ (c + 256 * d) = (a ^^^ c) + 256 * (b ^^^ d) := by
  have h1 := @Nat.xor_mod_two_pow (a + 256 * b) (c + 256 * d) 8
  have h2 := @Nat.xor_div_two_pow (a + 256 * b) (c + 256 * d) 8
  have e1 : (a + 256 * b) % 2 ^ 8 = a := by omega
  have e2 : (c + 256 * d) % 2 ^ 8 = c := by omega
  have e3 : (a + 256 * b) / 2 ^ 8 = b := by omega
  have e4 : (c + 256 * d) / 2 ^ 8 = d := by omega
  rw [e1, e2] at h1
  rw [e3, e4] at h2
  omega
theorem and_cons (a b c d : Nat) (ha : a < 256) (hc : c < 256) : (a + 256 * b) &&& (c + 256 * d) = (a &&& c) + 256 * (b &&& d) := by
  have h1 := @Nat.and_mod_two_pow (a + 256 * b) (c + 256 * d) 8
  have h2 := @Nat.and_div_two_pow (a + 256 * b) (c + 256 * d) 8
  have e1 : (a + 256 * b) % 2 ^ 8 = a := by omega
  have e2 : (c + 256 * d) % 2 ^ 8 = c := by omega
  have e3 : (a + 256 * b) / 2 ^ 8 = b := by omega
  have e4 : (c + 256 * d) / 2 ^ 8 = d := by omega
  rw [e1, e2] at h1
  rw [e3, e4] at h2
  omega
theorem or_cons (a b c d : Nat) (ha : a < 256) (hc : c < 256) : (a + 256 * b) ||| (c + 256 * d) = (a ||| c) + 256 * (b ||| d) := by
  have h1 := @Nat.or_mod_two_pow (a + 256 * b) (c + 256 * d) 8
  have h2 := @Nat.or_div_two_pow (a + 256 * b) (c + 256 * d) 8
  have e1 : (a + 256 * b) % 2 ^ 8 = a := by omega
  have e2 : (c + 256 * d) % 2 ^ 8 = c := by omega
  have e3 : (a + 256 * b) / 2 ^ 8 = b := by omega
  have e4 : (c + 256 * d) / 2 ^ 8 = d := by omega
  rw [e1, e2] at h1
  rw [e3, e4] at h2
  omega
theorem xor_zero_iff (a b : Nat) : a ^^^ b = 0 ↔ a = b := by
  constructor
  · intro h
    have : a ^^^ b ^^^ b = 0 ^^^ b := by rw [h]
    rw [Nat.xor_assoc, Nat.xor_self, Nat.xor_zero, Nat.zero_xor] at this
    exact this
  · rintro rfl
    exact Nat.xor_self _
theorem and_255 (b : Nat) (h : b < 256) : b &&& 255 = b := by
  have := Nat.and_two_pow_sub_one_eq_mod b 8
  have e : (2 : Nat) ^ 8 - 1 = 255 := by decide
  rw [e] at this
  omega

/-! ### A word of n bytes, the first the least -/
def le (B : Nat → Nat) : Nat → Nat
  | 0 => 0
  | n + 1 => B 0 + 256 * le (fun i => B (i + 1)) n

theorem le_congr : ∀ (n : Nat) (B C : Nat → Nat), (∀ i, i < n → B i = C i) → le B n = le C n
  | 0, _, _, _ => rfl
  | n + 1, B, C, h => by
    simp only [le]
    rw [h 0 (by omega), le_congr n _ _ (fun i hi => h (i + 1) (by omega))]
theorem le_lt : ∀ (n : Nat) (B : Nat → Nat), (∀ i, i < n → B i < 256) → le B n < 256 ^ n
  | 0, _, _ => by simp [le]
  | n + 1, B, h => by
    have h1 := le_lt n (fun i => B (i + 1)) (fun i hi => h (i + 1) (by omega))
    have h0 := h 0 (by omega)
    simp only [le, Nat.pow_succ]
    omega
theorem le_xor : ∀ (n : Nat) (B C : Nat → Nat), (∀ i, i < n → B i < 256) → (∀ i, i < n → C i < 256) → le B n ^^^ le C n = le (fun i => B i ^^^ C i) n
  | 0, _, _, _, _ => by simp [le]
  | n + 1, B, C, hB, hC => by
    simp only [le]
    rw [xor_cons _ _ _ _ (hB 0 (by omega)) (hC 0 (by omega)), le_xor n _ _ (fun i hi => hB (i + 1) (by omega)) (fun i hi => hC (i + 1) (by omega))]
/-- The word's byte j. -/
theorem le_byte : ∀ (n : Nat) (B : Nat → Nat) (j : Nat), (∀ i, i < n → B i < 256) → j < n → le B n / 256 ^ j % 256 = B j
  | 0, _, _, _, h => by omega
  | n + 1, B, 0, hB, _ => by
    have h0 := hB 0 (by omega)
    simp only [le, Nat.pow_zero, Nat.div_one]
    omega
  | n + 1, B, j + 1, hB, h => by
    have h0 := hB 0 (by omega)
    have ih := le_byte n (fun i => B (i + 1)) j (fun i hi => hB (i + 1) (by omega)) (by omega)
    simp only [le]
    rw [Nat.pow_succ, Nat.mul_comm (256 ^ j) 256, ← Nat.div_div_eq_div_mul]
    have e : (B 0 + 256 * le (fun i => B (i + 1)) n) / 256 = le (fun i => B (i + 1)) n := by omega
    rw [e]
    exact ih
theorem mod_cons (a b c : Nat) (ha : a < 256) : (a + 256 * b) % (256 * c) = a + 256 * (b % c) := by
  rw [Nat.mod_mul]
  have e1 : (a + 256 * b) % 256 = a := by omega
  have e2 : (a + 256 * b) / 256 = b := by omega
  rw [e1, e2]
/-- The first k bytes. -/
theorem le_mod : ∀ (n : Nat) (B : Nat → Nat) (k : Nat), (∀ i, i < n → B i < 256) → k ≤ n → le B n % 256 ^ k = le B k
  | n, B, 0, _, _ => by simp [le, Nat.mod_one]
  | 0, _, k + 1, _, h => by omega
  | n + 1, B, k + 1, hB, h => by
    simp only [le]
    rw [Nat.pow_succ, Nat.mul_comm (256 ^ k), mod_cons _ _ _ (hB 0 (by omega)), le_mod n _ k (fun i hi => hB (i + 1) (by omega)) (by omega)]
/-- Zero bytes behind the first k. -/
theorem le_zeros : ∀ (n : Nat) (B : Nat → Nat) (k : Nat), k ≤ n → le (fun i => if i < k then B i else 0) n = le B k
  | 0, _, 0, _ => rfl
  | n + 1, B, 0, _ => by
    have := le_zeros n (fun i => B (i + 1)) 0 (by omega)
    simp [le] at this ⊢
    omega
  | 0, _, k + 1, h => by omega
  | n + 1, B, k + 1, h => by
    have := le_zeros n (fun i => B (i + 1)) k (by omega)
    simp only [le]
    rw [← this]
    have e : (fun i => if i + 1 < k + 1 then B (i + 1) else 0) = fun i => if i < k then B (i + 1) else 0 := by
      funext i; simp
    rw [e]
    simp

/-! ### The first byte that is nought -/
def ev (n t : Nat) : Nat := (t + 256 ^ n - le (fun _ => 1) n) % 256 ^ n &&& (256 ^ n - 1 - t) &&& le (fun _ => 128) n

theorem low_zero : ∀ t, t < 256 → t ≠ 0 → (t - 1) &&& (255 - t) &&& 128 = 0 := by decide +kernel
theorem ones_lt (n : Nat) : le (fun _ => 1) n < 256 ^ n := le_lt n _ (fun _ _ => by decide)

theorem ev_pos (n t0 t : Nat) (h0 : t0 < 256) (hne : t0 ≠ 0) (ht : t < 256 ^ n) : ev (n + 1) (t0 + 256 * t) = 256 * ev n t := by
  have ho := ones_lt n
  unfold ev
  simp only [le]
  have e1 : t0 + 256 * t + 256 ^ (n + 1) - (1 + 256 * le (fun _ => 1) n) = (t0 - 1) + 256 * (t + 256 ^ n - le (fun _ => 1) n) := by
    rw [Nat.pow_succ]; omega
  have e2 : 256 ^ (n + 1) - 1 - (t0 + 256 * t) = (255 - t0) + 256 * (256 ^ n - 1 - t) := by
    rw [Nat.pow_succ]; omega
  rw [e1, e2, Nat.pow_succ, Nat.mul_comm (256 ^ n) 256, mod_cons _ _ _ (by omega), and_cons _ _ _ _ (by omega) (by omega)]
  have hlt : (t0 - 1) &&& (255 - t0) < 256 := Nat.lt_of_le_of_lt Nat.and_le_left (by omega)
  rw [and_cons _ _ _ _ hlt (by omega), low_zero t0 h0 hne]
  omega
theorem ev_zero (n t : Nat) (ht : t < 256 ^ n) : ∃ q, ev (n + 1) (0 + 256 * t) = 128 + 256 * q := by
  have ho := ones_lt n
  unfold ev
  simp only [le]
  have e1 : 0 + 256 * t + 256 ^ (n + 1) - (1 + 256 * le (fun _ => 1) n) = 255 + 256 * (t + 256 ^ n - le (fun _ => 1) n - 1) := by
    rw [Nat.pow_succ]; omega
  have e2 : 256 ^ (n + 1) - 1 - (0 + 256 * t) = 255 + 256 * (256 ^ n - 1 - t) := by
    rw [Nat.pow_succ]; omega
  rw [e1, e2, Nat.pow_succ, Nat.mul_comm (256 ^ n) 256, mod_cons _ _ _ (by omega), and_cons _ _ _ _ (by omega) (by omega), and_cons _ _ _ _ (by decide) (by omega)]
  exact ⟨_, rfl⟩

theorem ev_none : ∀ (n : Nat) (T : Nat → Nat), (∀ i, i < n → T i < 256) → (∀ i, i < n → T i ≠ 0) → ev n (le T n) = 0
  | 0, _, _, _ => by simp [ev, le]
  | n + 1, T, hT, h => by
    simp only [le]
    rw [ev_pos n _ _ (hT 0 (by omega)) (h 0 (by omega)) (le_lt n _ (fun i hi => hT (i + 1) (by omega))), ev_none n _ (fun i hi => hT (i + 1) (by omega)) (fun i hi => h (i + 1) (by omega))]
theorem ev_some : ∀ (n : Nat) (T : Nat → Nat) (k : Nat), (∀ i, i < n → T i < 256) → k < n → (∀ i, i < k → T i ≠ 0) → T k = 0 → ∃ q, ev n (le T n) = 256 ^ k * (128 + 256 * q)
  | 0, _, _, _, h, _, _ => by omega
  | n + 1, T, 0, hT, _, _, h0 => by
    obtain ⟨q, hq⟩ := ev_zero n (le (fun i => T (i + 1)) n) (le_lt n _ (fun i hi => hT (i + 1) (by omega)))
    refine ⟨q, ?_⟩
    simp only [le]
    rw [h0, hq]
    simp
  | n + 1, T, k + 1, hT, hk, h, h0 => by
    obtain ⟨q, hq⟩ := ev_some n (fun i => T (i + 1)) k (fun i hi => hT (i + 1) (by omega)) (by omega) (fun i hi => h (i + 1) (by omega)) h0
    refine ⟨q, ?_⟩
    simp only [le]
    rw [ev_pos n _ _ (hT 0 (by omega)) (h 0 (by omega)) (le_lt n _ (fun i hi => hT (i + 1) (by omega))), hq, Nat.pow_succ, Nat.mul_comm (256 ^ k) 256, Nat.mul_assoc]

theorem ctzFrom_two (c : Nat) : ∀ (f m : Nat), c < f → Go.Lib.ctzFrom f (2 ^ c * (2 * m + 1)) = c := by
  induction c with
  | zero =>
    intro f m h
    obtain ⟨f, rfl⟩ : ∃ g, f = g + 1 := ⟨f - 1, by omega⟩
    unfold Go.Lib.ctzFrom
    rw [if_pos (by simp)]
  | succ c ih =>
    intro f m h
    obtain ⟨f, rfl⟩ : ∃ g, f = g + 1 := ⟨f - 1, by omega⟩
    unfold Go.Lib.ctzFrom
    have e : 2 ^ (c + 1) * (2 * m + 1) = 2 * (2 ^ c * (2 * m + 1)) := by rw [Nat.pow_succ, Nat.mul_comm (2 ^ c) 2, Nat.mul_assoc]
    rw [e, if_neg (by omega)]
    have e2 : 2 * (2 ^ c * (2 * m + 1)) / 2 = 2 ^ c * (2 * m + 1) := by omega
    rw [e2, ih f m (by omega)]
    omega

/-- The word that flags the ends, as endsIn reckons it of x and of the end in each byte. -/
def endsN (x e : Nat) : Nat := ((x ^^^ e) + 18374403900871474943) % 18446744073709551616 &&& (18446744073709551615 - (x ^^^ e)) &&& 9259542123273814144

theorem endsN_ev (x e : Nat) : endsN x e = ev 8 (x ^^^ e) := by
  have h1 : le (fun _ => 1) 8 = 72340172838076673 := by decide
  have h2 : le (fun _ => 128) 8 = 9259542123273814144 := by decide
  unfold endsN ev
  rw [h1, h2]
  have e1 : (x ^^^ e) + 256 ^ 8 - 72340172838076673 = (x ^^^ e) + 18374403900871474943 := by omega
  rw [e1]
theorem ends_le (e : Nat) : le (fun _ => e) 8 = 72340172838076673 * e := by
  simp only [le]; omega

/-- How many bytes come before the first that is e: k (8: none is). -/
theorem first_end (B : Nat → Nat) (e k : Nat) (hB : ∀ i, i < 8 → B i < 256) (he : e < 256) (hk : k ≤ 8) (hlt : ∀ i, i < k → B i ≠ e) (hat : k < 8 → B k = e) :
    Go.Lib.ctz 64 (endsN (le B 8) (72340172838076673 * e)) / 8 = k := by
  have hx : ∀ i, i < 8 → B i ^^^ e < 256 := fun i hi => Nat.xor_lt_two_pow (n := 8) (hB i hi) he
  rw [endsN_ev, ← ends_le e, le_xor 8 B (fun _ => e) hB (fun _ _ => he)]
  by_cases h8 : k = 8
  · subst h8
    rw [ev_none 8 _ hx (fun i hi => fun h => hlt i hi ((xor_zero_iff _ _).1 h))]
    rfl
  · obtain ⟨q, hq⟩ := ev_some 8 (fun i => B i ^^^ e) k hx (by omega) (fun i hi => fun h => hlt i hi ((xor_zero_iff _ _).1 h)) ((xor_zero_iff _ _).2 (hat (by omega)))
    rw [hq]
    have e1 : 256 ^ k * (128 + 256 * q) = 2 ^ (8 * k + 7) * (2 * q + 1) := by
      have : (256 : Nat) ^ k = 2 ^ (8 * k) := by rw [show (256 : Nat) = 2 ^ 8 by decide, ← Nat.pow_mul]
      rw [this, Nat.pow_add, Nat.mul_assoc]
      have : 128 + 256 * q = 2 ^ 7 * (2 * q + 1) := by omega
      rw [this]
    rw [e1]
    have hne : 2 ^ (8 * k + 7) * (2 * q + 1) ≠ 0 := Nat.mul_ne_zero (by have := Nat.two_pow_pos (8 * k + 7); omega) (by omega)
    unfold Go.Lib.ctz
    rw [if_neg hne, ctzFrom_two _ _ _ (by omega)]
    omega

/-! ### The bytes the other way round -/
/-- ReverseBytes64's three steps. -/
def rv1 (x : Nat) : Nat := (x / 256 &&& 71777214294589695) ||| ((x &&& 71777214294589695) * 256 % 18446744073709551616)
def rv2 (x : Nat) : Nat := (x / 65536 &&& 281470681808895) ||| ((x &&& 281470681808895) * 65536 % 18446744073709551616)
def rv3 (x : Nat) : Nat := (x / 4294967296) ||| (x * 4294967296 % 18446744073709551616)

def w8 (b0 b1 b2 b3 b4 b5 b6 b7 : Nat) : Nat := b0 + 256 * (b1 + 256 * (b2 + 256 * (b3 + 256 * (b4 + 256 * (b5 + 256 * (b6 + 256 * b7))))))
theorem le_w8 (B : Nat → Nat) : le B 8 = w8 (B 0) (B 1) (B 2) (B 3) (B 4) (B 5) (B 6) (B 7) := rfl

section
variable {a0 a1 a2 a3 a4 a5 a6 a7 c0 c1 c2 c3 c4 c5 c6 c7 : Nat}
theorem and_w8 (h0 : a0 < 256) (h1 : a1 < 256) (h2 : a2 < 256) (h3 : a3 < 256) (h4 : a4 < 256) (h5 : a5 < 256) (h6 : a6 < 256)
    (k0 : c0 < 256) (k1 : c1 < 256) (k2 : c2 < 256) (k3 : c3 < 256) (k4 : c4 < 256) (k5 : c5 < 256) (k6 : c6 < 256) :
    w8 a0 a1 a2 a3 a4 a5 a6 a7 &&& w8 c0 c1 c2 c3 c4 c5 c6 c7 = w8 (a0 &&& c0) (a1 &&& c1) (a2 &&& c2) (a3 &&& c3) (a4 &&& c4) (a5 &&& c5) (a6 &&& c6) (a7 &&& c7) := by
  unfold w8
  rw [and_cons _ _ _ _ h0 k0, and_cons _ _ _ _ h1 k1, and_cons _ _ _ _ h2 k2, and_cons _ _ _ _ h3 k3, and_cons _ _ _ _ h4 k4, and_cons _ _ _ _ h5 k5, and_cons _ _ _ _ h6 k6]
theorem or_w8 (h0 : a0 < 256) (h1 : a1 < 256) (h2 : a2 < 256) (h3 : a3 < 256) (h4 : a4 < 256) (h5 : a5 < 256) (h6 : a6 < 256)
    (k0 : c0 < 256) (k1 : c1 < 256) (k2 : c2 < 256) (k3 : c3 < 256) (k4 : c4 < 256) (k5 : c5 < 256) (k6 : c6 < 256) :
    w8 a0 a1 a2 a3 a4 a5 a6 a7 ||| w8 c0 c1 c2 c3 c4 c5 c6 c7 = w8 (a0 ||| c0) (a1 ||| c1) (a2 ||| c2) (a3 ||| c3) (a4 ||| c4) (a5 ||| c5) (a6 ||| c6) (a7 ||| c7) := by
  unfold w8
  rw [or_cons _ _ _ _ h0 k0, or_cons _ _ _ _ h1 k1, or_cons _ _ _ _ h2 k2, or_cons _ _ _ _ h3 k3, or_cons _ _ _ _ h4 k4, or_cons _ _ _ _ h5 k5, or_cons _ _ _ _ h6 k6]
end

section
variable {b0 b1 b2 b3 b4 b5 b6 b7 : Nat}
theorem rv1_w8 (h0 : b0 < 256) (h1 : b1 < 256) (h2 : b2 < 256) (h3 : b3 < 256) (h4 : b4 < 256) (h5 : b5 < 256) (h6 : b6 < 256) (h7 : b7 < 256) : rv1 (w8 b0 b1 b2 b3 b4 b5 b6 b7) = w8 b1 b0 b3 b2 b5 b4 b7 b6 := by
  have m : 71777214294589695 = w8 255 0 255 0 255 0 255 0 := by decide
  have e1 : w8 b0 b1 b2 b3 b4 b5 b6 b7 / 256 = w8 b1 b2 b3 b4 b5 b6 b7 0 := by unfold w8; omega
  unfold rv1
  rw [e1, m, and_w8 (by omega) (by omega) (by omega) (by omega) (by omega) (by omega) (by omega) (by omega) (by omega) (by omega) (by omega) (by omega) (by omega) (by omega),
    and_w8 (by omega) (by omega) (by omega) (by omega) (by omega) (by omega) (by omega) (by omega) (by omega) (by omega) (by omega) (by omega) (by omega) (by omega)]
  simp only [and_255 _ h0, and_255 _ h1, and_255 _ h2, and_255 _ h3, and_255 _ h4, and_255 _ h5, and_255 _ h6, and_255 _ h7, Nat.and_zero]
  have e2 : w8 b0 0 b2 0 b4 0 b6 0 * 256 % 18446744073709551616 = w8 0 b0 0 b2 0 b4 0 b6 := by unfold w8; omega
  rw [e2, or_w8 (by omega) (by omega) (by omega) (by omega) (by omega) (by omega) (by omega) (by omega) (by omega) (by omega) (by omega) (by omega) (by omega) (by omega)]
  simp only [Nat.or_zero, Nat.zero_or]
theorem rv2_w8 (h0 : b0 < 256) (h1 : b1 < 256) (h2 : b2 < 256) (h3 : b3 < 256) (h4 : b4 < 256) (h5 : b5 < 256) (h6 : b6 < 256) (h7 : b7 < 256) : rv2 (w8 b0 b1 b2 b3 b4 b5 b6 b7) = w8 b2 b3 b0 b1 b6 b7 b4 b5 := by
  have m : 281470681808895 = w8 255 255 0 0 255 255 0 0 := by decide
  have e1 : w8 b0 b1 b2 b3 b4 b5 b6 b7 / 65536 = w8 b2 b3 b4 b5 b6 b7 0 0 := by unfold w8; omega
  unfold rv2
  rw [e1, m, and_w8 (by omega) (by omega) (by omega) (by omega) (by omega) (by omega) (by omega) (by omega) (by omega) (by omega) (by omega) (by omega) (by omega) (by omega),
    and_w8 (by omega) (by omega) (by omega) (by omega) (by omega) (by omega) (by omega) (by omega) (by omega) (by omega) (by omega) (by omega) (by omega) (by omega)]
  simp only [and_255 _ h0, and_255 _ h1, and_255 _ h2, and_255 _ h3, and_255 _ h4, and_255 _ h5, and_255 _ h6, and_255 _ h7, Nat.and_zero]
  have e2 : w8 b0 b1 0 0 b4 b5 0 0 * 65536 % 18446744073709551616 = w8 0 0 b0 b1 0 0 b4 b5 := by unfold w8; omega
  rw [e2, or_w8 (by omega) (by omega) (by omega) (by omega) (by omega) (by omega) (by omega) (by omega) (by omega) (by omega) (by omega) (by omega) (by omega) (by omega)]
  simp only [Nat.or_zero, Nat.zero_or]
theorem rv3_w8 (h0 : b0 < 256) (h1 : b1 < 256) (h2 : b2 < 256) (h3 : b3 < 256) (h4 : b4 < 256) (h5 : b5 < 256) (h6 : b6 < 256) (h7 : b7 < 256) : rv3 (w8 b0 b1 b2 b3 b4 b5 b6 b7) = w8 b4 b5 b6 b7 b0 b1 b2 b3 := by
  have e1 : w8 b0 b1 b2 b3 b4 b5 b6 b7 / 4294967296 = w8 b4 b5 b6 b7 0 0 0 0 := by unfold w8; omega
  have e2 : w8 b0 b1 b2 b3 b4 b5 b6 b7 * 4294967296 % 18446744073709551616 = w8 0 0 0 0 b0 b1 b2 b3 := by unfold w8; omega
  unfold rv3
  rw [e1, e2, or_w8 (by omega) (by omega) (by omega) (by omega) (by omega) (by omega) (by omega) (by omega) (by omega) (by omega) (by omega) (by omega) (by omega) (by omega)]
  simp only [Nat.or_zero, Nat.zero_or]
end

/-- All three: the bytes the other way round. -/
theorem rv_le (B : Nat → Nat) (hB : ∀ i, i < 8 → B i < 256) : rv3 (rv2 (rv1 (le B 8))) = le (fun i => B (7 - i)) 8 := by
  rw [le_w8, le_w8]
  have h0 := hB 0 (by omega)
  have h1 := hB 1 (by omega)
  have h2 := hB 2 (by omega)
  have h3 := hB 3 (by omega)
  have h4 := hB 4 (by omega)
  have h5 := hB 5 (by omega)
  have h6 := hB 6 (by omega)
  have h7 := hB 7 (by omega)
  rw [rv1_w8 h0 h1 h2 h3 h4 h5 h6 h7, rv2_w8 h1 h0 h3 h2 h5 h4 h7 h6, rv3_w8 h3 h2 h1 h0 h7 h6 h5 h4]

end Go.Proofs.Qxb6613005aDoor.Plain
