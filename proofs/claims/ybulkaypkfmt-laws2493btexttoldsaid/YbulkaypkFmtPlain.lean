/-
  PLAIN MATHEMATICS OF SEAT b2493aF: decimal digits. No Go in sight.
-/
namespace Go.Proofs.YbulkaypkFmt.Plain

/-- The decimal digit of weight 10^k, as a byte. -/
def dbyte (x k : Nat) : UInt8 := UInt8.ofNat (48 + x / 10 ^ k % 10)

/-- The last k decimal digits of x, the highest first. -/
def dig (x : Nat) : Nat → List UInt8
  | 0 => []
  | k + 1 => dbyte x k :: dig x k

theorem dig_length (x : Nat) : ∀ k, (dig x k).length = k
  | 0 => rfl
  | k + 1 => by simp [dig, dig_length x k]

theorem dbyte_toNat (x k : Nat) : (dbyte x k).toNat = 48 + x / 10 ^ k % 10 := by
  unfold dbyte
  have := Nat.mod_lt (x / 10 ^ k) (show 10 > 0 by omega)
  rw [UInt8.toNat_ofNat']
  omega

theorem dig_get (x : Nat) : ∀ (k j : Nat), j < k → (dig x k)[j]? = some (dbyte x (k - 1 - j))
  | 0, _, h => absurd h (Nat.not_lt_zero _)
  | k + 1, 0, _ => by simp [dig]
  | k + 1, j + 1, h => by
    rw [dig, List.getElem?_cons_succ, dig_get x k j (by omega)]
    congr 2
    omega

/-- How many digits appendPadded writes. -/
structure Pads (x width k : Nat) : Prop where
  lo : width ≤ k
  done : x / 10 ^ k = 0
  least : k = width ∨ 0 < x / 10 ^ (k - 1)

theorem Pads.unique {x width k k' : Nat} (h : Pads x width k) (h' : Pads x width k') : k = k' := by
  have key : ∀ a b, Pads x width a → Pads x width b → a ≤ b := by
    intro a b ha hb
    apply Nat.le_of_not_lt
    intro hlt
    rcases ha.least with e | e
    · have := hb.lo; omega
    · have hd : 10 ^ b ≤ 10 ^ (a - 1) := Nat.pow_le_pow_right (by omega) (by omega)
      have h0 : x < 10 ^ b := by
        have := hb.done
        rcases Nat.div_eq_zero_iff.1 this with e' | e'
        · have := Nat.pow_pos (n := b) (show 0 < 10 by omega); omega
        · exact e'
      have : x / 10 ^ (a - 1) = 0 := Nat.div_eq_of_lt (by omega)
      omega
  exact Nat.le_antisymm (key _ _ h h') (key _ _ h' h)

theorem pads_small {x width : Nat} (h : x < 10 ^ width) : Pads x width width := ⟨Nat.le_refl _, Nat.div_eq_of_lt h, .inl rfl⟩

theorem Pads.width {x width k : Nat} (h : Pads x width k) (hx : x < 10 ^ width) : k = width := h.unique (pads_small hx)

theorem div_step (x k : Nat) : x / 10 ^ k / 10 = x / 10 ^ (k + 1) := by rw [Nat.div_div_eq_div_mul, Nat.pow_succ]

theorem pow20 (x : Nat) (h : x < 18446744073709551616) : x / 10 ^ 20 = 0 := Nat.div_eq_of_lt (by omega)

end Go.Proofs.YbulkaypkFmt.Plain
