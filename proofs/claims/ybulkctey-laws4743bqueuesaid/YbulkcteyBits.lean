/-
  SEAT b4743a. PLAIN LAWS: a queue's state in one word, as a number.
-/
import Derived.WalkKit
namespace Go.Proofs.Ybulkctey

/-- The word: released, claimed, the slot's state, tail. -/
def word (r c t s : Nat) : Nat := r % 1048576 + c % 1048576 * 1048576 + s * 1099511627776 + t % 1048576 * 4398046511104

theorem or_hi (a b k : Nat) (h : a < 2 ^ k) : a ||| (b * 2 ^ k) = a + b * 2 ^ k := by
  have := Nat.shiftLeft_add_eq_or_of_lt h b
  rw [Nat.shiftLeft_eq] at this
  rw [Nat.or_comm, ← this, Nat.add_comm]

theorem and20 (a : Nat) (h : a < 4294967296) : bits .and .u32 (a : Int) 1048575 = ((a % 1048576 : Nat) : Int) := by
  have := u32_and_nat a 1048575 h (by omega)
  rw [show ((1048575 : Nat) : Int) = 1048575 from rfl] at this
  rw [this]
  have h2 : a &&& 1048575 = a % 1048576 := Nat.and_two_pow_sub_one_eq_mod a 20
  rw [h2]

theorem and3 (a : Nat) (h : a < 18446744073709551616) : bits .and .u64 (a : Int) 3 = ((a % 4 : Nat) : Int) := by
  have := bits_and_u64_nat a 3 h (by omega)
  rw [show ((3 : Nat) : Int) = 3 from rfl] at this
  rw [this]
  have h2 : a &&& 3 = a % 4 := Nat.and_two_pow_sub_one_eq_mod a 2
  rw [h2]

theorem or64 (a b k : Nat) (h : a < 2 ^ k) (hb : a + b * 2 ^ k < 18446744073709551616) : bits .or .u64 (a : Int) ((b * 2 ^ k : Nat) : Int) = ((a + b * 2 ^ k : Nat) : Int) := by
  rw [bits_or_u64_nat a (b * 2 ^ k) (by omega) (by omega), or_hi a b k h]

theorem w64 (a : Nat) (h : a < 18446744073709551616) : IntKind.u64.wrap (a : Int) = (a : Int) := by
  rw [IntKind.wrap_u64]; omega

/-- What pack and packState reckon, in the walk's own spelling. -/
theorem word_bits (r c t s : Nat) (hr : r < 4294967296) (hc : c < 4294967296) (ht : t < 4294967296) (hs : s < 4) :
    bits .or .u64 (bits .or .u64 (bits .or .u64 (IntKind.u64.wrap (IntKind.u64.wrap (bits .and .u32 (r : Int) 1048575))) (IntKind.u64.wrap (IntKind.u64.wrap (bits .and .u32 (c : Int) 1048575) * 1048576))) ((s : Int) * 1099511627776))
      (IntKind.u64.wrap (IntKind.u64.wrap (bits .and .u32 (t : Int) 1048575) * 4398046511104)) = ((word r c t s : Nat) : Int) := by
  rw [and20 r hr, and20 c hc, and20 t ht, w64 _ (by omega), w64 _ (by omega), w64 _ (by omega), w64 _ (by omega)]
  have e1 : ((c % 1048576 : Nat) : Int) * 1048576 = ((c % 1048576 * 2 ^ 20 : Nat) : Int) := by omega
  have e2 : (s : Int) * 1099511627776 = ((s * 2 ^ 40 : Nat) : Int) := by omega
  have e3 : ((t % 1048576 : Nat) : Int) * 4398046511104 = ((t % 1048576 * 2 ^ 42 : Nat) : Int) := by omega
  rw [e1, e2, e3, w64 _ (by omega), w64 _ (by omega), or64 _ _ 20 (by omega) (by omega), or64 _ _ 40 (by omega) (by omega), or64 _ _ 42 (by omega) (by omega)]
  unfold word
  omega

theorem word_lt (r c t s : Nat) (hs : s < 4) : word r c t s < 4611686018427387904 := by unfold word; omega
theorem word_released (r c t s : Nat) : word r c t s % 1048576 = r % 1048576 := by unfold word; omega
theorem word_claimed (r c t s : Nat) : word r c t s / 1048576 % 1048576 = c % 1048576 := by unfold word; omega
theorem word_slot (r c t s : Nat) (hs : s < 4) : word r c t s / 1099511627776 % 4 = s := by unfold word; omega
theorem word_tail (r c t s : Nat) (hs : s < 4) : word r c t s / 4398046511104 % 1048576 = t % 1048576 := by unfold word; omega
theorem word_mod (r c t s : Nat) : word (r % 1048576) (c % 1048576) (t % 1048576) s = word r c t s := by unfold word; omega

/-- What 'uint32(c >> k) & mask' reckons. -/
theorem count_bits (x d : Nat) : bits .and .u32 ((x : Int) / (d : Int) % 4294967296) 1048575 = ((x / d % 1048576 : Nat) : Int) := by
  have h := and20 (x / d % 4294967296) (by omega)
  have e : ((x / d % 4294967296 : Nat) : Int) = (x : Int) / (d : Int) % 4294967296 := by simp
  rw [e] at h
  rw [h]
  omega
theorem claimed_bits (x : Nat) : bits .and .u32 ((x : Int) / 1048576 % 4294967296) 1048575 = ((x / 1048576 % 1048576 : Nat) : Int) := count_bits x 1048576
theorem tail_bits (x : Nat) (hx : x < 4611686018427387904) : bits .and .u32 ((x : Int) / 4398046511104) 1048575 = ((x / 4398046511104 % 1048576 : Nat) : Int) := by
  have h := and20 (x / 4398046511104) (by omega)
  simpa using h
theorem released_bits (x : Nat) : bits .and .u32 ((x : Int) % 4294967296) 1048575 = ((x % 1048576 : Nat) : Int) := by
  have h := count_bits x 1
  simpa using h
theorem slot_bits (x : Nat) (hx : x < 18446744073709551616) : bits .and .u64 ((x : Int) / 1099511627776) 3 = ((x / 1099511627776 % 4 : Nat) : Int) := by
  have h := and3 (x / 1099511627776) (by omega)
  simpa using h

end Go.Proofs.Ybulkctey
