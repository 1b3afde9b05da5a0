/-
  SEAT b6603872aM. THE PLAIN LAW OF THE CRC: one step of the shift register is linear; the register with the message's bytes xored in at its top equals the register that divides the message followed by two zero bytes. No Go in sight but the model's word for bits at the end.
-/
import GoSem.Claim
import Derived.WalkKit
import Derived.ProofKit
import Derived.Laws.BitsAllLaws
namespace Go.Proofs.Qxb6603872aMods

/-- One step of the register. -/
def stp (r : BitVec 16) : BitVec 16 := if r.msb = true then (r <<< 1) ^^^ 4129#16 else r <<< 1
def stps : Nat → BitVec 16 → BitVec 16
  | 0, r => r
  | n + 1, r => stp (stps n r)

theorem xor4 (a b c : BitVec 16) : a ^^^ b ^^^ c = a ^^^ c ^^^ b := by
  rw [BitVec.xor_assoc, BitVec.xor_comm b c, ← BitVec.xor_assoc]
theorem xor_self4 (a b c : BitVec 16) : a ^^^ b = a ^^^ c ^^^ (b ^^^ c) := by
  rw [BitVec.xor_assoc, ← BitVec.xor_assoc c b c, BitVec.xor_comm c b, BitVec.xor_assoc b c c, BitVec.xor_self, BitVec.xor_zero]

theorem stp_xor (a b : BitVec 16) : stp (a ^^^ b) = stp a ^^^ stp b := by
  unfold stp
  rw [BitVec.msb_xor, BitVec.shiftLeft_xor_distrib]
  cases ha : a.msb <;> cases hb : b.msb
  · simp
  · simp [BitVec.xor_assoc]
  · simp only [Bool.xor_false, if_true]
    simp only [Bool.false_eq_true, if_false]
    exact xor4 _ _ _
  · simp only [Bool.xor_self, Bool.false_eq_true, if_false, if_true]
    exact xor_self4 _ _ _

theorem stps_xor (a b : BitVec 16) : ∀ n, stps n (a ^^^ b) = stps n a ^^^ stps n b
  | 0 => rfl
  | n + 1 => by rw [stps, stps_xor a b n, stp_xor]; rfl
theorem stps_add (r : BitVec 16) (n : Nat) : ∀ m, stps (m + n) r = stps m (stps n r)
  | 0 => by rw [Nat.zero_add]; rfl
  | m + 1 => by rw [Nat.add_right_comm, stps, stps_add r n m]; rfl

/-- The first j bits of the byte c. -/
def part (c j : Nat) : BitVec 16 := BitVec.ofNat 16 (c / 2 ^ (8 - j))
/-- Its next bit. -/
def bt (c j : Nat) : BitVec 16 := BitVec.ofNat 16 (c / 2 ^ (7 - j) % 2)

theorem part_step : ∀ c, c < 256 → ∀ j, j < 8 → stp (part c j) ^^^ bt c j = part c (j + 1) := by decide +kernel
theorem part_zero : ∀ c, c < 256 → part c 0 = 0 := by decide +kernel
theorem part_eight (c : Nat) : part c 8 = BitVec.ofNat 16 c := by simp [part]
theorem up_eight : ∀ c, c < 256 → stps 8 (BitVec.ofNat 16 c) = BitVec.ofNat 16 (c * 256) := by decide +kernel

/-- One more bit of the division. -/
theorem ld_step (r : BitVec 16) (c j : Nat) (hc : c < 256) (hj : j < 8) : stp (stps j r ^^^ part c j) ^^^ bt c j = stps (j + 1) r ^^^ part c (j + 1) := by
  rw [stp_xor, BitVec.xor_assoc, part_step c hc j hj]; rfl

def crcK (b : Nat → Nat) : Nat → BitVec 16
  | 0 => 0
  | k + 1 => stps 8 (crcK b k ^^^ BitVec.ofNat 16 (b k * 256))
def ldK (b : Nat → Nat) : Nat → BitVec 16
  | 0 => 0
  | k + 1 => stps 8 (ldK b k) ^^^ BitVec.ofNat 16 (b k)

theorem crc_ld (b : Nat → Nat) (hb : ∀ k, b k < 256) : ∀ k, crcK b k = stps 16 (ldK b k)
  | 0 => by show (0#16 : BitVec 16) = stps 16 0#16; decide +kernel
  | k + 1 => by
    rw [crcK, crc_ld b hb k, ldK, stps_xor, stps_xor, ← up_eight (b k) (hb k), ← stps_add, ← stps_add, ← stps_add]
theorem ld_two (b : Nat → Nat) (n : Nat) (h0 : b n = 0) (h1 : b (n + 1) = 0) : ldK b (n + 2) = stps 16 (ldK b n) := by
  rw [ldK, ldK, h0, h1]
  show stps 8 (stps 8 (ldK b n) ^^^ 0#16) ^^^ 0#16 = _
  rw [BitVec.xor_zero, BitVec.xor_zero, ← stps_add]
/-- THE LAW: the remainder of the message followed by two zero bytes is the CRC. -/
theorem crc_is_ld (b : Nat → Nat) (hb : ∀ k, b k < 256) (n : Nat) (h0 : b n = 0) (h1 : b (n + 1) = 0) : crcK b n = ldK b (n + 2) := by
  rw [ld_two b n h0 h1, crc_ld b hb n]

/-! ### In the walk's own forms -/
theorem lt16 (r : BitVec 16) : r.toNat < 65536 := r.isLt
theorem and_top (r : BitVec 16) : r.toNat &&& 32768 = if r.msb = true then 32768 else 0 := by
  have hm : r.msb = r.toNat.testBit 15 := by rw [BitVec.msb_eq_getLsbD_last, ← BitVec.testBit_toNat]
  rw [hm]
  have e : (32768 : Nat) = 2 ^ 15 := rfl
  rw [e]
  apply Nat.eq_of_testBit_eq
  intro i
  rw [Nat.testBit_and, Nat.testBit_two_pow]
  by_cases hi : 15 = i
  · subst hi
    cases h : r.toNat.testBit 15
    · rw [if_neg (by simp), Nat.zero_testBit]; rfl
    · rw [if_pos rfl, Nat.testBit_two_pow]; rfl
  · cases h : r.toNat.testBit 15
    · rw [if_neg (by simp), Nat.zero_testBit, decide_eq_false hi, Bool.and_false]
    · rw [if_pos rfl, Nat.testBit_two_pow, decide_eq_false hi, Bool.and_false]
theorem top_nat (r : BitVec 16) : bits .and .u16 (r.toNat : Int) 32768 = if r.msb = true then 32768 else 0 := by
  have h := u16_and_nat r.toNat 32768 (lt16 r) (by omega)
  rw [and_top] at h
  rw [show (32768 : Int) = ((32768 : Nat) : Int) from rfl, h]
  cases r.msb <;> rfl
theorem top_yes {r : BitVec 16} (h : (bits .and .u16 (r.toNat : Int) 32768 != 0) = true) : r.msb = true := by
  rw [top_nat] at h
  cases hm : r.msb with
  | true => rfl
  | false => rw [hm] at h; simp at h
theorem top_no {r : BitVec 16} (h : (bits .and .u16 (r.toNat : Int) 32768 != 0) = false) : r.msb = false := by
  rw [top_nat] at h
  cases hm : r.msb with
  | false => rfl
  | true => rw [hm] at h; simp at h
theorem xor_nat (r s : BitVec 16) : bits .xor .u16 (r.toNat : Int) (s.toNat : Int) = ((r ^^^ s).toNat : Int) := by
  rw [u16_xor_nat _ _ (lt16 r) (lt16 s), BitVec.toNat_xor]
theorem shl_nat (r : BitVec 16) : IntKind.u16.wrap ((r.toNat : Int) * 2) = ((r <<< 1).toNat : Int) := by
  rw [IntKind.wrap_u16, BitVec.toNat_shiftLeft, Nat.shiftLeft_eq]
  omega
theorem crc_yes {r : BitVec 16} (h : (bits .and .u16 (r.toNat : Int) 32768 != 0) = true) : bits .xor .u16 (IntKind.u16.wrap ((r.toNat : Int) * 2)) 4129 = ((stp r).toNat : Int) := by
  have h1 := xor_nat (r <<< 1) 4129#16
  rw [shl_nat, stp, if_pos (top_yes h), ← h1]; rfl
theorem crc_no {r : BitVec 16} (h : (bits .and .u16 (r.toNat : Int) 32768 != 0) = false) : IntKind.u16.wrap ((r.toNat : Int) * 2) = ((stp r).toNat : Int) := by
  rw [shl_nat, stp, if_neg (by rw [top_no h]; simp)]
/-- A byte laid at the register's top. -/
theorem in_top (r : BitVec 16) (c : Nat) (_hc : c < 256) : bits .xor .u16 (r.toNat : Int) (IntKind.u16.wrap (IntKind.u16.wrap (c : Int) * 256)) = ((r ^^^ BitVec.ofNat 16 (c * 256)).toNat : Int) := by
  have e : ((c : Int) % 65536 * 256) % 65536 = ((c * 256 % 2 ^ 16 : Nat) : Int) := by omega
  rw [← xor_nat, BitVec.toNat_ofNat, IntKind.wrap_u16, IntKind.wrap_u16, e]
theorem or_even (m b : Nat) (hm : m % 2 = 0) (hb : b < 2) : m ||| b = m ^^^ b := by
  apply Nat.eq_of_testBit_eq
  intro i
  rw [Nat.testBit_or, Nat.testBit_xor]
  cases i with
  | zero =>
    have h0 : m.testBit 0 = false := by simp [Nat.testBit_zero]; omega
    rw [h0]; simp
  | succ i =>
    have h0 : b.testBit (i + 1) = false := by
      rw [Nat.testBit_succ]
      have : b / 2 = 0 := by omega
      rw [this]; simp
    rw [h0]; simp
/-- A bit laid at the register's foot, which is free behind a shift. -/
theorem or_bit (r : BitVec 16) (b : Nat) (hb : b < 2) : bits .or .u16 (IntKind.u16.wrap ((r.toNat : Int) * 2)) (b : Int) = (((r <<< 1) ^^^ BitVec.ofNat 16 b).toNat : Int) := by
  rw [shl_nat, u16_or_nat _ _ (lt16 _) (by omega), BitVec.toNat_xor, BitVec.toNat_ofNat, Nat.mod_eq_of_lt (by omega)]
  congr 1
  rw [BitVec.toNat_shiftLeft, Nat.shiftLeft_eq]
  have hev : (r.toNat * 2 ^ 1 % 2 ^ 16) % 2 = 0 := by omega
  generalize r.toNat * 2 ^ 1 % 2 ^ 16 = m at hev
  exact or_even m b hev hb
theorem bit_nat (c j : Nat) (hc : c < 256) : bits .and .u16 (IntKind.u16.wrap ((c : Int) / 2 ^ (7 - j))) 1 = ((c / 2 ^ (7 - j) % 2 : Nat) : Int) := by
  have e : (c : Int) / 2 ^ (7 - j) = ((c / 2 ^ (7 - j) : Nat) : Int) := by simp
  have hl : c / 2 ^ (7 - j) < 256 := Nat.lt_of_le_of_lt (Nat.div_le_self _ _) hc
  rw [e]
  generalize c / 2 ^ (7 - j) = x at hl
  rw [IntKind.wrap_u16, show ((x : Int) % 65536) = (x : Int) from by omega]
  have h := u16_and_nat x 1 (by omega) (by omega)
  rw [Nat.and_one_is_mod] at h
  exact h
theorem bt_toNat (c j : Nat) : BitVec.ofNat 16 (c / 2 ^ (7 - j) % 2) = bt c j := rfl
/-- One round of the division, the top bit set. -/
theorem ld_yes {r : BitVec 16} {c j : Nat} (hc : c < 256) (h : (bits .and .u16 (r.toNat : Int) 32768 != 0) = true) :
    bits .xor .u16 (bits .or .u16 (IntKind.u16.wrap ((r.toNat : Int) * 2)) (bits .and .u16 (IntKind.u16.wrap ((c : Int) / 2 ^ (7 - j))) 1)) 4129 = ((stp r ^^^ bt c j).toNat : Int) := by
  rw [bit_nat c j hc, or_bit r _ (Nat.mod_lt _ (by omega)), bt_toNat]
  have h1 := xor_nat ((r <<< 1) ^^^ bt c j) 4129#16
  rw [stp, if_pos (top_yes h), xor4, ← h1]; rfl
/-- One round of the division, the top bit not set. -/
theorem ld_no {r : BitVec 16} {c j : Nat} (hc : c < 256) (h : (bits .and .u16 (r.toNat : Int) 32768 != 0) = false) :
    bits .or .u16 (IntKind.u16.wrap ((r.toNat : Int) * 2)) (bits .and .u16 (IntKind.u16.wrap ((c : Int) / 2 ^ (7 - j))) 1) = ((stp r ^^^ bt c j).toNat : Int) := by
  rw [bit_nat c j hc, or_bit r _ (Nat.mod_lt _ (by omega)), bt_toNat, stp, if_neg (by rw [top_no h]; simp)]
end Go.Proofs.Qxb6603872aMods
