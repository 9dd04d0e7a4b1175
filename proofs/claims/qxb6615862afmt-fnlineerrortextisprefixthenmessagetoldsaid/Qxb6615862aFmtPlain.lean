/-
  THE PLAIN LAWS over the decimal numeral, for zzb1Itoa's loop. No Go in sight.
-/
import Derived.Lib.ItoaLen
namespace Go.Proofs.Qxb6615862aFmt
open Go.Lib

/-- The digits of v; none for 0. -/
def dd (v : Nat) : List UInt8 := if v = 0 then [] else decDigits v
theorem dd_zero : dd 0 = [] := rfl
theorem dd_pos {v : Nat} (h : 0 < v) : dd v = decDigits v := by unfold dd; rw [if_neg (by omega)]
theorem dd_step {v : Nat} (h : 0 < v) : dd v = dd (v / 10) ++ [UInt8.ofNat (48 + v % 10)] := by
  rw [dd_pos h]
  by_cases hs : v < 10
  · rw [decDigits, dif_pos hs, show v / 10 = 0 by omega, dd_zero, show v % 10 = v by omega]; rfl
  · rw [decDigits, dif_neg hs, dd_pos (by omega)]
theorem decDigits_ne (v : Nat) : 1 ≤ (decDigits v).length := by
  rw [decDigits_length]
  by_cases h : v < 10
  · rw [nDigits_small h]; omega
  · rw [nDigits_big h]; omega
theorem dd_len_pos {v : Nat} (h : 0 < v) : 1 ≤ (dd v).length := by rw [dd_pos h]; exact decDigits_ne v
theorem dd_len_le {u : Nat} (h : u ≤ 9223372036854775808) : (dd u).length ≤ 21 := by
  by_cases h0 : u = 0
  · subst h0; simp [dd_zero]
  · rw [dd_pos (by omega)]
    have := itoa_length_le (-(u : Int)) (by omega) (by omega)
    rw [itoa_neg u (by omega), List.length_cons] at this
    omega
/-- One round's digit, put ahead of those that are laid already. -/
theorem dd_round {U v : Nat} {ds : List UInt8} (h : 0 < v) (e : dd U = dd v ++ ds) : dd U = dd (v / 10) ++ UInt8.ofNat (48 + v % 10) :: ds := by
  rw [e, dd_step h]; simp
theorem dd_room {U v : Nat} {ds : List UInt8} (hU : U ≤ 9223372036854775808) (h : 0 < v) (e : dd U = dd v ++ ds) : ds.length ≤ 20 := by
  have a := dd_len_le hU; have b := dd_len_pos h; rw [e, List.length_append] at a; omega
theorem dd_room' {U v : Nat} {ds : List UInt8} (hU : U ≤ 9223372036854775808) (e : dd U = dd v ++ ds) : ds.length ≤ 21 := by
  have a := dd_len_le hU; rw [e, List.length_append] at a; omega
theorem digit_toNat (v : Nat) : ((UInt8.ofNat (48 + v % 10)).toNat : Int) = 48 + (v : Int) % 10 := by
  rw [UInt8.toNat_ofNat']; omega
end Go.Proofs.Qxb6615862aFmt
