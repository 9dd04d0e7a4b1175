/-
  THE PLAIN LAWS over the seat b6615140aD: multiplication by an odd number and by its inverse, modulo 2^64. No Go in sight.
-/
import Derived.Laws.Bits64
namespace Go.Proofs.Qxb6615140aDoor

theorem pl_back (k S I M : Int) (h : S * I % M = 1) (h0 : 0 ≤ k) (h1 : k < M) : (k * S % M * I) % M = k := by
  rw [Int.mul_emod (k * S % M) I M, Int.emod_emod, ← Int.mul_emod, Int.mul_assoc, Int.mul_emod, h, Int.mul_one, Int.emod_emod, Int.emod_eq_of_lt h0 h1]
theorem pl_add (a b S M : Int) : ((a + b) % M * S) % M = (a * S % M + b * S % M) % M := by
  rw [Int.mul_emod ((a + b) % M) S M, Int.emod_emod, ← Int.mul_emod, Int.add_mul, ← Int.add_emod]
theorem pl_diff (a b S I M : Int) (h : S * I % M = 1) : ((b * S % M - a * S % M) % M * I) % M = (b - a) % M := by
  rw [← Int.sub_emod, ← Int.sub_mul, Int.mul_emod ((b - a) * S % M) I M, Int.emod_emod, ← Int.mul_emod, Int.mul_assoc, Int.mul_emod, h, Int.mul_one, Int.emod_emod]
theorem pl_shift (a d S I M : Int) (h : S * I % M = 1) : ((a + d * S % M) % M * I) % M = (a * I % M + d) % M := by
  rw [Int.add_emod_emod, Int.mul_emod ((a + d * S) % M) I M, Int.emod_emod, ← Int.mul_emod, Int.add_mul, Int.mul_assoc, Int.add_emod, Int.mul_emod d (S * I) M, h, Int.mul_one, Int.emod_emod, Int.add_emod_emod, Int.emod_add_emod]

/-- 'step' and 'inverse' of the Go text. -/
def stepN : Int := 11400714819323198485
def invN : Int := 17428512612931826493
/-- What Key and Index give. -/
def keyF (k : Int) : Int := IntKind.u64.wrap (k * 11400714819323198485)
def idxF (k : Int) : Int := IntKind.u64.wrap (k * 17428512612931826493)
theorem step_inv : stepN * invN % 18446744073709551616 = 1 := by decide +kernel
theorem inv_step : invN * stepN % 18446744073709551616 = 1 := by decide +kernel
theorem keyF_eq (k : Int) : keyF k = k * stepN % 18446744073709551616 := by unfold keyF stepN; rw [IntKind.wrap_u64]
theorem idxF_eq (k : Int) : idxF k = k * invN % 18446744073709551616 := by unfold idxF invN; rw [IntKind.wrap_u64]

theorem idx_key (k : Int) (h0 : 0 ≤ k) (h1 : k < 18446744073709551616) : idxF (keyF k) = k := by
  rw [idxF_eq, keyF_eq]; exact pl_back k _ _ _ step_inv h0 h1
theorem key_idx (k : Int) (h0 : 0 ≤ k) (h1 : k < 18446744073709551616) : keyF (idxF k) = k := by
  rw [idxF_eq, keyF_eq]; exact pl_back k _ _ _ inv_step h0 h1
theorem key_add (a b : Int) : keyF (IntKind.u64.wrap (a + b)) = IntKind.u64.wrap (keyF a + keyF b) := by
  rw [keyF_eq, keyF_eq, keyF_eq, IntKind.wrap_u64, IntKind.wrap_u64]; exact pl_add a b _ _
theorem idx_diff (a b : Int) : idxF (IntKind.u64.wrap (keyF b - keyF a)) = IntKind.u64.wrap (b - a) := by
  rw [idxF_eq, keyF_eq, keyF_eq, IntKind.wrap_u64, IntKind.wrap_u64]; exact pl_diff a b _ _ _ step_inv
theorem idx_shift (a d : Int) : idxF (IntKind.u64.wrap (a + keyF d)) = IntKind.u64.wrap (idxF a + d) := by
  rw [idxF_eq, idxF_eq, keyF_eq, IntKind.wrap_u64, IntKind.wrap_u64]; exact pl_shift a d _ _ _ step_inv

end Go.Proofs.Qxb6615140aDoor
