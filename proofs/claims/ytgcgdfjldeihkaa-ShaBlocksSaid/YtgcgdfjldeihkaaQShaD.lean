/- What the functions that are walked by hand answer (sha, slices of bytes). -/
import Derived.Test.YtgcgdfjldeihkaaQt
import Derived.KernelRfl
namespace Go.Proofs.Ytgcgdfjldeihkaa
open Pv
set_option linter.unusedVariables false
def P64N : List Nat := [2, 3, 5, 7, 11, 13, 17, 19, 23, 29, 31, 37, 41, 43, 47, 53, 59, 61, 67, 71, 73, 79, 83, 89, 97, 101, 103, 107, 109, 113, 127, 131, 137, 139, 149, 151, 157, 163, 167, 173, 179, 181, 191, 193, 197, 199, 211, 223, 227, 229, 233, 239, 241, 251, 257, 263, 269, 271, 277, 281, 283, 293, 307, 311]
def P64 : List Int := P64N.map fun (n : Nat) => (n : Int)
def K64 : List Int := [1116352408, 1899447441, 3049323471, 3921009573, 961987163, 1508970993, 2453635748, 2870763221, 3624381080, 310598401, 607225278, 1426881987, 1925078388, 2162078206, 2614888103, 3248222580, 3835390401, 4022224774, 264347078, 604807628, 770255983, 1249150122, 1555081692, 1996064986, 2554220882, 2821834349, 2952996808, 3210313671, 3336571891, 3584528711, 113926993, 338241895, 666307205, 773529912, 1294757372, 1396182291, 1695183700, 1986661051, 2177026350, 2456956037, 2730485921, 2820302411, 3259730800, 3345764771, 3516065817, 3600352804, 4094571909, 275423344, 430227734, 506948616, 659060556, 883997877, 958139571, 1322822218, 1537002063, 1747873779, 1955562222, 2024104815, 2227730452, 2361852424, 2428436474, 2756734187, 3204031479, 3329325298]
def H8 : List Int := [1779033703, 3144134277, 1013904242, 2773480762, 1359893119, 2600822924, 528734635, 1541459225]
/-- How many primes stand below a number; which. -/
def mN (p : Nat) : Nat := (P64N.filter fun q => decide (q < p)).length
def rowP (p : Nat) : List Nat := P64N.take (mN p)
def divs (p : Nat) (l : List Nat) : Bool := l.any fun q => p % q == 0
theorem tabP : (List.range 310).all (fun i => decide (mN (i + 2) < 64) && (cond (divs (i + 2) (rowP (i + 2))) (mN (i + 3) == mN (i + 2)) (P64N[mN (i + 2)]? == some (i + 2) && mN (i + 3) == mN (i + 2) + 1))) = true := by kernel_rfl
theorem p_end : mN 312 = 64 := by kernel_rfl
theorem p_start : mN 2 = 0 := by kernel_rfl
theorem p_step {p : Nat} (h2 : 2 ≤ p) (h : p ≤ 311) : mN p < 64 ∧ (divs p (rowP p) = true → mN (p + 1) = mN p) ∧ (divs p (rowP p) = false → mN (p + 1) = mN p + 1 ∧ rowP (p + 1) = rowP p ++ [p]) := by
  have := List.all_eq_true.1 tabP (p - 2) (List.mem_range.2 (by omega))
  rw [show p - 2 + 2 = p by omega, show p - 2 + 3 = p + 1 by omega, Bool.and_eq_true, decide_eq_true_iff] at this
  obtain ⟨h1, h3⟩ := this
  refine ⟨h1, fun hd => ?_, fun hd => ?_⟩
  · rw [hd, cond_true, beq_iff_eq] at h3
    exact h3
  · rw [hd, cond_false, Bool.and_eq_true, beq_iff_eq, beq_iff_eq] at h3
    refine ⟨h3.2, ?_⟩
    unfold rowP
    rw [h3.2, List.take_add_one, h3.1]; rfl
theorem row_len {p : Nat} (h : p ≤ 312) (h2 : 2 ≤ p) : (rowP p).length = mN p := by
  unfold rowP
  have : mN p ≤ 64 := by
    rcases Nat.lt_or_ge p 312 with hp | hp
    · exact Nat.le_of_lt (p_step h2 (by omega)).1
    · rw [show p = 312 by omega, p_end]; exact Nat.le_refl _
  rw [List.length_take]
  have e : P64N.length = 64 := rfl
  omega
theorem row_pos {p q : Nat} (h : q ∈ rowP p) : 2 ≤ q ∧ q < 312 := by
  have h := List.mem_of_mem_take h
  have key : P64N.all (fun q => decide (2 ≤ q) && decide (q < 312)) = true := by kernel_rfl
  have := List.all_eq_true.1 key q h
  simpa using this
theorem row_end : rowP 312 = P64N := by kernel_rfl
theorem row_start : rowP 2 = [] := by kernel_rfl
def F_sha_primes_sig : Sig := ⟨[.v false [.d (.int .i64)]], [(false, [.own 36 (.int .u64)])]⟩
def F_sha_primes (n : Int) : Option (List Int) := cond (n == 64) (some P64) none
/-- Is the square (the cube) of x at most a prime? -/
def mostN (x p : Nat) (cube : Bool) : Bool :=
  cond (!cube) (decide (x * x / 18446744073709551616 < p))
    (let hi := x * x / 18446744073709551616
     let lo := x * x % 18446744073709551616
     let b := lo * x % 18446744073709551616
     let t := lo * x / 18446744073709551616 + hi * x % 18446744073709551616
     let s := t % 18446744073709551616
     ((hi * x / 18446744073709551616 + t / 18446744073709551616) % 18446744073709551616 == 0) && (decide (s / 4294967296 < p) || ((s / 4294967296 == p) && (s * 4294967296 % 18446744073709551616 == 0) && (b == 0))))
def F_slices_Clone_byte_byte_sig : Sig := ⟨[.v false [.d (.sl (.int .u8))]], [(false, [.own 5 (.int .u8)])]⟩
def F_slices_Clone_byte_byte (l : List Int) : Option (List Int) := cond (Nat.ble l.length 100000000) (some l) none
def F_bytes_Clone_sig : Sig := ⟨[.v false [.d (.sl (.int .u8))]], [(false, [.own 5 (.int .u8)])]⟩
def F_bytes_Clone (l : List Int) : Option (List Int) := cond (Nat.ble l.length 100000000) (some l) none
def F_slices_Concat_byte_byte_sig : Sig := ⟨[.v false [.d (.sl (.sl (.int .u8)))]], [(false, [.own 5 (.int .u8)])]⟩
def F_slices_Concat_byte_byte (l : List (List Int)) : Option (List Int) := cond (Nat.ble l.flatten.length 100000000 && Nat.ble l.length 100000000) (some l.flatten) none
end Go.Proofs.Ytgcgdfjldeihkaa
