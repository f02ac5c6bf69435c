/- The plain law of the messages: what the printed functions of both sides (the package's wire format, the reference's) compute is one list of bytes. -/
import Derived.Test.YtlnknihjccdgkaaPFnMessagex
namespace Go.Proofs.Ytlnknihjccdgkaa.M
open Go.RowKit Go.Proofs.YtlnknihjccdgkaaW.PrintWords Go.Proofs.YtlnknihjccdgkaaW.PrintLast Go.Proofs.YtlnknihjccdgkaaW.PrintMore Go.Proofs.Ytlnknihjccdgkaa.PFnMessage
set_option linter.unusedVariables false
set_option linter.unusedSimpArgs false

theorem qA {α : Type} (l : List α) (i : Nat) (a : α) : l.toArray.setIfInBounds i a = (l.set i a).toArray := List.setIfInBounds_toArray l i a
theorem q0 {α : Type} {x a : α} {xs : List α} : (x :: xs).set 0 a = a :: xs := rfl
theorem qS {α : Type} {x a : α} {xs : List α} {i : Nat} : (x :: xs).set (i + 1) a = x :: xs.set i a := rfl
/-- A number in sevens of bits. -/
def uv (n : Nat) : List Int := if n < 128 then [(n : Int)] else ((n % 128 + 128 : Nat) : Int) :: uv (n / 128)
  termination_by n
  decreasing_by omega

theorem uv_small {n : Nat} (h : n < 128) : uv n = [(n : Int)] := by rw [uv, if_pos h]
theorem uv_big {n : Nat} (h : ¬ n < 128) : uv n = ((n % 128 + 128 : Nat) : Int) :: uv (n / 128) := by rw [uv, if_neg h]
theorem uv_len : ∀ (k n : Nat), n < 128 ^ (k + 1) → (uv n).length ≤ k + 1
  | 0, n, h => by rw [uv_small (by simpa using h)]; simp
  | k + 1, n, h => by
    by_cases hs : n < 128
    · rw [uv_small hs]; simp
    · rw [uv_big hs, List.length_cons]
      have := uv_len k (n / 128) (by rw [Nat.div_lt_iff_lt_mul (by omega)]; rw [Nat.pow_succ] at h; exact h)
      omega
theorem uv_len10 (n : Nat) (h : n < 2 ^ 64) : (uv n).length ≤ 10 := uv_len 9 n (Nat.lt_of_lt_of_le h (by decide))

theorem or128 : ∀ b : Fin 256, Go.bits .or .u8 (b.val : Int) 128 = ((b.val % 128 + 128 : Nat) : Int) := by decide +kernel
theorem or128' (n : Nat) : Go.bits .or .u8 ((n : Int) % 256) 128 = ((n % 128 + 128 : Nat) : Int) := by
  have h := or128 ⟨n % 256, Nat.mod_lt _ (by omega)⟩
  simp only at h
  rw [show ((n : Int) % 256) = ((n % 256 : Nat) : Int) from by omega, h]
  omega
theorem wraps_u64 (n : Int) (h₀ : 0 ≤ n) (h₁ : n < 2 ^ 64) : IntKind.u64.wrap n = n := by
  simp [IntKind.wrap, IntKind.bits, IntKind.signed]; omega
theorem and127 (n : Nat) (h : n < 2 ^ 64) : Go.bits .and .u64 (n : Int) 127 = ((n % 128 : Nat) : Int) := by
  have := bits_mask .u64 64 (by decide) (fun n a b => wraps_u64 n a b) 7 (by decide) (n : Int) (by omega) (by exact_mod_cast h)
  simp at this
  rw [this]
  omega
theorem or128s (n : Nat) (h : n < 2 ^ 64) : Go.bits .or .u8 (Go.bits .and .u64 (n : Int) 127 % 256) 128 = ((n % 128 + 128 : Nat) : Int) := by
  rw [and127 n h, or128' (n % 128), Nat.mod_mod]

theorem putUvarint_eq : ∀ (k n : Nat) (l : List Int), n < 128 ^ (k + 1) → l.length + k < 140737488355328 →
    comettypes_putUvarint.l0 (k + 1) l n = some (l ++ uv n)
  | 0, n, l, h, hl => by
    have hn : n < 128 := by simpa using h
    simp only [comettypes_putUvarint.l0]
    rw [if_neg (by omega), if_pos (by omega), uv_small hn, show (n : Int) % 256 = n from by omega]
  | k + 1, n, l, h, hl => by
    rw [comettypes_putUvarint.l0]
    by_cases hs : n < 128
    · rw [if_neg (by omega), if_pos (by omega), uv_small hs, show (n : Int) % 256 = n from by omega]
    · rw [if_pos (by omega), if_pos (by omega), or128', uv_big hs, show (n : Int) / 128 = ((n / 128 : Nat) : Int) from by omega]
      rw [putUvarint_eq k (n / 128) _ (by rw [Nat.div_lt_iff_lt_mul (by omega)]; rw [Nat.pow_succ] at h; exact h) (by simp; omega)]
      simp
theorem counted_l0 : ∀ (k n : Nat) (l : List Int), n < 128 ^ (k + 1) → n < 2 ^ 64 → l.length + k < 140737488355328 →
    spec_counted.l0 (k + 1) l n = some (l ++ uv n)
  | 0, n, l, h, _, hl => by
    have hn : n < 128 := by simpa using h
    simp only [spec_counted.l0]
    rw [if_neg (by omega), if_pos (by omega), uv_small hn, show (n : Int) % 256 = n from by omega]
  | k + 1, n, l, h, hm, hl => by
    rw [spec_counted.l0]
    by_cases hs : n < 128
    · rw [if_neg (by omega), if_pos (by omega), uv_small hs, show (n : Int) % 256 = n from by omega]
    · rw [if_pos (by omega), if_pos (by omega), or128s _ hm, uv_big hs, show (n : Int) / 128 = ((n / 128 : Nat) : Int) from by omega]
      rw [counted_l0 k (n / 128) _ (by rw [Nat.div_lt_iff_lt_mul (by omega)]; rw [Nat.pow_succ] at h; exact h) (by omega) (by simp; omega)]
      simp

/-- What an int is as a u64. -/
def u64 (n : Int) : Nat := (IntKind.u64.wrap n).toNat
theorem wrap_u64 (n : Int) : IntKind.u64.wrap n = n % 18446744073709551616 := by simp [IntKind.wrap, IntKind.bits, IntKind.signed]
theorem u64_lt (n : Int) : u64 n < 2 ^ 64 := by unfold u64; rw [wrap_u64]; omega
theorem u64_cast (n : Int) : ((u64 n : Nat) : Int) = IntKind.u64.wrap n := by unfold u64; rw [wrap_u64]; omega
theorem u64_nat (n : Nat) (h : n < 2 ^ 64) : u64 (n : Int) = n := by unfold u64; rw [wrap_u64]; omega
theorem pow30 : (2 : Nat) ^ 64 ≤ 128 ^ (29 + 1) := by decide

theorem putUvarint_f (l : List Int) (n : Nat) (h : n < 2 ^ 64) (hl : l.length + 30 < 140737488355328) : comettypes_putUvarint.f 30 l n = some (l ++ uv n) :=
  putUvarint_eq 29 n l (Nat.lt_of_lt_of_le h pow30) (by omega)
theorem counted_f (n : Int) : spec_counted.f 30 n = some (uv (u64 n)) := by
  unfold spec_counted.f
  rw [← u64_cast, counted_l0 29 (u64 n) [] (Nat.lt_of_lt_of_le (u64_lt n) pow30) (u64_lt n) (by simp)]
  simp

/-! ### fields -/
def num (f : Nat) (v : Int) : List Int := if v = 0 then [] else ((f * 8 : Nat) : Int) :: uv (u64 v)
def by8 (v : Int) (n : Nat) : List Int := (List.range n).map fun i => (shr .u64 (IntKind.u64.wrap v) ((8 * i : Nat) : Int)) % 256
def fix8 (f : Nat) (v : Int) : List Int := if v = 0 then [] else ((f * 8 + 1 : Nat) : Int) :: by8 v 8
def wit (f : Nat) (m : List Int) : List Int := ((f * 8 + 2 : Nat) : Int) :: (uv m.length ++ m)
def som (f : Nat) (m : List Int) : List Int := if m.length = 0 then [] else wit f m

theorem num_len (f : Nat) (v : Int) : (num f v).length ≤ 11 := by
  unfold num
  split
  · simp
  · have := uv_len10 (u64 v) (u64_lt v); simp; omega
theorem by8_len (v : Int) (n : Nat) : (by8 v n).length = n := by simp [by8]
theorem fix8_len (f : Nat) (v : Int) : (fix8 f v).length ≤ 9 := by
  unfold fix8
  split
  · simp
  · simp [by8_len]
theorem wit_len (f : Nat) (m : List Int) (h : m.length < 2 ^ 64) : (wit f m).length ≤ m.length + 11 := by
  have := uv_len10 m.length h
  simp [wit]; omega
theorem som_len (f : Nat) (m : List Int) (h : m.length < 2 ^ 64) : (som f m).length ≤ m.length + 11 := by
  unfold som
  split
  · simp
  · exact wit_len f m h

theorem w64 (n : Int) (h0 : -9223372036854775808 ≤ n) (h1 : n < 9223372036854775808) : wrap64 n = n := by unfold wrap64; omega
theorem u64_zero (v : Int) (h0 : -9223372036854775808 ≤ v) (h1 : v < 9223372036854775808) : IntKind.u64.wrap v = 0 ↔ v = 0 := by rw [wrap_u64]; omega

theorem putNumber_f (l : List Int) (f : Nat) (v : Int) (hf : f < 16) (h0 : -9223372036854775808 ≤ v) (h1 : v < 9223372036854775808) (hl : l.length + 40 < 140737488355328) :
    comettypes_putNumber.f 30 l f (IntKind.u64.wrap v) = some (l ++ num f v) := by
  unfold comettypes_putNumber.f num
  by_cases hv : v = 0
  · rw [if_pos ((u64_zero v h0 h1).2 hv), if_pos hv, List.append_nil]
  · rw [if_neg (fun h => hv ((u64_zero v h0 h1).1 h)), if_neg hv, if_pos (by omega), w64 _ (by omega) (by omega)]
    rw [← u64_cast, putUvarint_f _ _ (u64_lt v) (by simp; omega)]
    simp; omega
theorem number_f (f : Nat) (v : Int) (hf : f < 16) (h0 : -9223372036854775808 ≤ v) (h1 : v < 9223372036854775808) : spec_number.f 30 f v = some (num f v) := by
  unfold spec_number.f num
  by_cases hv : v = 0
  · rw [if_pos hv, if_pos hv]
  · rw [if_neg hv, if_neg hv, w64 _ (by omega) (by omega), counted_f, counted_f]
    have e : u64 ((f : Int) * 8) = f * 8 := by rw [show (f : Int) * 8 = ((f * 8 : Nat) : Int) from by omega, u64_nat _ (by omega)]
    have := uv_len10 (u64 v) (u64_lt v)
    simp only [Option.bind_some, e]
    rw [uv_small (by omega : f * 8 < 128), if_pos (by simp; omega)]
    simp
theorem or1 : ∀ f : Fin 16, Go.bits .or .i64 (wrap64 ((f.val : Int) * 8)) 1 = ((f.val * 8 + 1 : Nat) : Int) := by decide +kernel
theorem or2 : ∀ f : Fin 16, Go.bits .or .i64 (wrap64 ((f.val : Int) * 8)) 2 = ((f.val * 8 + 2 : Nat) : Int) := by decide +kernel

theorem putFixed_l0 (v : Int) : ∀ (d k i : Nat) (l : List Int), i + d = 8 → d < k → l.length + 8 < 140737488355328 + i →
    comettypes_putFixed.l0 k l v i = some (l ++ ((List.range' i d).map fun i => (shr .u64 (IntKind.u64.wrap v) ((8 * i : Nat) : Int)) % 256))
  | 0, k, i, l, hi, hk, hl => by
    obtain ⟨k, rfl⟩ : ∃ m, k = m + 1 := ⟨k - 1, by omega⟩
    rw [comettypes_putFixed.l0, if_neg (by omega)]
    simp
  | d + 1, k, i, l, hi, hk, hl => by
    obtain ⟨k, rfl⟩ : ∃ m, k = m + 1 := ⟨k - 1, by omega⟩
    rw [comettypes_putFixed.l0, if_pos (by omega), w64 (8 * (i : Int)) (by omega) (by omega), if_pos (by omega), if_pos (by omega), w64 ((i : Int) + 1) (by omega) (by omega)]
    rw [show (i : Int) + 1 = ((i + 1 : Nat) : Int) from by omega, putFixed_l0 v d k (i + 1) _ (by omega) (by omega) (by simp; omega)]
    rw [List.range'_succ]
    simp
theorem putFixed_f (l : List Int) (f : Nat) (v : Int) (hf : f < 16) (hl : l.length + 40 < 140737488355328) : comettypes_putFixed.f 30 l f v = some (l ++ fix8 f v) := by
  unfold comettypes_putFixed.f fix8
  by_cases hv : v = 0
  · rw [if_pos hv, if_pos hv, List.append_nil]
  · rw [if_neg hv, if_neg hv, if_pos (by omega)]
    have e := or1 ⟨f, hf⟩
    simp only at e
    rw [e, show (0 : Int) = ((0 : Nat) : Int) from rfl, putFixed_l0 v 8 30 0 _ (by omega) (by omega) (by simp; omega)]
    rw [by8, List.range_eq_range']
    simp; omega
theorem fixed_l0 (v : Int) : ∀ (d k i : Nat) (l : List Int), i + d = 8 → d < k → l.length + 8 < 140737488355328 + i →
    spec_fixed.l0 k v l i = some (l ++ ((List.range' i d).map fun i => (shr .u64 (IntKind.u64.wrap v) ((8 * i : Nat) : Int)) % 256))
  | 0, k, i, l, hi, hk, hl => by
    obtain ⟨k, rfl⟩ : ∃ m, k = m + 1 := ⟨k - 1, by omega⟩
    rw [spec_fixed.l0, if_neg (by omega)]
    simp
  | d + 1, k, i, l, hi, hk, hl => by
    obtain ⟨k, rfl⟩ : ∃ m, k = m + 1 := ⟨k - 1, by omega⟩
    rw [spec_fixed.l0, if_pos (by omega), w64 (8 * (i : Int)) (by omega) (by omega), if_pos (by omega), if_pos (by omega), w64 ((i : Int) + 1) (by omega) (by omega)]
    rw [show (i : Int) + 1 = ((i + 1 : Nat) : Int) from by omega, fixed_l0 v d k (i + 1) _ (by omega) (by omega) (by simp; omega)]
    rw [List.range'_succ]
    simp
theorem fixed_f (f : Nat) (v : Int) (hf : f < 15) : spec_fixed.f 30 f v = some (fix8 f v) := by
  unfold spec_fixed.f fix8
  by_cases hv : v = 0
  · rw [if_pos hv, if_pos hv]
  · rw [if_neg hv, if_neg hv]
    have e := or1 ⟨f, by omega⟩
    simp only at e
    rw [e, counted_f, u64_nat _ (by omega), uv_small (by omega)]
    simp only [Option.bind_some]
    rw [show (0 : Int) = ((0 : Nat) : Int) from rfl, fixed_l0 v 8 30 0 _ (by omega) (by omega) (by simp)]
    rw [by8, List.range_eq_range']
    simp
theorem putMessage_f (l : List Int) (f : Nat) (m : List Int) (hf : f < 15) (hl : l.length + m.length + 40 < 140737488355328) : comettypes_putMessage.f 30 l f m = some (l ++ wit f m) := by
  unfold comettypes_putMessage.f wit
  have e := or2 ⟨f, by omega⟩
  simp only at e
  rw [if_pos (by omega), e, wrap_u64, show ((m.length : Int)) % 18446744073709551616 = (m.length : Int) from by omega, putUvarint_f _ _ (by omega) (by simp; omega)]
  have := uv_len10 m.length (by omega)
  simp only [Option.bind_some]
  rw [if_pos (by simp; omega)]
  simp; omega
theorem within_f (f : Nat) (m : List Int) (hf : f < 15) (hl : m.length + 40 < 140737488355328) : spec_within.f 30 f m = some (wit f m) := by
  unfold spec_within.f wit
  have e := or2 ⟨f, by omega⟩
  simp only at e
  have := uv_len10 m.length (by omega)
  rw [e, counted_f, counted_f, u64_nat _ (by omega), u64_nat _ (by omega), uv_small (by omega)]
  simp only [Option.bind_some]
  rw [if_pos (by simp; omega), if_pos (by simp; omega)]
  simp
theorem putText_f (l : List Int) (f : Nat) (m : List Int) (hf : f < 15) (hl : l.length + m.length + 40 < 140737488355328) : comettypes_putText.f 30 l f m = some (l ++ som f m) := by
  unfold comettypes_putText.f som
  by_cases h : m.length = 0
  · rw [if_pos (by omega), if_pos h, List.append_nil]
  · rw [if_neg (by omega), if_neg h, putMessage_f l f m hf hl]; rfl
theorem some_f (f : Nat) (m : List Int) (hf : f < 15) (hl : m.length + 40 < 140737488355328) : spec_some.f 30 f m = some (som f m) := by
  unfold spec_some.f som
  by_cases h : m.length = 0
  · rw [if_pos (by omega), if_pos h]
  · rw [if_neg (by omega), if_neg h, within_f f m hf hl]; rfl
theorem delimited_f (m : List Int) (hl : m.length + 40 < 140737488355328) : comettypes_delimited.f 30 m = some (uv m.length ++ m) := by
  unfold comettypes_delimited.f
  have := uv_len10 m.length (by omega)
  rw [wrap_u64, show ((m.length : Int)) % 18446744073709551616 = (m.length : Int) from by omega, putUvarint_f _ _ (by omega) (by simp)]
  simp only [Option.bind_some]
  rw [if_pos (by simp; omega)]
  simp

theorem joined_l0 (ls : List (List Int)) (hn : ls.length < 1000) (ht : ls.flatten.length < 140737488355328) : ∀ (d k i : Nat) (l : List Int), i + d = ls.length → d < k → l = (ls.take i).flatten →
    spec_joined.l0 k l ls ls.length i = some ls.flatten
  | 0, k, i, l, hi, hk, hl => by
    obtain ⟨k, rfl⟩ : ∃ m, k = m + 1 := ⟨k - 1, by omega⟩
    rw [spec_joined.l0, if_neg (by omega), hl, List.take_of_length_le (by omega)]
  | d + 1, k, i, l, hi, hk, hl => by
    obtain ⟨k, rfl⟩ : ∃ m, k = m + 1 := ⟨k - 1, by omega⟩
    have hlt : i < ls.length := by omega
    have er : rd_L1 ls i = ls[i] := by unfold rd_L1; simp [List.getD_eq_getElem?_getD, List.getElem?_eq_getElem hlt]
    have et : l ++ ls[i] = (ls.take (i + 1)).flatten := by rw [List.take_succ_eq_append_getElem hlt, List.flatten_append, ← hl]; simp
    have hle : (l ++ ls[i]).length ≤ ls.flatten.length := by
      rw [et]
      have : ls.flatten = (ls.take (i + 1)).flatten ++ (ls.drop (i + 1)).flatten := by rw [← List.flatten_append, List.take_append_drop]
      rw [this, List.length_append]; omega
    rw [List.length_append] at hle
    rw [spec_joined.l0, if_pos (by omega), if_pos (by omega), if_pos (by omega), er, if_pos (by omega), w64 ((i : Int) + 1) (by omega) (by omega), show (i : Int) + 1 = ((i + 1 : Nat) : Int) from by omega]
    exact joined_l0 ls hn ht d k (i + 1) _ (by omega) (by omega) et
theorem joined_f (ls : List (List Int)) (hn : ls.length < 30) (ht : ls.flatten.length < 140737488355328) : spec_joined.f 30 ls = some ls.flatten := by
  unfold spec_joined.f
  exact joined_l0 ls (by omega) ht ls.length 30 0 [] (by omega) (by omega) rfl

/-! ### the messages -/
def timeB (s n : Int) : List Int := num 1 s ++ num 2 n
def blockB (sum : List Int) (parts : Int) (root : List Int) : List Int := som 1 sum ++ wit 2 (num 1 parts ++ som 2 root)
def body (chain : List Int) (kind height round : Int) (id : List Int) (s n : Int) : List Int :=
  num 1 kind ++ fix8 2 height ++ fix8 3 round ++ id ++ wit 5 (timeB s n) ++ som 6 chain
def delim (m : List Int) : List Int := uv m.length ++ m

theorem timeB_len (s n : Int) : (timeB s n).length ≤ 22 := by
  have := num_len 1 s; have := num_len 2 n
  simp [timeB]; omega
theorem blockB_len (sum : List Int) (parts : Int) (root : List Int) (h : sum.length + root.length < 2 ^ 60) : (blockB sum parts root).length ≤ sum.length + root.length + 50 := by
  have h1 := som_len 1 sum (by omega)
  have h2 := num_len 1 parts
  have h3 := som_len 2 root (by omega)
  have h4 := wit_len 2 (num 1 parts ++ som 2 root) (by simp; omega)
  rw [List.length_append] at h4
  simp [blockB]; omega
theorem Moment_Bytes_f (s n : Int) (h0 : -9223372036854775808 ≤ s) (h1 : s < 9223372036854775808) (h2 : -9223372036854775808 ≤ n) (h3 : n < 9223372036854775808) : spec_Moment_Bytes.f 30 s n = some (timeB s n) := by
  have := num_len 1 s; have := num_len 2 n
  unfold spec_Moment_Bytes.f
  rw [show (1 : Int) = ((1 : Nat) : Int) from rfl, show (2 : Int) = ((2 : Nat) : Int) from rfl, number_f 1 s (by omega) h0 h1, number_f 2 n (by omega) h2 h3]
  simp only [Option.bind_some]
  rw [joined_f _ (by simp) (by simp; omega)]
  simp [timeB]
theorem Time_Marshal_f (s n : Int) (h0 : -9223372036854775808 ≤ s) (h1 : s < 9223372036854775808) (h2 : -2147483648 ≤ n) (h3 : n < 2147483648) : comettypes_Time_Marshal.f 30 (wrap64 (s + 62135596800)) n = some (timeB s n) := by
  unfold comettypes_Time_Marshal.f comettypes_Time_Unix.f
  simp only [Option.bind_some]
  rw [show wrap64 (wrap64 (s + 62135596800) - 62135596800) = s from by unfold wrap64; omega, show (1 : Int) = ((1 : Nat) : Int) from rfl, show (2 : Int) = ((2 : Nat) : Int) from rfl, putNumber_f [] 1 s (by omega) h0 h1 (by simp)]
  have := num_len 1 s
  simp only [Option.bind_some, List.nil_append]
  rw [w64 n (by omega) (by omega), putNumber_f _ 2 n (by omega) (by omega) (by omega) (by omega)]
  simp [timeB]
theorem Block_Bytes_f (sum : List Int) (parts : Int) (root : List Int) (h0 : -9223372036854775808 ≤ parts) (h1 : parts < 9223372036854775808) (h : sum.length + root.length < 2 ^ 40) : spec_Block_Bytes.f 30 sum parts root = some (blockB sum parts root) := by
  have l1 := som_len 1 sum (by omega)
  have l2 := num_len 1 parts
  have l3 := som_len 2 root (by omega)
  have l4 := wit_len 2 (num 1 parts ++ som 2 root) (by simp; omega)
  rw [List.length_append] at l4
  unfold spec_Block_Bytes.f
  rw [show (1 : Int) = ((1 : Nat) : Int) from rfl, show (2 : Int) = ((2 : Nat) : Int) from rfl, some_f 1 sum (by omega) (by omega), number_f 1 parts (by omega) h0 h1, some_f 2 root (by omega) (by omega)]
  simp only [Option.bind_some]
  rw [joined_f _ (by simp) (by simp; omega)]
  simp only [Option.bind_some, List.flatten_cons, List.flatten_nil, List.append_nil]
  rw [within_f 2 _ (by omega) (by simp; omega)]
  simp only [Option.bind_some]
  rw [joined_f _ (by simp) (by simp; omega)]
  simp [blockB]
end Go.Proofs.Ytlnknihjccdgkaa.M
