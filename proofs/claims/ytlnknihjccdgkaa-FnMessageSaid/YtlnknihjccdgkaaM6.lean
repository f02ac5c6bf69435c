/- The walks of the message functions, on: the reference's Message. -/
import Derived.Test.YtlnknihjccdgkaaM5
namespace Go.Proofs.Ytlnknihjccdgkaa.M
open Go.RowKit Go.Proofs.YtlnknihjccdgkaaW.PrintWords Go.Proofs.YtlnknihjccdgkaaW.PrintLast Go.Proofs.YtlnknihjccdgkaaW.PrintMore Go.Proofs.Ytlnknihjccdgkaa.PFnMessage
set_option linter.unusedVariables false
set_option linter.unusedSimpArgs false

theorem C_slices {w : World} {g : Nat} {cs : List Value} {ty : Nat} {ls : List (List Int)} (hg : w.heap[g]? = some (.cells cs.toArray ty (0, 0))) (h : ∀ (j : Nat) (l : List Int), ls[j]? = some l → ∃ v, cs[j]? = some v ∧ RdB w v l) (hn : ls.length ≤ 9223372036854775807) :
    Kd.C (Kd.slice 5 (Kd.int .u8)) w (some ⟨g, 0, none⟩) ls.length ls := by
  refine ⟨rfl, hn, fun _ => ⟨_, rfl, fun j l hj => ?_⟩⟩
  obtain ⟨v, hv, A, c, rfl, hl, hr⟩ := h j l hj
  refine ⟨[.slice A l.length c], rfl, ⟨A, c, rfl, hl, hr⟩, fun i u hu => ?_⟩
  cases i with
  | zero =>
    simp only [List.getElem?_cons_zero, Option.some.injEq] at hu
    subst hu
    rw [show j * (Kd.slice 5 (Kd.int .u8)).sz + 0 = j from Nat.mul_one j, add_plain, blk_cell hg j]
    simpa using hv
  | succ i => simp at hu

section
variable (w : World)
theorem number_c (f : Nat) (x : Int) (hf : f < 16) (h0 : -9223372036854775808 ≤ x) (h1 : x < 9223372036854775808) : Calls Try.prog 16 #[.int .i64 f, .int .i64 x] w (Chain w (num f x)) :=
  (spec_number.calls 30 f x _ w (number_f f x hf h0 h1)).mono fun e w' ⟨v', he, hr, hb⟩ => ⟨v', he, Own.of_R hr hb⟩
theorem fixed_c (f : Nat) (x : Int) (hf : f < 15) : Calls Try.prog 17 #[.int .i64 f, .int .i64 x] w (Chain w (fix8 f x)) :=
  (spec_fixed.calls 30 f x _ w (fixed_f f x hf)).mono fun e w' ⟨v', he, hr, hb⟩ => ⟨v', he, Own.of_R hr hb⟩
theorem within_c (f : Nat) (u : Value) (m : List Int) (hu : RdB w u m) (hf : f < 15) (hl : m.length + 40 < 140737488355328) : Calls Try.prog 13 #[.int .i64 f, u] w (Chain w (wit f m)) := by
  obtain ⟨A, c, rfl, hc, hr⟩ := hu
  exact (spec_within.calls 30 f A c m _ w hr hc (within_f f m hf hl)).mono fun e w' ⟨v', he, hr, hb⟩ => ⟨v', he, Own.of_R hr hb⟩
theorem some_c (f : Nat) (u : Value) (m : List Int) (hu : RdB w u m) (hf : f < 15) (hl : m.length + 40 < 140737488355328) : Calls Try.prog 19 #[.int .i64 f, u] w (Chain w (som f m)) := by
  obtain ⟨A, c, rfl, hc, hr⟩ := hu
  exact (spec_some.calls 30 f A c m _ w hr hc (some_f f m hf hl)).mono fun e w' ⟨v', he, hr, hb⟩ => ⟨v', he, Own.of_R hr hb⟩
theorem counted_c (x : Int) : Calls Try.prog 20 #[.int .i64 x] w (Chain w (uv (u64 x))) :=
  (spec_counted.calls 30 x _ w (counted_f x)).mono fun e w' ⟨v', he, hr, hb⟩ => ⟨v', he, Own.of_R hr hb⟩
theorem mbytes_c (s n : Int) (h0 : -9223372036854775808 ≤ s) (h1 : s < 9223372036854775808) (h2 : -9223372036854775808 ≤ n) (h3 : n < 9223372036854775808) : Calls Try.prog 18 #[.agg #[.int .i64 s, .int .i64 n]] w (Chain w (timeB s n)) :=
  (spec_Moment_Bytes.calls 30 s n _ w (Moment_Bytes_f s n h0 h1 h2 h3)).mono fun e w' ⟨v', he, hr, hb⟩ => ⟨v', he, Own.of_R hr hb⟩
theorem joined_c (A : Option Addr) (c : Nat) (ls : List (List Int)) (h : Kd.C (Kd.slice 5 (Kd.int .u8)) w A ls.length ls) (hc : ls.length ≤ c) (hn : ls.length < 30) (ht : ls.flatten.length < 140737488355328) : Calls Try.prog 15 #[.slice A ls.length c] w (Chain w ls.flatten) :=
  (spec_joined.calls 30 A c ls _ w h hc (joined_f ls hn ht)).mono fun e w' ⟨v', he, hr, hb⟩ => ⟨v', he, Own.of_R hr hb⟩
theorem bbytes_c (v1 : Value) (p : Int) (v2 : Value) (l1 l2 : List Int) (h1 : RdB w v1 l1) (h2 : RdB w v2 l2) (h0 : -9223372036854775808 ≤ p) (hp : p < 9223372036854775808) (h : l1.length + l2.length < 2 ^ 40) : Calls Try.prog 14 #[.agg #[v1, .int .i64 p, v2]] w (Chain w (blockB l1 p l2)) := by
  obtain ⟨A, c, rfl, hc, hr⟩ := h1
  obtain ⟨A2, c2, rfl, hc2, hr2⟩ := h2
  exact (spec_Block_Bytes.calls 30 A c l1 p A2 c2 l2 _ w hr hc hr2 hc2 (Block_Bytes_f l1 p l2 h0 hp h)).mono fun e w' ⟨v', he, hr, hb⟩ => ⟨v', he, Own.of_R hr hb⟩
theorem none_c (v1 : Value) (p : Int) (v2 : Value) (ob : Option (List Int × Int × List Int)) (hI : IdOk w v1 p v2 ob) : Calls Try.prog 12 #[.agg #[v1, .int .i64 p, v2]] w fun e w' => e = .returned (.bool ob.isNone) ∧ Below w.heap.size w w' := by
  rcases ob with _ | ⟨l1, q, l2⟩
  · obtain ⟨⟨A, c, rfl, hc, hr⟩, rfl, A2, c2, rfl, hc2, hr2⟩ := hI
    exact spec_Block_None.calls A c [] 0 A2 c2 [] true w hr hc hr2 hc2 (by simp [spec_Block_None.f])
  · obtain ⟨⟨A, c, rfl, hc, hr⟩, rfl, ⟨A2, c2, rfl, hc2, hr2⟩, h1, h2, _⟩ := hI
    exact spec_Block_None.calls A c l1 p A2 c2 l2 false w hr hc hr2 hc2 (by unfold spec_Block_None.f; rw [if_neg (by omega)])
end
end Go.Proofs.Ytlnknihjccdgkaa.M
