/- The walks of the message functions, on: the bytes that are signed of a vote of the package. -/
import Derived.Test.YtlnknihjccdgkaaM2
namespace Go.Proofs.Ytlnknihjccdgkaa.M
open Go.RowKit Go.Proofs.YtlnknihjccdgkaaW.PrintWords Go.Proofs.YtlnknihjccdgkaaW.PrintLast Go.Proofs.YtlnknihjccdgkaaW.PrintMore Go.Proofs.Ytlnknihjccdgkaa.PFnMessage
set_option linter.unusedVariables false
set_option linter.unusedSimpArgs false

/-- A block's name: none, or a whole one. -/
def IdOk (w : World) (v1 : Value) (parts : Int) (v2 : Value) : Option (List Int × Int × List Int) → Prop
  | none => RdB w v1 [] ∧ parts = 0 ∧ RdB w v2 []
  | some (l1, p, l2) => RdB w v1 l1 ∧ parts = p ∧ RdB w v2 l2 ∧ l1.length = 32 ∧ l2.length = 32 ∧ 0 < p ∧ p < 4294967296
theorem IdOk.below {w w1 : World} {v1 v2 : Value} {p : Int} {ob : Option (List Int × Int × List Int)} (h : IdOk w v1 p v2 ob) (hb : Below w.heap.size w w1) : IdOk w1 v1 p v2 ob := by
  rcases ob with _ | ⟨l1, q, l2⟩
  · exact ⟨h.1.below hb, h.2.1, h.2.2.below hb⟩
  · exact ⟨h.1.below hb, h.2.1, h.2.2.1.below hb, h.2.2.2⟩
/-- A vote's numbers are in range. -/
structure NumOk (kind height round s ns : Int) : Prop where
  kind : 0 ≤ kind ∧ kind < 2147483648
  height : 0 ≤ height ∧ height < 9223372036854775808
  round : 0 ≤ round ∧ round < 2147483648
  s : -9223372036854775808 ≤ s ∧ s < 9223372036854775808
  ns : 0 ≤ ns ∧ ns < 2147483648
/-- The cells of a vote of the package. -/
def pvote (kind height round : Int) (v1 : Value) (parts : Int) (v2 : Value) (s ns : Int) (va : Value) (pl : Int) (sg x1 x2 : Value) : Array Value :=
  #[.int .i32 kind, .int .i64 height, .int .i32 round, v1, .int .u32 parts, v2, .int .i64 (wrap64 (s + 62135596800)), .int .i32 ns, va, .int .i32 pl, sg, x1, x2]

theorem cvoteMarshal (g : Nat) (kind height round : Int) (s ns : Int) (chain : ByteArray) (id : Option Addr) (ob : Option (List Int × Int × List Int)) (w : World)
    (hk : 0 ≤ kind ∧ kind < 2147483648) (hs : -9223372036854775808 ≤ s ∧ s < 9223372036854775808) (hn : -2147483648 ≤ ns ∧ ns < 2147483648) (hch : chain.size < 2 ^ 40) (hid : IdAt w id ob)
    (hg : w.heap[g]? = some (.cells #[.int .i32 kind, .int .i64 height, .int .i64 round, .pointer id, .int .i64 (wrap64 (s + 62135596800)), .int .i32 ns, .string chain] 63 (0, 0))) :
    Calls Try.prog 26 #[.pointer (some ⟨g, 0, none⟩)] w (Chain w (body (bytesOf chain) kind height round (idB ob) s ns)) := by
  rcases ob with _ | ⟨l1, p, l2⟩
  · obtain rfl : id = none := hid
    exact cvoteMarshal0 g kind height round s ns chain w hk hs hn hch hg
  · obtain ⟨q, u1, u2, rfl, hq, h0, h1, h2, h3⟩ := hid
    exact cvoteMarshal1 g kind height round s ns chain q u1 u2 p l1 l2 w hk hs hn hch hq ⟨h0, h1⟩ ⟨h2, h3⟩ hg
theorem idAt_of {w : World} {A : Option Addr} {n c : Nat} {parts : Int} {A2 : Option Addr} {n2 c2 : Nat} {id : Option Addr} {ob : Option (List Int × Int × List Int)} (h : CanId w A n c parts A2 n2 c2 id) (hI : IdOk w (.slice A n c) parts (.slice A2 n2 c2) ob) : IdAt w id ob := by
  rcases ob with _ | ⟨l1, p, l2⟩
  · rcases h with h | ⟨q, h1, h2, h3, h4⟩
    · exact h.1
    · obtain ⟨⟨A', c', e, _⟩, _⟩ := hI
      injection e with _ e
      simp at e
      omega
  · obtain ⟨h1, h2, h3, h4, h5, h6, h7⟩ := hI
    rcases h with ⟨_, e, _⟩ | ⟨q, e1, e2, e3, e4⟩
    · obtain ⟨A', c', e', _⟩ := h1
      injection e' with _ e'
      omega
    · subst h2
      exact ⟨q, _, _, e1, ⟨e4, h1, h3⟩, by omega, h7, h4, h5⟩
theorem delim_body_len (ch : List Int) (kind height round : Int) (ob : Option (List Int × Int × List Int)) (s ns : Int) (hI : ∀ l1 p l2, ob = some (l1, p, l2) → l1.length = 32 ∧ l2.length = 32) (hc : ch.length < 2 ^ 40) : (body ch kind height round (idB ob) s ns).length < ch.length + 400 := by
  have h1 := num_len 1 kind
  have h2 := fix8_len 2 height
  have h3 := fix8_len 3 round
  have h4 := timeB_len s ns
  have h5 := wit_len 5 (timeB s ns) (by omega)
  have h6 := som_len 6 ch (by omega)
  have h7 : (idB ob).length ≤ 150 := by
    rcases ob with _ | ⟨l1, p, l2⟩
    · simp [idB]
    · obtain ⟨e1, e2⟩ := hI l1 p l2 rfl
      have := blockB_len l1 p l2 (by omega)
      have := wit_len 4 (blockB l1 p l2) (by omega)
      simp only [idB]
      omega
  simp [body]
  omega
theorem IdOk.len {w : World} {v1 v2 : Value} {p : Int} {ob : Option (List Int × Int × List Int)} (h : IdOk w v1 p v2 ob) : ∀ l1 q l2, ob = some (l1, q, l2) → l1.length = 32 ∧ l2.length = 32 := by
  rintro l1 q l2 rfl
  exact ⟨h.2.2.2.1, h.2.2.2.2.1⟩

set_option maxHeartbeats 8000000 in
set_option maxRecDepth 100000 in
theorem vsb (chain : ByteArray) (g : Nat) (kind height round : Int) (v1 : Value) (parts : Int) (v2 : Value) (s ns : Int) (va : Value) (pl : Int) (sg x1 x2 : Value) (ob : Option (List Int × Int × List Int)) (w : World)
    (hN : NumOk kind height round s ns) (hI : IdOk w v1 parts v2 ob) (hch : chain.size < 2 ^ 40) (hg : w.heap[g]? = some (.cells (pvote kind height round v1 parts v2 s ns va pl sg x1 x2) 73 (0, 0))) :
    Calls Try.prog 10 #[.string chain, .pointer (some ⟨g, 0, none⟩)] w (Chain w (delim (body (bytesOf chain) kind height round (idB ob) s ns))) := by
  have HN := Aside0.mk hN
  have HI := Aside0.mk hI
  have HC := Aside0.mk hch
  clear hN hI hch
  obtain ⟨A, n, c, A2, n2, c2, rfl, rfl, hok⟩ : ∃ A n c A2 n2 c2, v1 = .slice A n c ∧ v2 = .slice A2 n2 c2 ∧ OkId n parts n2 := by
    have h := HI.out
    rcases ob with _ | ⟨l1, p, l2⟩
    · obtain ⟨⟨A, c, e, _⟩, e2, A2, c2, e3, _⟩ := h
      exact ⟨A, _, c, A2, _, c2, e, e3, .inl ⟨rfl, e2, rfl⟩⟩
    · obtain ⟨⟨A, c, e, _⟩, e2, ⟨A2, c2, e3, _⟩, h1, h2, _⟩ := h
      exact ⟨A, _, c, A2, _, c2, e, e3, .inr ⟨h1, h2⟩⟩
  have HK := Aside0.mk hok
  have HG := Aside0.mk hg
  clear hok hg
  go_enter Try.func10, Try.ntmps10
  go_wp2_with fail
  refine (cvote chain g kind height round A n c parts A2 n2 c2 (wrap64 (s + 62135596800)) ns va pl sg x1 x2 w (by have := HN.out.round; omega) HK.out HG.out).mono ?_
  rintro e w1 ⟨id, rfl, hb, hid⟩
  have HB1 := Aside0.mk hb
  have HID := Aside0.mk hid
  clear hb hid
  go_wp2_with fail
  have HB2 := Aside0.mk (below_alloc HB1.out (.cells #[.int .i32 kind, .int .i64 height, .int .i64 round, .pointer id, .int .i64 (wrap64 (s + 62135596800)), .int .i32 ns, .string chain] 63))
  refine (cvoteMarshal w1.heap.size kind height round s ns chain id ob _ HN.out.kind HN.out.s (by have := HN.out.ns; omega) HC.out (IdAt.below (idAt_of HID.out (HI.out.below HB1.out)) (below_alloc (Below.refl _ _) _)) (heap_alloc_new w1 _)).mono ?_
  rintro e w2 ⟨v2, rfl, ho⟩
  have HO2 := Aside0.mk ho
  clear ho
  go_wp2_with fail
  refine (delimited_c v2 _ w2 HO2.out.rdB (by have := HC.out; have := delim_body_len (bytesOf chain) kind height round ob s ns HI.out.len (by rw [bytesOf_length]; omega); rw [bytesOf_length] at this; omega)).mono ?_
  rintro e w3 ⟨v3, rfl, ho⟩
  have HO3 := Aside0.mk ho
  clear ho
  go_wp2
  go_ret
  have hb : Below w.heap.size w w2 := below_step HB2.out HO2.out.below
  exact ⟨_, rfl, Own.of_R (Kd.R_lower HO3.out.row hb.size) (below_step hb HO3.out.below)⟩
end Go.Proofs.Ytlnknihjccdgkaa.M
