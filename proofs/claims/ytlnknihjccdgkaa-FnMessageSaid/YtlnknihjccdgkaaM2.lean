/- The walks of the message functions, on: what the canonical records marshal to. -/
import Derived.Test.YtlnknihjccdgkaaM1
namespace Go.Proofs.Ytlnknihjccdgkaa.M
open Go.RowKit Go.Proofs.YtlnknihjccdgkaaW.PrintWords Go.Proofs.YtlnknihjccdgkaaW.PrintLast Go.Proofs.YtlnknihjccdgkaaW.PrintMore Go.Proofs.Ytlnknihjccdgkaa.PFnMessage
set_option linter.unusedVariables false
set_option linter.unusedSimpArgs false

theorem putNumber_w (l : List Int) (f : Nat) (v : Int) (hf : f < 16) (h0 : 0 ≤ v) (h1 : v < 9223372036854775808) (hl : l.length + 40 < 140737488355328) :
    comettypes_putNumber.f 30 l f v = some (l ++ num f v) := by
  have := putNumber_f l f v hf (by omega) h1 hl
  rwa [wrap_u64, show v % 18446744073709551616 = v from by omega] at this

/-- A row of bytes made from w0 on, and nothing of w0 has turned. -/
structure Own (w0 w : World) (v : Value) (l : List Int) : Prop where
  row : Kd.R (Kd.int .u8) 5 w w0.heap.size (fun k => w0.heap.size ≤ k) v l
  below : Below w0.heap.size w0 w
theorem Own.nil (w : World) : Own w w (.slice none 0 0) [] := ⟨Kd.R_nil _ _ _ _ _, Below.refl _ _⟩
theorem Own.drew {w0 w : World} {v : Value} {l : List Int} (h : Own w0 w v l) : Own w0 w.drew v l := ⟨Kd.R_drew h.row, below_drew h.below⟩
theorem Own.step {w0 w w1 : World} {v : Value} {l : List Int} (h : Own w0 w v l) (hb : Below w.heap.size w w1) : Own w0 w1 v l := ⟨Kd.R_below h.row hb, below_step h.below hb⟩
theorem Own.of_R {w0 w : World} {v : Value} {l : List Int} {ok : Nat → Prop} (h : Kd.R (Kd.int .u8) 5 w w0.heap.size ok v l) (hb : Below w0.heap.size w0 w) : Own w0 w v l :=
  ⟨Kd.R_mono (Kd.R_bound h) (fun _ hk => hk.2.1), hb⟩
theorem Own.rdB {w0 w : World} {v : Value} {l : List Int} (h : Own w0 w v l) : RdB w v l := RdB.of_R h.row
/-- It comes back with such a row. -/
def Chain (w0 : World) (r : List Int) (e : Ending) (w' : World) : Prop := ∃ v, e = .returned v ∧ Own w0 w' v r
theorem Own.of_eq {w0 w : World} {v : Value} {l l' : List Int} (h : Own w0 w v l) (e : l = l') : Own w0 w v l' := e ▸ h

section
variable (w0 w : World) (v : Value) (l : List Int) (f : Nat)
theorem putNumber_c (x : Int) (hO : Own w0 w v l) (hf : f < 16) (h0 : -9223372036854775808 ≤ x) (h1 : x < 9223372036854775808) (hl : l.length + 40 < 140737488355328) :
    Calls Try.prog 31 #[v, .int .i64 f, .int .u64 (IntKind.u64.wrap x)] w (Chain w0 (l ++ num f x)) :=
  (comettypes_putNumber.calls 30 _ v l f _ _ w0 w hO.below hO.row (putNumber_f l f x hf h0 h1 hl)).mono fun e w' ⟨v', he, hr, hb, _⟩ => ⟨v', he, Own.of_R hr hb⟩
theorem putNumberN_c (x : Int) (hO : Own w0 w v l) (hf : f < 16) (h0 : 0 ≤ x) (h1 : x < 9223372036854775808) (hl : l.length + 40 < 140737488355328) :
    Calls Try.prog 31 #[v, .int .i64 f, .int .u64 x] w (Chain w0 (l ++ num f x)) :=
  (comettypes_putNumber.calls 30 _ v l f _ _ w0 w hO.below hO.row (putNumber_w l f x hf h0 h1 hl)).mono fun e w' ⟨v', he, hr, hb, _⟩ => ⟨v', he, Own.of_R hr hb⟩
theorem putFixed_c (x : Int) (hO : Own w0 w v l) (hf : f < 16) (hl : l.length + 40 < 140737488355328) :
    Calls Try.prog 32 #[v, .int .i64 f, .int .i64 x] w (Chain w0 (l ++ fix8 f x)) :=
  (comettypes_putFixed.calls 30 _ v l f _ _ w0 w hO.below hO.row (putFixed_f l f x hf hl)).mono fun e w' ⟨v', he, hr, hb, _⟩ => ⟨v', he, Own.of_R hr hb⟩
theorem putText_c (u : Value) (m : List Int) (hO : Own w0 w v l) (hu : RdB w0 u m) (hf : f < 15) (hl : l.length + m.length + 40 < 140737488355328) :
    Calls Try.prog 36 #[v, .int .i64 f, u] w (Chain w0 (l ++ som f m)) := by
  obtain ⟨A, c, rfl, hc, hr⟩ := hu
  exact (comettypes_putText.calls 30 _ v l f A c m _ w0 w hO.below hO.row (Kd.C_kept_came (Kd.heap_int _) hr hO.below (fun _ h => h)) hc (putText_f l f m hf hl)).mono fun e w' ⟨v', he, hr, hb, _⟩ => ⟨v', he, Own.of_R hr hb⟩
theorem putMessage_c (u : Value) (m : List Int) (hO : Own w0 w v l) (hu : RdB w0 u m) (hf : f < 15) (hl : l.length + m.length + 40 < 140737488355328) :
    Calls Try.prog 33 #[v, .int .i64 f, u] w (Chain w0 (l ++ wit f m)) := by
  obtain ⟨A, c, rfl, hc, hr⟩ := hu
  exact (comettypes_putMessage.calls 30 _ v l f A c m _ w0 w hO.below hO.row (Kd.C_kept_came (Kd.heap_int _) hr hO.below (fun _ h => h)) hc (putMessage_f l f m hf hl)).mono fun e w' ⟨v', he, hr, hb, _⟩ => ⟨v', he, Own.of_R hr hb⟩
end
/-- What is appended was made behind the row, before the call. -/
theorem putMessage_c2 (w0 w5 w : World) (v : Value) (l : List Int) (f : Nat) (u : Value) (m : List Int) (hO : Own w0 w5 v l) (hu : Own w5 w u m) (hf : f < 15) (hl : l.length + m.length + 40 < 140737488355328) :
    Calls Try.prog 33 #[v, .int .i64 f, u] w (Chain w0 (l ++ wit f m)) := by
  obtain ⟨A, c, rfl, hc, hr⟩ := hu.rdB
  have hrow : Kd.R (Kd.int .u8) 5 w w0.heap.size (fun k => k < w5.heap.size) v l := Kd.R_below (Kd.R_mono (Kd.R_bound hO.row) (fun _ hk => hk.2.2.1)) hu.below
  exact (comettypes_putMessage.calls 30 _ v l f A c m _ w0 w (below_step hO.below hu.below) hrow (Kd.C_kept_own hu.row (fun k h1 h2 => by omega)) hc (putMessage_f l f m hf hl)).mono fun e w' ⟨v', he, hr, hb, _⟩ => ⟨v', he, Own.of_R hr hb⟩
theorem C_of_ints {w : World} {k : IntKind} {A : Option Addr} {n : Nat} {xs : List Int} (h : ReadsInt w k A n xs) : Kd.C (Kd.int k) w A n xs :=
  ⟨h.1, h.2.1, fun hn => by
    obtain ⟨ad, e, hc⟩ := h.2.2 hn
    refine ⟨ad, e, fun j p hj => ⟨[.int k p], rfl, rfl, fun i u hu => ?_⟩⟩
    have hjl : j < xs.length := (List.getElem?_eq_some_iff.1 hj).1
    have h1 := hc j (by have := h.1; omega)
    rw [List.getD_eq_getElem?_getD, hj] at h1
    cases i with
    | zero =>
      simp only [List.getElem?_cons_zero, Option.some.injEq] at hu
      subst hu
      rw [show j * (Kd.int k).sz + 0 = j from Nat.mul_one j]
      exact h1
    | succ i => simp at hu⟩
theorem rdB_bytes (W : World) (s : ByteArray) (hs : s.size ≤ 9223372036854775807) : RdB (Lib.bytesWorld W 5 s) (.slice (some ⟨W.heap.size, 0, none⟩) s.size (grownCap W s.size 0 5)) (bytesOf s) := by
  refine ⟨_, _, by rw [bytesOf_length], by rw [bytesOf_length]; exact grownCap_ge W s.size 0 _, ?_⟩
  rw [bytesOf_length]
  exact C_of_ints (bytes_reads W _ s hs)
theorem putText_c3 (w0 w5 : World) (v : Value) (l : List Int) (f : Nat) (s : ByteArray) (hO : Own w0 w5 v l) (hf : f < 15) (hl : l.length + s.size + 40 < 140737488355328) :
    Calls Try.prog 36 #[v, .int .i64 f, .slice (some ⟨w5.heap.size, 0, none⟩) s.size (grownCap w5 s.size 0 5)] (Lib.bytesWorld w5 5 s) (Chain w0 (l ++ som f (bytesOf s))) := by
  have hbl := bytesOf_length s
  have hb5 : Below w5.heap.size w5 (Lib.bytesWorld w5 5 s) := bytes_below (Below.refl _ _) (Nat.le_refl _) _ _
  have hrow : Kd.R (Kd.int .u8) 5 (Lib.bytesWorld w5 5 s) w0.heap.size (fun k => k < w5.heap.size) v l := Kd.R_below (Kd.R_mono (Kd.R_bound hO.row) (fun _ hk => hk.2.2.1)) hb5
  have h := comettypes_putText.calls 30 _ v l f (some ⟨w5.heap.size, 0, none⟩) (grownCap w5 s.size 0 5) (bytesOf s) _ w0 _ (below_step hO.below hb5) hrow (fun W' hk => by
    rw [hbl]
    obtain ⟨h1, h2, h3⟩ := bytes_reads w5 5 s (by omega)
    refine C_of_ints ⟨h1, h2, fun hp => ?_⟩
    obtain ⟨ad, e, hc⟩ := h3 hp
    injection e with e
    subst e
    refine ⟨_, rfl, fun j hj => ?_⟩
    have := hc j hj
    rw [add_plain] at this ⊢
    exact cell_kept this hk (by simp)) (by rw [hbl]; exact grownCap_ge w5 s.size 0 _) (putText_f l f _ hf (by omega))
  rw [hbl] at h
  exact h.mono fun e w' ⟨v', he, hr, hb, _⟩ => ⟨v', he, Own.of_R hr hb⟩
theorem Time_Marshal_c (s n : Int) (w : World) (h0 : -9223372036854775808 ≤ s) (h1 : s < 9223372036854775808) (h2 : -2147483648 ≤ n) (h3 : n < 2147483648) :
    Calls Try.prog 35 #[.agg #[.int .i64 (wrap64 (s + 62135596800)), .int .i32 n]] w (Chain w (timeB s n)) :=
  (comettypes_Time_Marshal.calls 30 _ _ _ w (Time_Marshal_f s n h0 h1 h2 h3)).mono fun e w' ⟨v', he, hr, hb⟩ => ⟨v', he, Own.of_R hr hb⟩
theorem delimited_c (u : Value) (m : List Int) (w : World) (hu : RdB w u m) (hl : m.length + 40 < 140737488355328) :
    Calls Try.prog 25 #[u] w (Chain w (delim m)) := by
  obtain ⟨A, c, rfl, hc, hr⟩ := hu
  exact (comettypes_delimited.calls 30 A c m _ w hr hc (delimited_f m hl)).mono fun e w' ⟨v', he, hr, hb⟩ => ⟨v', he, Own.of_R hr hb⟩

/-- A block identity's cells, its bytes read. -/
structure BidAt (w : World) (g : Nat) (ty : Nat) (v1 : Value) (p : Int) (v2 : Value) (l1 l2 : List Int) : Prop where
  blk : w.heap[g]? = some (.cells #[v1, .int .u32 p, v2] ty (0, 0))
  r1 : RdB w v1 l1
  r2 : RdB w v2 l2
theorem BidAt.below {w w1 : World} {g ty : Nat} {v1 v2 : Value} {p : Int} {l1 l2 : List Int} (h : BidAt w g ty v1 p v2 l1 l2) (hb : Below w.heap.size w w1) : BidAt w1 g ty v1 p v2 l1 l2 := ⟨blk_below h.blk hb, h.r1.below hb, h.r2.below hb⟩

set_option maxHeartbeats 8000000 in
set_option maxRecDepth 100000 in
theorem cbidMarshal (g : Nat) (v1 : Value) (p : Int) (v2 : Value) (l1 l2 : List Int) (w : World) (hp : 0 ≤ p ∧ p < 4294967296)
    (hg : BidAt w g 90 v1 p v2 l1 l2) (hl : l1.length + l2.length ≤ 64) :
    Calls Try.prog 34 #[.pointer (some ⟨g, 0, none⟩)] w (Chain w (blockB l1 p l2)) := by
  have b0 : w.cell? ⟨g, 0, none⟩ = some v1 := blk_cell hg.blk 0
  have b1 : w.cell? ⟨g, 1, none⟩ = some (.int .u32 p) := blk_cell hg.blk 1
  have b2 : w.cell? ⟨g, 2, none⟩ = some v2 := blk_cell hg.blk 2
  have HG := Aside0.mk hg
  have HP := Aside0.mk hp
  have HL := Aside0.mk hl
  clear hg hl hp
  have hw : IntKind.u64.wrap p = p := by have := HP.out; rw [wrap_u64]; omega
  go_enter Try.func34, Try.ntmps34
  go_wp2_with fail
  go_region_held3 (fun w' => w'.cell? ⟨g, 0, none⟩ = some v1 ∧ w'.cell? ⟨g, 1, none⟩ = some (.int .u32 p) ∧ w'.cell? ⟨g, 2, none⟩ = some v2) (go_keep)
    (first | (go_at_call 31; refine (putNumberN_c w _ _ [] 1 p (Own.nil w).drew (by omega) (by have := HP.out; omega) (by have := HP.out; omega) (by simp)).mono ?_; rintro e w3 ⟨v3, rfl, ho3⟩; have HO3 := Aside0.mk ho3; clear ho3; have k0 : w3.cell? ⟨g, 0, none⟩ = some v1 := blk_cell (HG.out.below HO3.out.below).blk 0; have k1 : w3.cell? ⟨g, 1, none⟩ = some (.int .u32 p) := blk_cell (HG.out.below HO3.out.below).blk 1; have k2 : w3.cell? ⟨g, 2, none⟩ = some v2 := blk_cell (HG.out.below HO3.out.below).blk 2) | (go_at_call 36; refine (putText_c w _ _ _ 2 v2 l2 HO3.out HG.out.r2 (by omega) (by have := HL.out; have := num_len 1 p; simp; omega)).mono ?_; rintro e w4 ⟨v4, rfl, ho4⟩; have HO4 := Aside0.mk ho4; clear ho4; have k0 : w4.cell? ⟨g, 0, none⟩ = some v1 := blk_cell (HG.out.below HO4.out.below).blk 0; have k1 : w4.cell? ⟨g, 1, none⟩ = some (.int .u32 p) := blk_cell (HG.out.below HO4.out.below).blk 1; have k2 : w4.cell? ⟨g, 2, none⟩ = some v2 := blk_cell (HG.out.below HO4.out.below).blk 2))
  go_wp2_with (first | (go_at_call 36; refine (putText_c w4 w4 _ [] 1 v1 l1 (Own.nil w4) (HG.out.below HO4.out.below).r1 (by omega) (by have := HL.out; simp; omega)).mono ?_; rintro e w5 ⟨v5, rfl, ho5⟩; have HO5 := Aside0.mk ho5; clear ho5) | (go_at_call 33; refine (putMessage_c w4 w5 v5 _ 2 v4 _ HO5.out HO4.out.rdB (by omega) (by have := HL.out; have h1 := som_len 1 l1 (by omega); have h2 := som_len 2 l2 (by omega); have := num_len 1 p; simp; omega)).mono ?_; rintro e w6 ⟨v6, rfl, ho6⟩; have HO6 := Aside0.mk ho6; clear ho6))
  go_ret
  exact ⟨_, rfl, Own.of_R (Kd.R_lower (by have h := HO6.out.row; simpa [blockB] using h) HO4.out.below.size) (below_step HO4.out.below HO6.out.below)⟩

/-- The identity in a signed vote: none, or a whole one's cells. -/
def IdAt (w : World) (id : Option Addr) (ob : Option (List Int × Int × List Int)) : Prop :=
  match ob with
  | none => id = none
  | some (l1, p, l2) => ∃ g v1 v2, id = some ⟨g, 0, none⟩ ∧ BidAt w g 90 v1 p v2 l1 l2 ∧ 0 ≤ p ∧ p < 4294967296 ∧ l1.length = 32 ∧ l2.length = 32
theorem IdAt.below {w w1 : World} {id : Option Addr} {ob : Option (List Int × Int × List Int)} (h : IdAt w id ob) (hb : Below w.heap.size w w1) : IdAt w1 id ob := by
  rcases ob with _ | ⟨l1, p, l2⟩
  · exact h
  · obtain ⟨g, v1, v2, h1, h2, h3⟩ := h
    exact ⟨g, v1, v2, h1, h2.below hb, h3⟩
def idB : Option (List Int × Int × List Int) → List Int
  | none => []
  | some (l1, p, l2) => wit 4 (blockB l1 p l2)
set_option maxHeartbeats 8000000 in
set_option maxRecDepth 100000 in
theorem cvoteMarshal0 (g : Nat) (kind height round : Int) (s ns : Int) (chain : ByteArray) (w : World)
    (hk : 0 ≤ kind ∧ kind < 2147483648) (hs : -9223372036854775808 ≤ s ∧ s < 9223372036854775808) (hn : -2147483648 ≤ ns ∧ ns < 2147483648) (hch : chain.size < 2 ^ 40) 
    (hg : w.heap[g]? = some (.cells #[.int .i32 kind, .int .i64 height, .int .i64 round, .pointer none, .int .i64 (wrap64 (s + 62135596800)), .int .i32 ns, .string chain] 63 (0, 0))) :
    Calls Try.prog 26 #[.pointer (some ⟨g, 0, none⟩)] w (Chain w (body (bytesOf chain) kind height round [] s ns)) := by
  have HG := Aside0.mk hg
  have HK := Aside0.mk hk
  have HS := Aside0.mk hs
  have HN := Aside0.mk hn
  have HC := Aside0.mk hch
  clear hg hk hs hn hch
  have kb := fun W => print_bytes (P := Try.prog) 9 25 5 Try.underlying9 Try.underlying25 Try.underlying5 chain W
  have b0 : w.cell? ⟨g, 0, none⟩ = some (.int .i32 kind) := blk_cell HG.out 0
  go_enter Try.func26, Try.ntmps26
  go_wp2_with fail
  refine (putNumber_c w w _ [] 1 kind (Own.nil w) (by omega) (by have := HK.out; omega) (by have := HK.out; omega) (by simp)).mono ?_
  rintro e w1 ⟨v1, rfl, ho⟩
  have HO1 := Aside0.mk (ho.of_eq (List.nil_append _))
  clear ho
  have c1 : w1.cell? ⟨g, 1, none⟩ = some (.int .i64 height) := blk_cell (blk_below HG.out HO1.out.below) 1
  go_wp2_with fail
  refine (putFixed_c w w1 v1 _ 2 height HO1.out (by omega) (by have := num_len 1 kind; omega)).mono ?_
  rintro e w2 ⟨v2, rfl, ho⟩
  have HO2 := Aside0.mk ho
  clear ho
  have c2 : w2.cell? ⟨g, 2, none⟩ = some (.int .i64 round) := blk_cell (blk_below HG.out HO2.out.below) 2
  go_wp2_with fail
  refine (putFixed_c w w2 v2 _ 3 round HO2.out (by omega) (by have := num_len 1 kind; have := fix8_len 2 height; simp; omega)).mono ?_
  rintro e w3 ⟨v3, rfl, ho⟩
  have HO3 := Aside0.mk ho
  clear ho
  have c3 : w3.cell? ⟨g, 3, none⟩ = some (.pointer none) := blk_cell (blk_below HG.out HO3.out.below) 3
  have c4 : w3.cell? ⟨g, 4, none⟩ = some (.int .i64 (wrap64 (s + 62135596800))) := blk_cell (blk_below HG.out HO3.out.below) 4
  have c4' : w3.cell? ⟨g, 5, none⟩ = some (.int .i32 ns) := blk_cell (blk_below HG.out HO3.out.below) 5
  go_wp2_with fail
  refine (Time_Marshal_c s ns _ (by have := HS.out; omega) (by have := HS.out; omega) (by have := HN.out; omega) (by have := HN.out; omega)).mono ?_
  rintro e w4 ⟨v4, rfl, ho⟩
  have HO4 := Aside0.mk ho
  clear ho
  go_wp2_with fail
  refine (putMessage_c2 w _ w4 _ _ 5 v4 _ HO3.out HO4.out (by omega) (by have := num_len 1 kind; have := fix8_len 2 height; have := fix8_len 3 round; have := timeB_len s ns; simp; omega)).mono ?_
  rintro e w5 ⟨v5, rfl, ho⟩
  have HO5 := Aside0.mk ho
  clear ho
  have c5 : w5.cell? ⟨g, 6, none⟩ = some (.string chain) := blk_cell (blk_below HG.out HO5.out.below) 6
  go_wp2_with fail
  refine (putText_c3 w w5 v5 _ 6 chain HO5.out (by omega) (by have := HC.out; have := num_len 1 kind; have := fix8_len 2 height; have := fix8_len 3 round; have := timeB_len s ns; have := wit_len 5 (timeB s ns) (by omega); simp; omega)).mono ?_
  rintro e w6 ⟨v6, rfl, ho⟩
  have HO6 := Aside0.mk ho
  clear ho
  go_wp2
  go_ret
  exact ⟨_, rfl, HO6.out.of_eq (by simp [body])⟩
set_option maxHeartbeats 8000000 in
set_option maxRecDepth 100000 in
theorem cvoteMarshal1 (g : Nat) (kind height round : Int) (s ns : Int) (chain : ByteArray) (q : Nat) (u1 u2 : Value) (p : Int) (l1 l2 : List Int) (w : World)
    (hk : 0 ≤ kind ∧ kind < 2147483648) (hs : -9223372036854775808 ≤ s ∧ s < 9223372036854775808) (hn : -2147483648 ≤ ns ∧ ns < 2147483648) (hch : chain.size < 2 ^ 40) (hq : BidAt w q 90 u1 p u2 l1 l2) (hp : 0 ≤ p ∧ p < 4294967296) (hl : l1.length = 32 ∧ l2.length = 32)
    (hg : w.heap[g]? = some (.cells #[.int .i32 kind, .int .i64 height, .int .i64 round, .pointer (some ⟨q, 0, none⟩), .int .i64 (wrap64 (s + 62135596800)), .int .i32 ns, .string chain] 63 (0, 0))) :
    Calls Try.prog 26 #[.pointer (some ⟨g, 0, none⟩)] w (Chain w (body (bytesOf chain) kind height round (wit 4 (blockB l1 p l2)) s ns)) := by
  have HG := Aside0.mk hg
  have HK := Aside0.mk hk
  have HS := Aside0.mk hs
  have HN := Aside0.mk hn
  have HC := Aside0.mk hch
  have HQ := Aside0.mk hq
  have HP := Aside0.mk hp
  have HL := Aside0.mk hl
  clear hg hk hs hn hch hq hp hl
  have kb := fun W => print_bytes (P := Try.prog) 9 25 5 Try.underlying9 Try.underlying25 Try.underlying5 chain W
  have b0 : w.cell? ⟨g, 0, none⟩ = some (.int .i32 kind) := blk_cell HG.out 0
  go_enter Try.func26, Try.ntmps26
  go_wp2_with fail
  refine (putNumber_c w w _ [] 1 kind (Own.nil w) (by omega) (by have := HK.out; omega) (by have := HK.out; omega) (by simp)).mono ?_
  rintro e w1 ⟨v1, rfl, ho⟩
  have HO1 := Aside0.mk (ho.of_eq (List.nil_append _))
  clear ho
  have c1 : w1.cell? ⟨g, 1, none⟩ = some (.int .i64 height) := blk_cell (blk_below HG.out HO1.out.below) 1
  go_wp2_with fail
  refine (putFixed_c w w1 v1 _ 2 height HO1.out (by omega) (by have := num_len 1 kind; omega)).mono ?_
  rintro e w2 ⟨v2, rfl, ho⟩
  have HO2 := Aside0.mk ho
  clear ho
  have c2 : w2.cell? ⟨g, 2, none⟩ = some (.int .i64 round) := blk_cell (blk_below HG.out HO2.out.below) 2
  go_wp2_with fail
  refine (putFixed_c w w2 v2 _ 3 round HO2.out (by omega) (by have := num_len 1 kind; have := fix8_len 2 height; simp; omega)).mono ?_
  rintro e w3 ⟨v3, rfl, ho⟩
  have HO3 := Aside0.mk ho
  clear ho
  have c3 : w3.cell? ⟨g, 3, none⟩ = some (.pointer (some ⟨q, 0, none⟩)) := blk_cell (blk_below HG.out HO3.out.below) 3
  go_wp2_with fail
  refine (cbidMarshal q u1 p u2 l1 l2 w3 HP.out (HQ.out.below HO3.out.below) (by have := HL.out; omega)).mono ?_
  rintro e wa ⟨va, rfl, ho⟩
  have HOA := Aside0.mk ho
  clear ho
  go_wp2_with fail
  refine (putMessage_c2 w _ wa _ _ 4 va _ HO3.out HOA.out (by omega) (by have := HL.out; have := num_len 1 kind; have := fix8_len 2 height; have := fix8_len 3 round; have := blockB_len l1 p l2 (by omega); simp; omega)).mono ?_
  rintro e wm ⟨vm, rfl, ho⟩
  have HOM := Aside0.mk ho
  clear ho
  have c4 : wm.cell? ⟨g, 4, none⟩ = some (.int .i64 (wrap64 (s + 62135596800))) := blk_cell (blk_below HG.out HOM.out.below) 4
  have c4' : wm.cell? ⟨g, 5, none⟩ = some (.int .i32 ns) := blk_cell (blk_below HG.out HOM.out.below) 5
  go_wp2_with fail
  refine (Time_Marshal_c s ns _ (by have := HS.out; omega) (by have := HS.out; omega) (by have := HN.out; omega) (by have := HN.out; omega)).mono ?_
  rintro e w4 ⟨v4, rfl, ho⟩
  have HO4 := Aside0.mk ho
  clear ho
  go_wp2_with fail
  refine (putMessage_c2 w _ w4 _ _ 5 v4 _ HOM.out HO4.out (by omega) (by have := HL.out; have := blockB_len l1 p l2 (by omega); have := wit_len 4 (blockB l1 p l2) (by omega); have := num_len 1 kind; have := fix8_len 2 height; have := fix8_len 3 round; have := timeB_len s ns; simp; omega)).mono ?_
  rintro e w5 ⟨v5, rfl, ho⟩
  have HO5 := Aside0.mk ho
  clear ho
  have c5 : w5.cell? ⟨g, 6, none⟩ = some (.string chain) := blk_cell (blk_below HG.out HO5.out.below) 6
  go_wp2_with fail
  refine (putText_c3 w w5 v5 _ 6 chain HO5.out (by omega) (by have := HL.out; have := blockB_len l1 p l2 (by omega); have := wit_len 4 (blockB l1 p l2) (by omega); have := HC.out; have := num_len 1 kind; have := fix8_len 2 height; have := fix8_len 3 round; have := timeB_len s ns; have := wit_len 5 (timeB s ns) (by omega); simp; omega)).mono ?_
  rintro e w6 ⟨v6, rfl, ho⟩
  have HO6 := Aside0.mk ho
  clear ho
  go_wp2
  go_ret
  exact ⟨_, rfl, HO6.out.of_eq (by simp [body])⟩
end Go.Proofs.Ytlnknihjccdgkaa.M
