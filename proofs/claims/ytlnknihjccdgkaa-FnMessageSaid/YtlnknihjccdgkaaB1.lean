/- The laws' small functions: below, and the blocks they choose from. -/
import Derived.Test.YtlnknihjccdgkaaS7
namespace Go.Proofs.Ytlnknihjccdgkaa.M
open Go.RowKit Go.Proofs.YtlnknihjccdgkaaW.PrintWords Go.Proofs.YtlnknihjccdgkaaW.PrintLast Go.Proofs.YtlnknihjccdgkaaW.PrintMore Go.Proofs.Ytlnknihjccdgkaa.PFnMessage
set_option linter.unusedVariables false
set_option linter.unusedSimpArgs false

theorem rdNums (W : World) (l : List Int) (hl : l.length ≤ 9223372036854775807) : RdB (W.alloc (.cells (nums .u8 l).toArray 5)) (.slice (some ⟨W.heap.size, 0, none⟩) l.length l.length) l := by
  refine ⟨_, _, rfl, Nat.le_refl _, C_of_ints ⟨rfl, hl, fun _ => ⟨_, rfl, ?_⟩⟩⟩
  intro j hj
  have e : Addr.add ⟨W.heap.size, 0, none⟩ j = ⟨W.heap.size, j, none⟩ := by simp [Addr.add]; intro h; exact h.symm
  rw [e, blk_cell (blk_new _ _)]
  exact nums_get hj
/-- A number below n. -/
theorem below_c (x n : Int) (w : World) (h0 : -9223372036854775808 ≤ x) (h1 : x < 9223372036854775808) (hn : 0 < n) (hn1 : n < 9223372036854775808) : Calls Try.prog 4 #[.int .i64 x, .int .i64 n] w fun e w' => ∃ y : Nat, e = .returned (.int .i64 (y : Int)) ∧ (y : Int) < n ∧ w' = w := by
  go_enter Try.func4, Try.ntmps4
  go_wp2
  all_goals go_ret
  all_goals
    have hz : 0 ≤ Int.tmod _ n := Int.tmod_nonneg (a := if x < wrap64 (-wrap64 (x + 1)) then wrap64 (-wrap64 (x + 1)) else x) n (by unfold wrap64; split <;> omega)
    have hlt : Int.tmod (if x < wrap64 (-wrap64 (x + 1)) then wrap64 (-wrap64 (x + 1)) else x) n < n := Int.tmod_lt_of_pos _ hn
    obtain ⟨y, hy⟩ := Int.eq_ofNat_of_zero_le hz
    rw [hy] at hlt
    refine ⟨y, ?_, hlt, rfl⟩
    rw [← hy]
    split
    · first | rfl | omega
    · first | rfl | omega
/-- A block: its sum, its parts, its root. -/
def kblk : Kd (List Int × Int × List Int) := Kd.pair (Kd.slice 5 (Kd.int .u8)) (Kd.pair (Kd.int .i64) (Kd.slice 5 (Kd.int .u8)))
theorem blk_M {W : World} {base : Nat} {ok : Nat → Prop} {v1 v2 : Value} {l1 l2 : List Int} (p : Int) (h1 : Kd.R (Kd.int .u8) 5 W base ok v1 l1) (h2 : Kd.R (Kd.int .u8) 5 W base ok v2 l2) : kblk.M W base ok (l1, p, l2) [v1, .int .i64 p, v2] :=
  ⟨[v1], [.int .i64 p, v2], rfl, ⟨v1, rfl, h1⟩, [.int .i64 p], [v2], rfl, rfl, v2, rfl, h2⟩
def bks : Nat → List (List Int × Int × List Int)
  | 0 => [([], 0, [])]
  | k + 1 => bks k ++ [(sumF [(k : Int)], 1 + (k : Int), sumF [(k : Int), 1])]
theorem bks_len : ∀ k, (bks k).length = k + 1
  | 0 => rfl
  | k + 1 => by rw [bks, List.length_append, bks_len]; rfl
theorem bks_new (W : World) : kblk.R 27 (W.alloc (.cells #[.slice none 0 0, .int .i64 0, .slice none 0 0] 27)) W.heap.size (fun k => W.heap.size ≤ k) (.slice (some ⟨W.heap.size, 0, none⟩) 1 1) (bks 0) := by
  have hrep : Reps (kblk.M W W.heap.size (fun _ => False)) 3 (bks 0) [.slice none 0 0, .int .i64 0, .slice none 0 0] := (Reps.none _ _).snoc (p := ([], 0, [])) (blk_M 0 (Kd.R_nil _ _ _ _ _) (Kd.R_nil _ _ _ _ _)) rfl
  refine ⟨fun k hk => ?_, [.slice none 0 0, .int .i64 0, .slice none 0 0], ?_, ?_⟩
  · have : W.heap.size = k := by simpa [Value.ownBlock] using hk
    omega
  · have h2 := World.ownsRow_lit (base := W.heap.size) (e := 27) (size := 3) W #[.slice none 0 0, .int .i64 0, .slice none 0 0] 1 (Nat.le_refl _) (by simp [maxLen]) rfl
    exact h2
  · refine hrep.imp_ (fun p c hp => kblk.M_mono (fun k hk => hk.1.elim) (Kd.M_below (kblk.M_bound hp) (below_alloc (Below.refl _ _) _)))

theorem own_M {w w1 W : World} {v s : Value} {xs : List (List Int × Int × List Int)} {l : List Int} {ok : Nat → Prop} (HR : kblk.R 27 w1 w.heap.size ok v xs) (HB : Below w.heap.size w w1) (h : Own w1 W s l) :
    Kd.R (Kd.int .u8) 5 W w.heap.size (fun k => w.heap.size ≤ k ∧ some k ≠ v.ownBlock) s l :=
  Kd.R_lower (Kd.R_mono (Kd.R_newR h.row HR) (fun k hk => ⟨Nat.le_trans HB.size hk.1, hk.2⟩)) HB.size
theorem blk_append1 {ops : Array Oper} {rest : List Oper} {o : Oper} {a : Act} {Q : Exit → Act → World → Prop} {w0 W : World} (hgd : o.guard = none) (s x : Operand) (ho : o.op = .call { callee := .builtin .append, args := #[s, x], argTypes := #[28, 28] })
    (v s1 s2 : Value) (xs : List (List Int × Int × List Int)) (l1 l2 : List Int) (p : Int) (hs : a.eval s = v) (hx : a.eval x = .slice (some ⟨W.heap.size, 0, none⟩) 1 1)
    (HR : kblk.R 27 W w0.heap.size (fun k => w0.heap.size ≤ k) v xs) (HB : Below w0.heap.size w0 W)
    (h1 : Kd.R (Kd.int .u8) 5 W w0.heap.size (fun k => w0.heap.size ≤ k ∧ some k ≠ v.ownBlock) s1 l1) (h2 : Kd.R (Kd.int .u8) 5 W w0.heap.size (fun k => w0.heap.size ≤ k ∧ some k ≠ v.ownBlock) s2 l2) (hl : (xs.length + 1) * 56 ≤ 140737488355328)
    (h : ∀ v1 w1, kblk.R 27 w1 w0.heap.size (fun k => w0.heap.size ≤ k) v1 (xs ++ [(l1, p, l2)]) → Below w0.heap.size w0 w1 → wpList Try.prog ops Q rest (a.put o.dst v1) w1) : wpList Try.prog ops Q (o :: rest) a (W.alloc (.cells #[s1, .int .i64 p, s2] 27)) :=
  Kd.R_append kblk (w0 := w0) w0.heap.size hgd s x 28 27 (.agg #[.slice none 0 0, .int .i64 0, .slice none 0 0]) 56 ho Try.underlying28 (by kernel_rfl) rfl (by decide) (by omega) v xs (l1, p, l2) [s1, .int .i64 p, s2] (fun k => w0.heap.size ≤ k) (fun k => w0.heap.size ≤ k ∧ some k ≠ v.ownBlock) hs hx
    (blk_M p h1 h2) (fun k hk => hk) (fun k hk => Nat.le_trans HB.size hk) HR HB HB.size hl fun v1 w1 h1 h2 _ _ => h v1 w1 h1 h2

set_option maxHeartbeats 8000000 in
set_option maxRecDepth 1000000 in
theorem blocks_c (w : World) : Calls Try.prog 5 #[] w fun e w' => ∃ v, e = .returned v ∧ kblk.R 27 w' w.heap.size (fun k => w.heap.size ≤ k) v (bks 3) ∧ Below w.heap.size w w' := by
  go_enter Try.func5, Try.ntmps5
  go_wp2_with fail
  go_loopw [1, 5] (fun v i W => ∃ k : Nat, k ≤ 3 ∧ i = .int .i64 k ∧ Aside0 (kblk.R 27 W w.heap.size (fun k => w.heap.size ≤ k) v (bks k)) ∧ Aside0 (Below w.heap.size w W)) (fun v i W => 3 - (intOf i).toNat)
  case atStart => exact ⟨0, by omega, rfl, ⟨bks_new w⟩, ⟨below_alloc (Below.refl _ _) _⟩⟩
  case round =>
    obtain ⟨k, hk, rfl, HR, HB⟩ := hrel
    by_cases hlt : k < 3
    · have q1 : IntKind.i64.wrap (1 + (k : Int)) = 1 + k := by rw [IntKind.wrap_i64]; omega
      have HQ1 := Aside0.mk q1
      go_wp2_with fail
      have hb1 : Below wr.heap.size wr (wr.alloc (.cells (nums .u8 [(k : Int)]).toArray 5)) := below_alloc (Below.refl _ _) _
      refine (sum_c _ [(k : Int)] 1 _ (rdNums wr [(k : Int)] (by show (1 : Nat) ≤ _; decide)) (by show (1 : Nat) < _; decide)).mono ?_
      rintro e w2 ⟨s1, rfl, ho1⟩
      obtain ⟨A1, c1, e1, _⟩ := ho1.drewn
      subst e1
      have HB1 := Aside0.mk (below_step hb1 ho1.below)
      have HO1 := Aside0.mk ho1
      clear hb1 ho1
      go_wp2_with fail
      have hb1 : Below w2.heap.size w2 (w2.alloc (.cells (nums .u8 [(k : Int), 1]).toArray 5)) := below_alloc (Below.refl _ _) _
      refine (sum_c _ [(k : Int), 1] 2 _ (rdNums w2 [(k : Int), 1] (by show (2 : Nat) ≤ _; decide)) (by show (2 : Nat) < _; decide)).mono ?_
      rintro e w3 ⟨s2, rfl, ho2⟩
      obtain ⟨A2, c2, e2, _⟩ := ho2.drewn
      subst e2
      have HB2 := Aside0.mk (below_step hb1 ho2.below)
      have HO2 := Aside0.mk ho2
      clear hb1 ho2
      have HM1 := Aside0.mk (Kd.R_below (own_M (Kd.R_below HR.out (below_alloc (Below.refl _ _) _)) (HB.out.alloc HB.out.size _) HO1.out) HB2.out)
      have HB3 := Aside0.mk (below_step HB.out (HB1.out))
      have HR3 := Aside0.mk (Kd.R_below HR.out HB1.out)
      have HM2 := Aside0.mk (own_M (Kd.R_below HR3.out (below_alloc (Below.refl _ _) _)) (HB3.out.alloc HB3.out.size _) HO2.out)
      have HB4 := Aside0.mk (below_step HB3.out HB2.out)
      have HR4 := Aside0.mk (Kd.R_below HR3.out HB2.out)
      clear HR HB HR3 HB3 HO1 HO2 HB1 HB2
      have HK := Aside0.mk hlt
      have hbl := bks_len k
      have HBL := Aside0.mk hbl
      clear hbl
      go_wp2_with (first | ((with_reducible refine gate_builtin (b := .append) (xs := #[.tmp 8, .tmp 20]) rfl ?_); at_builtin; refine blk_append1 (w0 := w) rfl (.tmp 8) (.tmp 20) rfl u1 _ _ (bks k) (sumF [(k : Int)]) (sumF [(k : Int), 1]) (1 + (k : Int)) rfl rfl HR4.out HB4.out HM1.out HM2.out (by rw [HBL.out]; have := HK.out; omega) ?_; intro v5 w5 hr5 hb5; have HR5 := Aside0.mk hr5; have HB5 := Aside0.mk hb5; clear hr5 hb5) | fail)
      go_roundw
      case rel => exact ⟨k + 1, by have := HK.out; omega, by go_num, ⟨HR5.out⟩, HB5⟩
      case measure => have := HK.out; simp [intOf]; omega
    · obtain rfl : k = 3 := by omega
      go_wp2_with fail
      go_ret
      exact ⟨_, rfl, HR.out, HB.out⟩
end Go.Proofs.Ytlnknihjccdgkaa.M
