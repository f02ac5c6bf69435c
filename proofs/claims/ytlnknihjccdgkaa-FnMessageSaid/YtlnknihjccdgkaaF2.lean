/- The law's walk. -/
import Derived.Test.YtlnknihjccdgkaaF3
import Derived.Test.YtlnknihjccdgkaaX1
namespace Go.Proofs.Ytlnknihjccdgkaa.M
open Go.RowKit Go.Proofs.YtlnknihjccdgkaaW.PrintWords Go.Proofs.YtlnknihjccdgkaaW.PrintLast Go.Proofs.YtlnknihjccdgkaaW.PrintMore Go.Proofs.Ytlnknihjccdgkaa.PFnMessage Go.Proofs.Ytlnknihjccdgkaa.X
set_option linter.unusedVariables false
set_option linter.unusedSimpArgs false

def zvote : Obj := .cells zcells 31
structure InI (x : Int) : Prop where
  lo : -9223372036854775808 ≤ x
  hi : x < 9223372036854775808
def Blks (W : World) (gb cb : Nat) : Prop := ∃ base ok, kblk.R 27 W base ok (.slice (some ⟨gb, 0, none⟩) 4 cb) (bks 3)
theorem Blks.mv {w w1 : World} {gb cb : Nat} {b : Nat} (h : Blks w gb cb) (m : Mv [] b w w1) : Blks w1 gb cb := by
  obtain ⟨base, ok, h⟩ := h
  exact ⟨base, ok, Kd.R_below h m.below0⟩
theorem addr0 (g k : Nat) : (Addr.mk g 0 none).add k = ⟨g, k, none⟩ := by
  unfold Addr.add
  split
  · rename_i e; subst e; rfl
  · simp
theorem row3 {w : World} {g k : Nat} {a b c : Value} (h0 : w.cell? ⟨g, k, none⟩ = some a) (h1 : w.cell? ⟨g, k + 1, none⟩ = some b) (h2 : w.cell? ⟨g, k + 2, none⟩ = some c) (j : Nat) (hj : j < 3) : w.cell? ((Addr.mk g k none).add j) = (#[a, b, c] : Array Value)[j]? := by
  match j, hj with
  | 0, _ => exact h0
  | 1, _ => exact h1
  | 2, _ => exact h2
theorem lit52 {T : Array Value} (h : T.size = 52) : ∃ u : Nat → Value, T = #[u 0, u 1, u 2, u 3, u 4, u 5, u 6, u 7, u 8, u 9, u 10, u 11, u 12, u 13, u 14, u 15, u 16, u 17, u 18, u 19, u 20, u 21, u 22, u 23, u 24, u 25, u 26, u 27, u 28, u 29, u 30, u 31, u 32, u 33, u 34, u 35, u 36, u 37, u 38, u 39, u 40, u 41, u 42, u 43, u 44, u 45, u 46, u 47, u 48, u 49, u 50, u 51] := by
  refine ⟨fun i => T.getD i undef, Array.ext (by rw [h]; rfl) ?_⟩
  intro i h1 h2
  have key : ∀ k, k < 52 → (#[T.getD 0 undef, T.getD 1 undef, T.getD 2 undef, T.getD 3 undef, T.getD 4 undef, T.getD 5 undef, T.getD 6 undef, T.getD 7 undef, T.getD 8 undef, T.getD 9 undef, T.getD 10 undef, T.getD 11 undef, T.getD 12 undef, T.getD 13 undef, T.getD 14 undef, T.getD 15 undef, T.getD 16 undef, T.getD 17 undef, T.getD 18 undef, T.getD 19 undef, T.getD 20 undef, T.getD 21 undef, T.getD 22 undef, T.getD 23 undef, T.getD 24 undef, T.getD 25 undef, T.getD 26 undef, T.getD 27 undef, T.getD 28 undef, T.getD 29 undef, T.getD 30 undef, T.getD 31 undef, T.getD 32 undef, T.getD 33 undef, T.getD 34 undef, T.getD 35 undef, T.getD 36 undef, T.getD 37 undef, T.getD 38 undef, T.getD 39 undef, T.getD 40 undef, T.getD 41 undef, T.getD 42 undef, T.getD 43 undef, T.getD 44 undef, T.getD 45 undef, T.getD 46 undef, T.getD 47 undef, T.getD 48 undef, T.getD 49 undef, T.getD 50 undef, T.getD 51 undef] : Array Value)[k]? = some (T.getD k undef) := by
    intro k hk
    match k, hk with
    | 0, _ => rfl
    | 1, _ => rfl
    | 2, _ => rfl
    | 3, _ => rfl
    | 4, _ => rfl
    | 5, _ => rfl
    | 6, _ => rfl
    | 7, _ => rfl
    | 8, _ => rfl
    | 9, _ => rfl
    | 10, _ => rfl
    | 11, _ => rfl
    | 12, _ => rfl
    | 13, _ => rfl
    | 14, _ => rfl
    | 15, _ => rfl
    | 16, _ => rfl
    | 17, _ => rfl
    | 18, _ => rfl
    | 19, _ => rfl
    | 20, _ => rfl
    | 21, _ => rfl
    | 22, _ => rfl
    | 23, _ => rfl
    | 24, _ => rfl
    | 25, _ => rfl
    | 26, _ => rfl
    | 27, _ => rfl
    | 28, _ => rfl
    | 29, _ => rfl
    | 30, _ => rfl
    | 31, _ => rfl
    | 32, _ => rfl
    | 33, _ => rfl
    | 34, _ => rfl
    | 35, _ => rfl
    | 36, _ => rfl
    | 37, _ => rfl
    | 38, _ => rfl
    | 39, _ => rfl
    | 40, _ => rfl
    | 41, _ => rfl
    | 42, _ => rfl
    | 43, _ => rfl
    | 44, _ => rfl
    | 45, _ => rfl
    | 46, _ => rfl
    | 47, _ => rfl
    | 48, _ => rfl
    | 49, _ => rfl
    | 50, _ => rfl
    | 51, _ => rfl
    | k + 52, hk => omega
  have := key i (by omega)
  rw [Array.getElem?_eq_getElem h2] at this
  rw [Option.some.inj this]
  simp [h1]
set_option maxHeartbeats 8000000 in
set_option maxRecDepth 1000000 in
theorem msg_r3 (N : Act → World → Prop) (chain : ByteArray) (kind height round block s ns : Int) (w : World) (H1 : InI kind) (H2 : InI height) (H3 : InI round) (H4 : InI block) (H6 : InI ns) (T0 : Array Value)
    (E0 : Env T0 52 [(0, .string chain), (1, .int .i64 kind), (2, .int .i64 height), (3, .int .i64 round), (4, .int .i64 block), (11, .pointer (some ⟨w.heap.size, 0, none⟩))])
    (hN0 : ∀ (T : Array Value) (w6 : World) (y1 y2 y3 y5 ga : Nat) (A1 : Option Addr) (n1 c1 : Nat) (p : Int) (A2 : Option Addr) (n2 c2 : Nat) (ob : Option (List Int × Int × List Int)), (y1 : Int) < 2 → (y2 : Int) < 1152921504606846976 → (y3 : Int) < 1073741824 → (y5 : Int) < 1000000000 →
      IdOk w6 (.slice A1 n1 c1) p (.slice A2 n2 c2) ob → Below w.heap.size w w6 → w6.heap[ga]? = some (.cells (ivoteCells (wrap64 (1 + (y1 : Int))) y2 y3 0 ByteArray.empty (.slice A1 n1 c1) p (.slice A2 n2 c2) (s.tmod 1099511627776) y5 (.slice none 0 0)) 31 (0, 0)) →
      Env T 52 [(0, .string chain), (13, .pointer (some ⟨ga, 0, none⟩))] → N ⟨T, []⟩ w6) :
    Code.wp Try.prog (at_ [1, 1, 0] (Try.f3.body.getD .skip)) (OnlyN N) ⟨T0, []⟩ (w.alloc (.cells #[.int .i64 s, .int .i64 ns] 23)) := by
  conv => arg 2; whnf
  have HB : Below w.heap.size w (w.alloc (.cells #[.int .i64 s, .int .i64 ns] 23)).drew := below_drew (below_alloc (Below.refl w.heap.size w) (.cells #[.int .i64 s, .int .i64 ns] 23))
  have BX := blk_drew (heap_alloc_new w (.cells #[.int .i64 s, .int .i64 ns] 23))
  refine rg 21 [] (0) [fun v_ W => v_ = .int .i64 kind, fun v_ W => ∃ (y1 : Nat), v_ = .int .i64 (y1 : Int) ∧ (y1 : Int) < 2, fun v_ W => ∃ (y1 : Nat), v_ = .int .i64 (wrap64 (1 + (y1 : Int))) ∧ (y1 : Int) < 2, fun v_ W => v_ = .int .i64 height, fun v_ W => ∃ (y4 : Nat), v_ = .int .i64 (y4 : Int) ∧ (y4 : Int) < 1152921504606846976, fun v_ W => v_ = .int .i64 round, fun v_ W => ∃ (y6 : Nat), v_ = .int .i64 (y6 : Int) ∧ (y6 : Int) < 1073741824, fun v_ W => ∃ gb, ∃ cb, v_ = .slice (some ⟨gb, 0, none⟩) 4 cb ∧ Blks W gb cb, fun v_ W => v_ = .int .i64 block, fun v_ W => ∃ (y9 : Nat), v_ = .int .i64 (y9 : Int) ∧ (y9 : Int) < 4, fun v_ W => ∃ gb, ∃ cb, ∃ (y4 : Nat), v_ = .pointer (some ⟨gb, y4 * 3, none⟩) ∧ (y4 : Int) < 4 ∧ Blks W gb cb, fun v_ W => ∃ A1, ∃ n1, ∃ c1, ∃ p, ∃ A2, ∃ n2, ∃ c2, ∃ ob, v_ = .agg #[.slice A1 n1 c1, .int .i64 p, .slice A2 n2 c2] ∧ IdOk W (.slice A1 n1 c1) p (.slice A2 n2 c2) ob, fun v_ W => v_ = .pointer (some ⟨w.heap.size, 0, none⟩), fun v_ W => v_ = .int .i64 s, fun v_ W => v_ = .int .i64 (s.tmod 1099511627776), fun v_ W => v_ = .pointer (some ⟨w.heap.size, 1, none⟩), fun v_ W => v_ = .int .i64 ns, fun v_ W => ∃ (y17 : Nat), v_ = .int .i64 (y17 : Int) ∧ (y17 : Int) < 1000000000, fun v_ W => ∃ (y5 : Nat), v_ = .agg #[.int .i64 (s.tmod 1099511627776), .int .i64 (y5 : Int)] ∧ (y5 : Int) < 1000000000, fun v_ W => ∃ (y1 : Nat), ∃ (y2 : Nat), ∃ (y3 : Nat), ∃ (y5 : Nat), ∃ A1, ∃ n1, ∃ c1, ∃ p, ∃ A2, ∃ n2, ∃ c2, ∃ ob, v_ = .agg (ivoteCells (wrap64 (1 + (y1 : Int))) y2 y3 0 ByteArray.empty (.slice A1 n1 c1) p (.slice A2 n2 c2) (s.tmod 1099511627776) y5 (.slice none 0 0)) ∧ (y1 : Int) < 2 ∧ (y2 : Int) < 1152921504606846976 ∧ (y3 : Int) < 1073741824 ∧ (y5 : Int) < 1000000000 ∧ IdOk W (.slice A1 n1 c1) p (.slice A2 n2 c2) ob, fun v_ W => ∃ ga, v_ = .pointer (some ⟨ga, 0, none⟩) ∧ w.heap.size ≤ ga ∧ W.heap[ga]? = some zvote] E0 (by kernel_rfl) (by kernel_rfl) ?_ ?_ ?_
  · exact .cons (fun _ _ _ h _ => h) (.cons (fun _ _ _ h _ => h) (.cons (fun _ _ _ h _ => h) (.cons (fun _ _ _ h _ => h) (.cons (fun _ _ _ h _ => h) (.cons (fun _ _ _ h _ => h) (.cons (fun _ _ _ h _ => h) (.cons (fun _ _ _ ⟨gb, cb, e_, hb⟩ m => ⟨gb, cb, e_, (fun h => h.mv m) hb⟩) (.cons (fun _ _ _ h _ => h) (.cons (fun _ _ _ h _ => h) (.cons (fun _ _ _ ⟨gb, cb, y4, e_, hy4, hb⟩ m => ⟨gb, cb, y4, e_, hy4, (fun h => h.mv m) hb⟩) (.cons (fun _ _ _ ⟨A1, n1, c1, p, A2, n2, c2, ob, e_, hid⟩ m => ⟨A1, n1, c1, p, A2, n2, c2, ob, e_, (fun h => h.below m.below0) hid⟩) (.cons (fun _ _ _ h _ => h) (.cons (fun _ _ _ h _ => h) (.cons (fun _ _ _ h _ => h) (.cons (fun _ _ _ h _ => h) (.cons (fun _ _ _ h _ => h) (.cons (fun _ _ _ h _ => h) (.cons (fun _ _ _ h _ => h) (.cons (fun _ _ _ ⟨y1, y2, y3, y5, A1, n1, c1, p, A2, n2, c2, ob, e_, k1, k2, k3, k5, hid⟩ m => ⟨y1, y2, y3, y5, A1, n1, c1, p, A2, n2, c2, ob, e_, k1, k2, k3, k5, (fun h => h.below m.below0) hid⟩) (.cons (fun _ _ _ ⟨ga, e_, hg, hz⟩ m => ⟨ga, e_, hg, (fun h => m.blk h rfl) hz⟩) (.nil)))))))))))))))))))))
  · refine .cons ?_ (.cons ?_ (.cons ?_ (.cons ?_ (.cons ?_ (.cons ?_ (.cons ?_ (.cons ?_ (.cons ?_ (.cons ?_ (.cons ?_ (.cons ?_ (.cons ?_ (.cons ?_ (.cons ?_ (.cons ?_ (.cons ?_ (.cons ?_ (.cons ?_ (.cons ?_ (.cons ?_ (.nil)))))))))))))))))))))
    · intro T w_ HM hT hO hN
      have E := Env.nil hT
      have E := E.add ((hO 1 (by kernel_rfl)).trans (E0.get rfl))
      exact Ru.v (dv_move E rfl rfl) rfl ⟨Mv.refl _ _ _, rfl⟩
    · intro T w_ HM hT hO hN
      have E := Env.nil hT
      obtain ⟨v_, h_, rfl⟩ := hN 0 (by kernel_rfl)
      have E := E.add h_
      refine ru_call (f := 4) (args := [.int .i64 kind, .int .i64 2]) E rfl rfl rfl Try.func4 (by kernel_rfl) rfl ((below_c kind 2 _ H1.lo H1.hi (by decide) (by decide)).mono ?_)
      rintro e w1 ⟨y, rfl, hy, rfl⟩
      exact ⟨_, rfl, Mv.refl _ _ _, y, rfl, hy⟩
    · intro T w_ HM hT hO hN
      have E := Env.nil hT
      obtain ⟨v_, h_, y1, rfl, hy1⟩ := hN 1 (by kernel_rfl)
      have E := E.add h_
      exact Ru.v (dv_add E rfl rfl rfl (i64_w _)) rfl ⟨Mv.refl _ _ _, y1, rfl, hy1⟩
    · intro T w_ HM hT hO hN
      have E := Env.nil hT
      have E := E.add ((hO 2 (by kernel_rfl)).trans (E0.get rfl))
      exact Ru.v (dv_move E rfl rfl) rfl ⟨Mv.refl _ _ _, rfl⟩
    · intro T w_ HM hT hO hN
      have E := Env.nil hT
      obtain ⟨v_, h_, rfl⟩ := hN 3 (by kernel_rfl)
      have E := E.add h_
      refine ru_call (f := 4) (args := [.int .i64 height, .int .i64 1152921504606846976]) E rfl rfl rfl Try.func4 (by kernel_rfl) rfl ((below_c height 1152921504606846976 _ H2.lo H2.hi (by decide) (by decide)).mono ?_)
      rintro e w1 ⟨y, rfl, hy, rfl⟩
      exact ⟨_, rfl, Mv.refl _ _ _, y, rfl, hy⟩
    · intro T w_ HM hT hO hN
      have E := Env.nil hT
      have E := E.add ((hO 3 (by kernel_rfl)).trans (E0.get rfl))
      exact Ru.v (dv_move E rfl rfl) rfl ⟨Mv.refl _ _ _, rfl⟩
    · intro T w_ HM hT hO hN
      have E := Env.nil hT
      obtain ⟨v_, h_, rfl⟩ := hN 5 (by kernel_rfl)
      have E := E.add h_
      refine ru_call (f := 4) (args := [.int .i64 round, .int .i64 1073741824]) E rfl rfl rfl Try.func4 (by kernel_rfl) rfl ((below_c round 1073741824 _ H3.lo H3.hi (by decide) (by decide)).mono ?_)
      rintro e w1 ⟨y, rfl, hy, rfl⟩
      exact ⟨_, rfl, Mv.refl _ _ _, y, rfl, hy⟩
    · intro T w_ HM hT hO hN
      have E := Env.nil hT
      refine ru_call (f := 5) (args := []) E rfl rfl rfl Try.func5 (by kernel_rfl) rfl ((blocks_c _).mono ?_)
      rintro e w1 ⟨v, rfl, hr, hb⟩
      obtain ⟨gb, cb, e7⟩ := bks_form hr
      subst e7
      exact ⟨_, rfl, Mv.of_below hb _ _, gb, cb, rfl, _, _, hr⟩
    · intro T w_ HM hT hO hN
      have E := Env.nil hT
      have E := E.add ((hO 4 (by kernel_rfl)).trans (E0.get rfl))
      exact Ru.v (dv_move E rfl rfl) rfl ⟨Mv.refl _ _ _, rfl⟩
    · intro T w_ HM hT hO hN
      have E := Env.nil hT
      obtain ⟨v_, h_, rfl⟩ := hN 8 (by kernel_rfl)
      have E := E.add h_
      refine ru_call (f := 4) (args := [.int .i64 block, .int .i64 4]) E rfl rfl rfl Try.func4 (by kernel_rfl) rfl ((below_c block 4 _ H4.lo H4.hi (by decide) (by decide)).mono ?_)
      rintro e w1 ⟨y, rfl, hy, rfl⟩
      exact ⟨_, rfl, Mv.refl _ _ _, y, rfl, hy⟩
    · intro T w_ HM hT hO hN
      have E := Env.nil hT
      obtain ⟨v_, h_, gb, cb, rfl, hb⟩ := hN 7 (by kernel_rfl)
      have E := E.add h_
      obtain ⟨v_, h_, y9, rfl, hy9⟩ := hN 9 (by kernel_rfl)
      have E := E.add h_
      exact Ru.v (dv_indexAddr (k := 3) E rfl rfl rfl (by kernel_rfl) (by omega) (addr0 _ _)) rfl ⟨Mv.refl _ _ _, gb, cb, y9, rfl, hy9, hb⟩
    · intro T w_ HM hT hO hN
      have E := Env.nil hT
      obtain ⟨v_, h_, gb, cb, y4, rfl, hy4, hb⟩ := hN 10 (by kernel_rfl)
      have E := E.add h_
      obtain ⟨bs, ok, hr⟩ := hb
      obtain ⟨A1, n1, c1, p, A2, n2, c2, ob, hc0, hc1, hc2, hid⟩ := bks_at hr y4 (by omega)
      exact Ru.v (dv_loadRow (k := 3) (vs := #[.slice A1 n1 c1, .int .i64 p, .slice A2 n2 c2]) E rfl rfl (by kernel_rfl) (by kernel_rfl) rfl (row3 hc0 hc1 hc2)) rfl ⟨Mv.refl _ _ _, A1, n1, c1, p, A2, n2, c2, ob, rfl, hid⟩
    · intro T w_ HM hT hO hN
      have E := Env.nil hT
      have E := E.add ((hO 11 (by kernel_rfl)).trans (E0.get rfl))
      exact Ru.v (dv_fieldAddr 0 E rfl rfl (by kernel_rfl) rfl) rfl ⟨Mv.refl _ _ _, rfl⟩
    · intro T w_ HM hT hO hN
      have E := Env.nil hT
      obtain ⟨v_, h_, rfl⟩ := hN 12 (by kernel_rfl)
      have E := E.add h_
      exact Ru.v (dv_load E rfl rfl (by kernel_rfl) (cell_of (HM.blk BX rfl) rfl)) rfl ⟨Mv.refl _ _ _, rfl⟩
    · intro T w_ HM hT hO hN
      have E := Env.nil hT
      obtain ⟨v_, h_, rfl⟩ := hN 13 (by kernel_rfl)
      have E := E.add h_
      exact Ru.v (dv_rem E rfl rfl rfl (by decide) rfl) rfl ⟨Mv.refl _ _ _, rfl⟩
    · intro T w_ HM hT hO hN
      have E := Env.nil hT
      have E := E.add ((hO 11 (by kernel_rfl)).trans (E0.get rfl))
      exact Ru.v (dv_fieldAddr 1 E rfl rfl (by kernel_rfl) rfl) rfl ⟨Mv.refl _ _ _, rfl⟩
    · intro T w_ HM hT hO hN
      have E := Env.nil hT
      obtain ⟨v_, h_, rfl⟩ := hN 15 (by kernel_rfl)
      have E := E.add h_
      exact Ru.v (dv_load E rfl rfl (by kernel_rfl) (cell_of (HM.blk BX rfl) rfl)) rfl ⟨Mv.refl _ _ _, rfl⟩
    · intro T w_ HM hT hO hN
      have E := Env.nil hT
      obtain ⟨v_, h_, rfl⟩ := hN 16 (by kernel_rfl)
      have E := E.add h_
      refine ru_call (f := 4) (args := [.int .i64 ns, .int .i64 1000000000]) E rfl rfl rfl Try.func4 (by kernel_rfl) rfl ((below_c ns 1000000000 _ H6.lo H6.hi (by decide) (by decide)).mono ?_)
      rintro e w1 ⟨y, rfl, hy, rfl⟩
      exact ⟨_, rfl, Mv.refl _ _ _, y, rfl, hy⟩
    · intro T w_ HM hT hO hN
      have E := Env.nil hT
      obtain ⟨v_, h_, rfl⟩ := hN 14 (by kernel_rfl)
      have E := E.add h_
      obtain ⟨v_, h_, y17, rfl, hy17⟩ := hN 17 (by kernel_rfl)
      have E := E.add h_
      exact Ru.v (dv_build (vs := [(0, .int .i64 (s.tmod 1099511627776)), (1, .int .i64 (y17 : Int))]) E rfl rfl (by kernel_rfl)) rfl ⟨Mv.refl _ _ _, y17, rfl, hy17⟩
    · intro T w_ HM hT hO hN
      have E := Env.nil hT
      obtain ⟨v_, h_, y1, rfl, hy1⟩ := hN 2 (by kernel_rfl)
      have E := E.add h_
      obtain ⟨v_, h_, y4, rfl, hy4⟩ := hN 4 (by kernel_rfl)
      have E := E.add h_
      obtain ⟨v_, h_, y6, rfl, hy6⟩ := hN 6 (by kernel_rfl)
      have E := E.add h_
      obtain ⟨v_, h_, A1, n1, c1, p, A2, n2, c2, ob, rfl, hid⟩ := hN 11 (by kernel_rfl)
      have E := E.add h_
      obtain ⟨v_, h_, y5, rfl, hy5⟩ := hN 18 (by kernel_rfl)
      have E := E.add h_
      exact Ru.v (dv_build (vs := [(0, .int .i64 (wrap64 (1 + (y1 : Int)))), (1, .int .i64 (y4 : Int)), (2, .int .i64 (y6 : Int)), (5, .agg #[.slice A1 n1 c1, .int .i64 p, .slice A2 n2 c2]), (6, .agg #[.int .i64 (s.tmod 1099511627776), .int .i64 (y5 : Int)])]) E rfl rfl (by kernel_rfl)) rfl ⟨Mv.refl _ _ _, y1, y4, y6, y5, A1, n1, c1, p, A2, n2, c2, ob, rfl, hy1, hy4, hy6, hy5, hid⟩
    · intro T w_ HM hT hO hN
      have E := Env.nil hT
      exact Ru.v (dv_alloc (z := .agg zcells) rfl (by kernel_rfl)) rfl ⟨mv_alloc _ _ _ _, _, rfl, Nat.le_trans HB.size HM.size, heap_new _ _⟩
  · intro T w_ HM hT hO hN
    have E := Env.nil hT
    obtain ⟨v_, h_, y1, y2, y3, y5, A1, n1, c1, p, A2, n2, c2, ob, rfl, k1, k2, k3, k5, hid⟩ := hN 19 (by kernel_rfl)
    have E := E.add h_
    obtain ⟨v_, h_, ga, rfl, hg, hz⟩ := hN 20 (by kernel_rfl)
    have E := E.add h_
    have E := E.add ((hO 0 (by kernel_rfl)).trans (E0.get rfl))
    refine seq_k (dk_storeAll (k := 11) E rfl rfl rfl rfl (by kernel_rfl) rfl hz rfl) rfl rfl ?_
    refine wpList_nil ?_
    refine hN0 T _ y1 y2 y3 y5 ga A1 n1 c1 p A2 n2 c2 ob k1 k2 k3 k5 (hid.keep hz zcells_no ⟨Nat.le_of_eq setBlk_size.symm, fun i _ hne _ => setBlk_ne hne⟩) ?_ (setBlk_at (heap_lt hz)) (E.sub ⟨rfl, rfl, trivial⟩)
    exact (below_step HB HM.below0).trans (((mv_setBlk hz).below (Nat.le_of_lt (heap_lt hz))).mono hg)
set_option maxHeartbeats 8000000 in
set_option maxRecDepth 1000000 in
theorem message_c (chain : ByteArray) (kind height round block s ns : Int) (w : World) (h1 : InI kind) (h2 : InI height) (h3 : InI round) (h4 : InI block) (h5 : InI s) (h6 : InI ns) :
    Calls Try.prog 3 #[.string chain, .int .i64 kind, .int .i64 height, .int .i64 round, .int .i64 block, .agg #[.int .i64 s, .int .i64 ns]] w fun e w' => e = .returned (.bool true) ∧ Below w.heap.size w w' := by
  go_enter Try.func3, Try.ntmps3
  by_cases hbig : (2147483647 : Int) < chain.size
  · go_wp2
    go_ret
    exact ⟨rfl, below_alloc (Below.refl _ _) _⟩
  · go_wp2_with fail
    rename_i KX hKX
    have hch : chain.size ≤ 2147483647 := by omega
    have HCH := Aside0.mk hch
    clear hch
    refine hideQ (fun N hN => ?_)
    refine msg_r3 N chain kind height round block s ns w h1 h2 h3 h4 h6 _ (Env.lit rfl ⟨rfl, rfl, rfl, rfl, rfl, rfl, trivial⟩) ?_
    intro T w6 y1 y2 y3 y5 ga A1 n1 c1 p A2 n2 c2 ob k1' k2' k3' k5' hI hB h6 E
    refine hN _ _ (hKX _ _ ?_)
    clear hN hKX
    have w1e : wrap64 (1 + (y1 : Int)) = 1 + y1 := w64 _ (by omega) (by omega)
    have hNo : NumOk (wrap64 (1 + (y1 : Int))) y2 y3 (s.tmod 1099511627776) y5 := by
      rw [w1e]
      have hs1 := Int.tmod_lt_of_pos s (show (0 : Int) < 1099511627776 by decide)
      have hs2 := Int.lt_tmod_of_pos s (show (0 : Int) < 1099511627776 by decide)
      exact ⟨⟨by omega, by omega⟩, ⟨by omega, by omega⟩, ⟨by omega, by omega⟩, ⟨by omega, by omega⟩, ⟨by omega, by omega⟩⟩
    obtain ⟨u, rfl⟩ := lit52 E.1
    have e0 : u 0 = .string chain := Option.some.inj (E.get (i := 0) rfl)
    have e13 : u 13 = .pointer (some ⟨ga, 0, none⟩) := Option.some.inj (E.get (i := 13) rfl)
    rw [e0, e13]
    exact msg_tail _ rfl w w6 chain ga _ _ _ A1 n1 c1 p A2 n2 c2 _ _ ob _ _ _ _ _ _ _ _ _ _ _ _ _ _ _ _ _ _ _ _ _ _ _ _ _ _ _ _ _ _ _ _ _ _ _ _ _ _ _ _ _ _ _ _ _ _ _ _ _ _ hNo ⟨hI⟩ ⟨hB⟩ ⟨h6⟩ HCH.out
end Go.Proofs.Ytlnknihjccdgkaa.M
