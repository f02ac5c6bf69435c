-- PRINTED BY print.sh 35421559b90ae4d0a3588c463048766b98c2df88dd9212a6774a882060cdf62d: not written by this session
import Derived.Test.YtlnknihjccdgkaaPFnMessagex0
namespace Go.Proofs.Ytlnknihjccdgkaa.PFnMessage
open Go.RowKit Go.Proofs.YtlnknihjccdgkaaW.PrintWords Go.Proofs.YtlnknihjccdgkaaW.PrintLast Go.Proofs.YtlnknihjccdgkaaW.PrintMore
attribute [local go_sem] max2_int min2_int max_two min_two max_three min_three max_four min_four   -- for this text's walks alone
set_option linter.unusedVariables false
set_option linter.unusedSimpArgs false

/-! ### spec_Block_None: function 12 -/
def spec_Block_None.f (l0_0 : List Int) (a0_1 : Int) (l0_2 : List Int) : Option (Bool) := if (l0_0.length : Int) = 0 then (if a0_1 = 0 then (some ((l0_2.length : Int) == 0)) else (some false)) else (some false)
set_option maxHeartbeats 8000000 in
set_option maxRecDepth 100000 in
theorem spec_Block_None.calls (A0_0 : Option Addr) (c0_0 : Nat) (l0_0 : List Int) (a0_1 : Int) (A0_2 : Option Addr) (c0_2 : Nat) (l0_2 : List Int) (r : Bool) (w : World) (hr0_0 : Kd.C (Kd.int .u8) w A0_0 l0_0.length l0_0) (hc0_0 : l0_0.length ≤ c0_0) (hr0_2 : Kd.C (Kd.int .u8) w A0_2 l0_2.length l0_2) (hc0_2 : l0_2.length ≤ c0_2) (h : spec_Block_None.f l0_0 a0_1 l0_2 = some r) :
    Calls Try.prog 12 #[.agg #[.slice A0_0 l0_0.length c0_0, .int .i64 a0_1, .slice A0_2 l0_2.length c0_2]] w fun e w' => e = .returned (.bool r) ∧ Below w.heap.size w w' := by
  have hu33 := Try.underlying33
  have HR0_0 := Aside0.mk hr0_0
  have HC0_0 := Aside0.mk hc0_0
  clear hr0_0 hc0_0
  have HR0_2 := Aside0.mk hr0_2
  have HC0_2 := Aside0.mk hc0_2
  clear hr0_2 hc0_2
  have HB := Aside0.mk (Below.refl w.heap.size w)
  have H : (if (l0_0.length : Int) = 0 then (if a0_1 = 0 then (some ((l0_2.length : Int) == 0)) else (some false)) else (some false)) = some r := h
  clear h
  by_cases c2 : (l0_0.length : Int) = 0
  · rw [if_pos c2] at H
    have c2b0 : ((l0_0.length : Int) == 0) = true := beq_iff_eq.mpr c2
    have c2b1 : ((l0_0.length : Int) != 0) = false := bne_eq_false_iff_eq.mpr c2
    clear c2
    by_cases c3 : a0_1 = 0
    · rw [if_pos c3] at H
      have c3b0 : (a0_1 == 0) = true := beq_iff_eq.mpr c3
      have c3b1 : (a0_1 != 0) = false := bne_eq_false_iff_eq.mpr c3
      clear c3
      obtain rfl := Option.some.inj H
      go_enter Try.func12, Try.ntmps12
      go_wp2_with (first | ((with_reducible refine gate_dst (N := 1) rfl ?_); (try (refine gate_guard (by rfl) ?_; dsimp only)); refine box_event ?hg (N := 1) ?hd (cs := #[.slice A0_0 l0_0.length c0_0, .int .i64 a0_1, .slice A0_2 l0_2.length c0_2]) (t := 33) ?hr ?_; (case hd => rfl); (case hg => rfl); (case hr => first | (go_simp; done) | (go_simp; rfl)); intro gb184 hg w4 hbox hb; have n0_ := Aside0.mk (below_step (by repeat (first | (with_reducible first | exact HB.out | apply below_alloc | apply pw_below_drewN | apply below_drew1) | exact HB.out)) hb); have n1_ := Aside0.mk (hbox); have n2_ := Aside0.mk ((by rw [hg]; exact (below_size (by repeat (first | (with_reducible first | exact HB.out | apply below_alloc | apply pw_below_drewN | apply below_drew1) | exact HB.out))) : w.heap.size ≤ gb184)); have n3_ := Aside0.mk ((by rw [hg]; exact (below_size (by repeat (first | (with_reducible first | exact HB.out | apply below_alloc | apply pw_below_drewN | apply below_drew1) | exact HB.out))) : w.heap.size ≤ gb184)); clear HB; have HB := n0_; have BK184 := n1_; have GW184 := n2_; have GE184 := n3_; clear n0_ n1_ n2_ n3_; clear hb hbox hg; have hcz5_0 : w4.cell? ⟨gb184, 0, none⟩ = some (.slice A0_0 l0_0.length c0_0) := (blk_cell BK184.out 0).trans rfl; have hcz5_1 : w4.cell? ⟨gb184, 1, none⟩ = some (.int .i64 a0_1) := (blk_cell BK184.out 1).trans rfl; have hcz5_2 : w4.cell? ⟨gb184, 2, none⟩ = some (.slice A0_2 l0_2.length c0_2) := (blk_cell BK184.out 2).trans rfl; have hfz5_0 := blk_frozen BK184.out 0; have hfz5_1 := blk_frozen BK184.out 1; have hfz5_2 := blk_frozen BK184.out 2))
      go_ret
      exact ⟨by first | rfl | (simp [errW_none, errW_some] <;> rfl) | (simp [*, errW_none, errW_some] <;> rfl), by repeat (first | (with_reducible first | exact HB.out | apply below_alloc | apply pw_below_drewN | apply below_drew1 | refine below_set ?_ GE184.out) | exact HB.out)⟩
    · rw [if_neg c3] at H
      have c3b0 : (a0_1 == 0) = false := beq_eq_false_iff_ne.mpr c3
      have c3b1 : (a0_1 != 0) = true := bne_iff_ne.mpr c3
      obtain rfl := Option.some.inj H
      go_enter Try.func12, Try.ntmps12
      go_wp2_with (first | ((with_reducible refine gate_dst (N := 1) rfl ?_); (try (refine gate_guard (by rfl) ?_; dsimp only)); refine box_event ?hg (N := 1) ?hd (cs := #[.slice A0_0 l0_0.length c0_0, .int .i64 a0_1, .slice A0_2 l0_2.length c0_2]) (t := 33) ?hr ?_; (case hd => rfl); (case hg => rfl); (case hr => first | (go_simp; done) | (go_simp; rfl)); intro gb184 hg w6 hbox hb; have n0_ := Aside0.mk (below_step (by repeat (first | (with_reducible first | exact HB.out | apply below_alloc | apply pw_below_drewN | apply below_drew1) | exact HB.out)) hb); have n1_ := Aside0.mk (hbox); have n2_ := Aside0.mk ((by rw [hg]; exact (below_size (by repeat (first | (with_reducible first | exact HB.out | apply below_alloc | apply pw_below_drewN | apply below_drew1) | exact HB.out))) : w.heap.size ≤ gb184)); have n3_ := Aside0.mk ((by rw [hg]; exact (below_size (by repeat (first | (with_reducible first | exact HB.out | apply below_alloc | apply pw_below_drewN | apply below_drew1) | exact HB.out))) : w.heap.size ≤ gb184)); clear HB; have HB := n0_; have BK184 := n1_; have GW184 := n2_; have GE184 := n3_; clear n0_ n1_ n2_ n3_; clear hb hbox hg; have hcz7_0 : w6.cell? ⟨gb184, 0, none⟩ = some (.slice A0_0 l0_0.length c0_0) := (blk_cell BK184.out 0).trans rfl; have hcz7_1 : w6.cell? ⟨gb184, 1, none⟩ = some (.int .i64 a0_1) := (blk_cell BK184.out 1).trans rfl; have hcz7_2 : w6.cell? ⟨gb184, 2, none⟩ = some (.slice A0_2 l0_2.length c0_2) := (blk_cell BK184.out 2).trans rfl; have hfz7_0 := blk_frozen BK184.out 0; have hfz7_1 := blk_frozen BK184.out 1; have hfz7_2 := blk_frozen BK184.out 2))
      go_ret
      exact ⟨by first | rfl | (simp [errW_none, errW_some] <;> rfl) | (simp [*, errW_none, errW_some] <;> rfl), by repeat (first | (with_reducible first | exact HB.out | apply below_alloc | apply pw_below_drewN | apply below_drew1 | refine below_set ?_ GE184.out) | exact HB.out)⟩
  · rw [if_neg c2] at H
    have c2b0 : ((l0_0.length : Int) == 0) = false := beq_eq_false_iff_ne.mpr c2
    have c2b1 : ((l0_0.length : Int) != 0) = true := bne_iff_ne.mpr c2
    have c2b2 : ¬ (l0_0 = []) := fun h_ => c2 (by rw [h_]; rfl)
    obtain rfl := Option.some.inj H
    go_enter Try.func12, Try.ntmps12
    go_wp2_with (first | ((with_reducible refine gate_dst (N := 1) rfl ?_); (try (refine gate_guard (by rfl) ?_; dsimp only)); refine box_event ?hg (N := 1) ?hd (cs := #[.slice A0_0 l0_0.length c0_0, .int .i64 a0_1, .slice A0_2 l0_2.length c0_2]) (t := 33) ?hr ?_; (case hd => rfl); (case hg => rfl); (case hr => first | (go_simp; done) | (go_simp; rfl)); intro gb184 hg w8 hbox hb; have n0_ := Aside0.mk (below_step (by repeat (first | (with_reducible first | exact HB.out | apply below_alloc | apply pw_below_drewN | apply below_drew1) | exact HB.out)) hb); have n1_ := Aside0.mk (hbox); have n2_ := Aside0.mk ((by rw [hg]; exact (below_size (by repeat (first | (with_reducible first | exact HB.out | apply below_alloc | apply pw_below_drewN | apply below_drew1) | exact HB.out))) : w.heap.size ≤ gb184)); have n3_ := Aside0.mk ((by rw [hg]; exact (below_size (by repeat (first | (with_reducible first | exact HB.out | apply below_alloc | apply pw_below_drewN | apply below_drew1) | exact HB.out))) : w.heap.size ≤ gb184)); clear HB; have HB := n0_; have BK184 := n1_; have GW184 := n2_; have GE184 := n3_; clear n0_ n1_ n2_ n3_; clear hb hbox hg; have hcz9_0 : w8.cell? ⟨gb184, 0, none⟩ = some (.slice A0_0 l0_0.length c0_0) := (blk_cell BK184.out 0).trans rfl; have hcz9_1 : w8.cell? ⟨gb184, 1, none⟩ = some (.int .i64 a0_1) := (blk_cell BK184.out 1).trans rfl; have hcz9_2 : w8.cell? ⟨gb184, 2, none⟩ = some (.slice A0_2 l0_2.length c0_2) := (blk_cell BK184.out 2).trans rfl; have hfz9_0 := blk_frozen BK184.out 0; have hfz9_1 := blk_frozen BK184.out 1; have hfz9_2 := blk_frozen BK184.out 2))
    go_ret
    exact ⟨by first | rfl | (simp [errW_none, errW_some] <;> rfl) | (simp [*, errW_none, errW_some] <;> rfl), by repeat (first | (with_reducible first | exact HB.out | apply below_alloc | apply pw_below_drewN | apply below_drew1 | refine below_set ?_ GE184.out) | exact HB.out)⟩

/-! ### spec_counted: function 20 -/
def spec_counted.l0 : Nat → List Int → Int → Option (List Int)
  | 0, _, _ => none
  | k + 1, x3, x4 => if x4 > 127 then (if x3.length < 140737488355328 then (spec_counted.l0 k (x3 ++ [Go.bits .or .u8 ((Go.bits .and .u64 x4 127) % 256) 128]) (x4 / 128)) else (none)) else (if x3.length < 140737488355328 then (some (x3 ++ [(x4) % 256])) else (none))
def spec_counted.f (k : Nat) (a0 : Int) : Option (List Int) := spec_counted.l0 k ([] : List Int) (IntKind.u64.wrap (a0))
theorem spec_counted.mono_l : ∀ k, (∀ y0 y1, LeO (spec_counted.l0 k y0 y1) (spec_counted.l0 (k + 1) y0 y1))
  | 0 => fun _ _ r h => by simp [spec_counted.l0] at h
  | k + 1 => by
    have ih0 := spec_counted.mono_l k
    · intro y0 y1
      unfold spec_counted.l0
      repeat' first
      | (with_reducible exact ih0 _ _)
      | (with_reducible exact LeO.refl _)
      | (with_reducible exact LeO.none _)
      | (with_reducible refine LeO.ite ?_ ?_)
      | (with_reducible refine LeO.bind ?_ (fun _ => ?_))
      | exact ih0 _ _
      | exact LeO.none _
      | refine LeO.ite ?_ ?_
      | refine LeO.bind ?_ (fun _ => ?_)
theorem spec_counted.mono : ∀ a0 k, LeO (spec_counted.f k a0) (spec_counted.f (k + 1) a0) := by
  intro a0 k
  have ih0 := spec_counted.mono_l k
  unfold spec_counted.f
  repeat' first
      | (with_reducible exact ih0 _ _)
      | (with_reducible exact LeO.refl _)
      | (with_reducible exact LeO.none _)
      | (with_reducible refine LeO.ite ?_ ?_)
      | (with_reducible refine LeO.bind ?_ (fun _ => ?_))
      | exact ih0 _ _
      | exact LeO.none _
      | refine LeO.ite ?_ ?_
      | refine LeO.bind ?_ (fun _ => ?_)
set_option maxHeartbeats 8000000 in
set_option maxRecDepth 100000 in
theorem spec_counted.calls (k : Nat) (a0 : Int) (r : List Int) (w : World) (h : spec_counted.f k a0 = some r) :
    Calls Try.prog 20 #[.int .i64 a0] w fun e w' => ∃ v0_ : Value, e = .returned (v0_) ∧ Kd.R (Kd.int .u8) 5 w' w.heap.size (fun _ => True) v0_ r ∧ Below w.heap.size w w' := by
  have HB := Aside0.mk (Below.refl w.heap.size w)
  have H : (spec_counted.l0 k ([] : List Int) (IntKind.u64.wrap (a0))) = some r := h
  clear h
  have H' := Aside0.mk H
  clear H
  go_enter Try.func20, Try.ntmps20
  go_wp2
  go_loopg [3, 4] k (fun kq v3 v4 w' => ∃ (x3_1 : List Int) (x4_1 : Int), v4 = .int .u64 x4_1 ∧ Aside0 (spec_counted.l0 kq x3_1 x4_1 = some r) ∧ Aside0 (kq ≤ k) ∧ Aside0 (Kd.R (Kd.int .u8) 5 w' w.heap.size (fun _ => True) v3 x3_1) ∧ Aside0 (Below w.heap.size w w'))
  case atStart => exact ⟨(([] : List Int)), (IntKind.u64.wrap (a0)), (by first | rfl | (simp; done) | (simp [*]; done)), H', ⟨Nat.le_refl _⟩, ⟨by first | exact Kd.R_nil _ _ _ _ _ | exact Kd.N_nil _ _ _ _ _ | exact Kd.V_nil _ _ _ _ _ | exact Kd.Q_nil _ _ _ _ _ | exact Kd.S_nil _ _ _ _ _⟩, ⟨by repeat (first | (with_reducible first | exact HB.out | apply below_alloc | apply pw_below_drewN | apply below_drew1) | exact HB.out)⟩⟩
  case round =>
    clear H'
    obtain ⟨x3_1, x4_1, rfl, HA, HK1, HO_3, HB⟩ := hrel
    cases gk with
    | zero => exact absurd HA.out (by simp [spec_counted.l0])
    | succ k1 =>
      have H := HA.out
      clear HA
      simp only [spec_counted.l0] at H
      by_cases c2 : x4_1 > 127
      · rw [if_pos c2] at H
        have c2b0 : decide (127 < x4_1) = true := decide_eq_true c2
        clear c2
        by_cases c3 : x3_1.length < 140737488355328
        · rw [if_pos c3] at H
          have LMc3 := Aside0.mk c3
          clear c3
          obtain ⟨y185, hy185⟩ : ∃ y_ : List Int, y_ = (x3_1 ++ [Go.bits .or .u8 ((Go.bits .and .u64 x4_1 127) % 256) 128]) := ⟨_, rfl⟩
          replace H : (spec_counted.l0 k1 y185 (x4_1 / 128)) = some r := by first | (rw [hy185]; with_reducible exact H) | (have H2_ := (Option.bind_some _ _).symm.trans H; rw [hy185]; with_reducible exact H2_) | (have H2_ := (Option.bind_some _ _).symm.trans H; with_reducible exact H2_) | with_reducible exact H | (rw [hy185]; exact H) | exact H
          have Ny185 := Aside0.mk hy185
          clear hy185
          have H' := Aside0.mk H
          clear H
          go_wp2_with (first | ((with_reducible refine gate_builtin (b := .append) (xs := #[.tmp 9, .tmp 14]) rfl ?_); at_builtin; refine Kd.R_append (Kd.int .u8) (w0 := w) w.heap.size rfl (.tmp 9) (.tmp 14) 25 5 (.int .u8 0) 1 rfl Try.underlying25 info5 rfl (by decide) (by omega) u3 x3_1 (Go.bits .or .u8 ((Go.bits .and .u64 x4_1 127) % 256) 128) [.int .u8 (Go.bits .or .u8 ((Go.bits .and .u64 x4_1 127) % 256) 128)] (fun _ => True) (fun _ => False) rfl rfl ?aP (fun _ hk => hk.elim) ?aF ?aO ?aB ?aS ?aL ?_; (case aP => exact rfl); (case aB => exact (by repeat (first | (with_reducible first | exact HB.out | apply below_alloc | apply pw_below_drewN | apply below_drew1) | exact HB.out))); (case aF => exact (fun _ _ => trivial)); (case aO => exact (by (with_reducible repeat (first | apply Kd.R_alloc | apply Kd.R_drewN | apply Kd.R_drew)); exact HO_3.out)); (case aS => exact (below_size (by repeat (first | (with_reducible first | exact HB.out | apply below_alloc | apply pw_below_drewN | apply below_drew1) | exact HB.out)))); (case aL => have := LMc3.out; omega); intro v186 w4 ho hb hg hat; rw [← Ny185.out] at ho; have n0_ := Aside0.mk (hb); have n1_ := Aside0.mk (ho); clear HB; clear HO_3; have HB := n0_; have HO187 := n1_; clear n0_ n1_; clear ho hb hg hat))
          go_roundg k1
          case measure => have := HK1.out; omega
          case rel => exact ⟨(y185), (x4_1 / 128), (by first | rfl | (simp; done) | (simp [*]; done)), H', ⟨by have := HK1.out; omega⟩, ⟨by (with_reducible repeat (first | apply Kd.R_alloc | apply Kd.R_drewN | apply Kd.R_drew)); exact HO187.out⟩, ⟨by repeat (first | (with_reducible first | exact HB.out | apply below_alloc | apply pw_below_drewN | apply below_drew1) | exact HB.out)⟩⟩
        · rw [if_neg c3] at H
          exact absurd H (by simp)
      · rw [if_neg c2] at H
        have c2b0 : decide (127 < x4_1) = false := decide_eq_false c2
        clear c2
        by_cases c5 : x3_1.length < 140737488355328
        · rw [if_pos c5] at H
          have LMc5 := Aside0.mk c5
          clear c5
          obtain ⟨y188, hy188⟩ : ∃ y_ : List Int, y_ = (x3_1 ++ [(x4_1) % 256]) := ⟨_, rfl⟩
          replace H : (some y188) = some r := by first | (rw [hy188]; with_reducible exact H) | (have H2_ := (Option.bind_some _ _).symm.trans H; rw [hy188]; with_reducible exact H2_) | (have H2_ := (Option.bind_some _ _).symm.trans H; with_reducible exact H2_) | with_reducible exact H | (rw [hy188]; exact H) | exact H
          have Ny188 := Aside0.mk hy188
          clear hy188
          obtain rfl := Option.some.inj H
          go_wp2_with (first | ((with_reducible refine gate_builtin (b := .append) (xs := #[.tmp 18, .tmp 21]) rfl ?_); at_builtin; refine Kd.R_append (Kd.int .u8) (w0 := w) w.heap.size rfl (.tmp 18) (.tmp 21) 25 5 (.int .u8 0) 1 rfl Try.underlying25 info5 rfl (by decide) (by omega) u3 x3_1 ((x4_1) % 256) [.int .u8 ((x4_1) % 256)] (fun _ => True) (fun _ => False) rfl rfl ?aP (fun _ hk => hk.elim) ?aF ?aO ?aB ?aS ?aL ?_; (case aP => exact rfl); (case aB => exact (by repeat (first | (with_reducible first | exact HB.out | apply below_alloc | apply pw_below_drewN | apply below_drew1) | exact HB.out))); (case aF => exact (fun _ _ => trivial)); (case aO => exact (by (with_reducible repeat (first | apply Kd.R_alloc | apply Kd.R_drewN | apply Kd.R_drew)); exact HO_3.out)); (case aS => exact (below_size (by repeat (first | (with_reducible first | exact HB.out | apply below_alloc | apply pw_below_drewN | apply below_drew1) | exact HB.out)))); (case aL => have := LMc5.out; omega); intro v189 w6 ho hb hg hat; rw [← Ny188.out] at ho; have n0_ := Aside0.mk (hb); have n1_ := Aside0.mk (ho); clear HB; clear HO_3; have HB := n0_; have HO190 := n1_; clear n0_ n1_; clear ho hb hg hat))
          go_ret
          exact ⟨_, by first | rfl | (simp [errW_none, errW_some] <;> rfl) | (simp [*, errW_none, errW_some] <;> rfl), by (with_reducible repeat (first | apply Kd.R_alloc | apply Kd.R_drewN | apply Kd.R_drew)); exact HO190.out, by repeat (first | (with_reducible first | exact HB.out | apply below_alloc | apply pw_below_drewN | apply below_drew1) | exact HB.out)⟩
        · rw [if_neg c5] at H
          exact absurd H (by simp)

/-! ### spec_within: function 13 -/
def spec_within.f (k : Nat) (a0 : Int) (l1 : List Int) : Option (List Int) := (spec_counted.f k (Go.bits .or .i64 (wrap64 (a0 * 8)) 2)).bind fun t191 => ((spec_counted.f k (l1.length : Int)).bind fun t194 => (if t191.length + t194.length < 140737488355328 then ((some (t191 ++ t194 : List Int)).bind fun y197 => (if y197.length + l1.length < 140737488355328 then (some (y197 ++ l1)) else (none))) else (none)))
theorem spec_within.mono : ∀ a0 a1 k, LeO (spec_within.f k a0 a1) (spec_within.f (k + 1) a0 a1) := by
  intro a0 a1 k
  unfold spec_within.f
  repeat' first
      | (with_reducible exact spec_counted.mono _ _)
      | (with_reducible exact LeO.refl _)
      | (with_reducible exact LeO.none _)
      | (with_reducible refine LeO.ite ?_ ?_)
      | (with_reducible refine LeO.bind ?_ (fun _ => ?_))
      | exact spec_counted.mono _ _
      | exact LeO.none _
      | refine LeO.ite ?_ ?_
      | refine LeO.bind ?_ (fun _ => ?_)
set_option maxHeartbeats 8000000 in
set_option maxRecDepth 100000 in
theorem spec_within.calls (k : Nat) (a0 : Int) (A1 : Option Addr) (c1 : Nat) (l1 : List Int) (r : List Int) (w : World) (hr1 : Kd.C (Kd.int .u8) w A1 l1.length l1) (hc1 : l1.length ≤ c1) (h : spec_within.f k a0 l1 = some r) :
    Calls Try.prog 13 #[.int .i64 a0, .slice A1 l1.length c1] w fun e w' => ∃ v0_ : Value, e = .returned (v0_) ∧ Kd.R (Kd.int .u8) 5 w' w.heap.size (fun _ => True) v0_ r ∧ Below w.heap.size w w' := by
  have HR1 := Aside0.mk hr1
  have HC1 := Aside0.mk hc1
  clear hr1 hc1
  have HB := Aside0.mk (Below.refl w.heap.size w)
  have H : ((spec_counted.f k (Go.bits .or .i64 (wrap64 (a0 * 8)) 2)).bind fun t191 => ((spec_counted.f k (l1.length : Int)).bind fun t194 => (if t191.length + t194.length < 140737488355328 then ((some (t191 ++ t194 : List Int)).bind fun y197 => (if y197.length + l1.length < 140737488355328 then (some (y197 ++ l1)) else (none))) else (none)))) = some r := h
  clear h
  replace H := Option.bind_eq_some_iff.mp H
  obtain ⟨t191, A30, H⟩ := H
  replace H : ((spec_counted.f k (l1.length : Int)).bind fun t194 => (if t191.length + t194.length < 140737488355328 then ((some (t191 ++ t194 : List Int)).bind fun y197 => (if y197.length + l1.length < 140737488355328 then (some (y197 ++ l1)) else (none))) else (none))) = some r := H
  have A3 := Aside0.mk A30
  clear A30
  replace H := Option.bind_eq_some_iff.mp H
  obtain ⟨t194, A40, H⟩ := H
  replace H : (if t191.length + t194.length < 140737488355328 then ((some (t191 ++ t194 : List Int)).bind fun y197 => (if y197.length + l1.length < 140737488355328 then (some (y197 ++ l1)) else (none))) else (none)) = some r := H
  have A4 := Aside0.mk A40
  clear A40
  by_cases c5 : t191.length + t194.length < 140737488355328
  · rw [if_pos c5] at H
    have LMc5 := Aside0.mk c5
    clear c5
    obtain ⟨y197, hy197⟩ : ∃ y_ : List Int, y_ = (t191 ++ t194) := ⟨_, rfl⟩
    replace H : (if y197.length + l1.length < 140737488355328 then (some (y197 ++ l1)) else (none)) = some r := by first | (rw [hy197]; with_reducible exact H) | (have H2_ := (Option.bind_some _ _).symm.trans H; rw [hy197]; with_reducible exact H2_) | (have H2_ := (Option.bind_some _ _).symm.trans H; with_reducible exact H2_) | with_reducible exact H | (rw [hy197]; exact H) | exact H
    have Ny197 := Aside0.mk hy197
    clear hy197
    by_cases c6 : y197.length + l1.length < 140737488355328
    · rw [if_pos c6] at H
      have LMc6 := Aside0.mk c6
      clear c6
      obtain ⟨y200, hy200⟩ : ∃ y_ : List Int, y_ = (y197 ++ l1) := ⟨_, rfl⟩
      replace H : (some y200) = some r := by first | (rw [hy200]; with_reducible exact H) | (have H2_ := (Option.bind_some _ _).symm.trans H; rw [hy200]; with_reducible exact H2_) | (have H2_ := (Option.bind_some _ _).symm.trans H; with_reducible exact H2_) | with_reducible exact H | (rw [hy200]; exact H) | exact H
      have Ny200 := Aside0.mk hy200
      clear hy200
      obtain rfl := Option.some.inj H
      go_enter Try.func13, Try.ntmps13
      go_wp2_with (first | ((with_reducible refine gate_callee (f := 20) rfl ?_); refine goesL_ (some 8) rfl rfl Try.func20 (by kernel_rfl) rfl #[.int .i64 (Go.bits .or .i64 (wrap64 (a0 * 8)) 2)] rfl (by (try simp only [List.map_toArray, List.map_cons, List.map_nil]); first | done | rfl | (simp only [List.length_drop, List.length_take]; rfl)) ?_; (with_reducible refine (spec_counted.calls k (Go.bits .or .i64 (wrap64 (a0 * 8)) 2) t191 _ A3.out).mono ?_); rintro e w7 ⟨v192, rfl, ho0, hb⟩; refine ⟨_, rfl, ?_⟩; have n0_ := Aside0.mk (Kd.R_lower ho0 (below_size (by repeat (first | (with_reducible first | exact HB.out | apply below_alloc | apply pw_below_drewN | apply below_drew1) | exact HB.out)))); have n1_ := Aside0.mk (below_step (by repeat (first | (with_reducible first | exact HB.out | apply below_alloc | apply pw_below_drewN | apply below_drew1) | exact HB.out)) hb); clear HB; have HO193 := n0_; have HB := n1_; clear n0_ n1_; (try clear hb); (try clear hb2); (try clear hk); (try clear hi); (try clear ho0)) | ((with_reducible refine gate_callee (f := 20) rfl ?_); refine goesL_ (some 11) rfl rfl Try.func20 (by kernel_rfl) rfl #[.int .i64 (l1.length : Int)] rfl (by (try simp only [List.map_toArray, List.map_cons, List.map_nil]); first | done | rfl | (simp only [List.length_drop, List.length_take]; rfl)) ?_; (with_reducible refine (spec_counted.calls k (l1.length : Int) t194 _ A4.out).mono ?_); rintro e w8 ⟨v195, rfl, ho0, hb⟩; refine ⟨_, rfl, ?_⟩; have n0_ := Aside0.mk (Kd.R_elder' (by (with_reducible repeat (first | apply Kd.R_alloc | apply Kd.R_drewN | apply Kd.R_drew)); exact HO193.out) (Kd.R_base ho0) hb); have n1_ := Aside0.mk (Kd.R_lower (Kd.R_new' ho0 (Kd.R_lt (by (with_reducible repeat (first | apply Kd.R_alloc | apply Kd.R_drewN | apply Kd.R_drew)); exact HO193.out))) (below_size (by repeat (first | (with_reducible first | exact HB.out | apply below_alloc | apply pw_below_drewN | apply below_drew1) | exact HB.out)))); have n2_ := Aside0.mk (below_step (by repeat (first | (with_reducible first | exact HB.out | apply below_alloc | apply pw_below_drewN | apply below_drew1) | exact HB.out)) hb); clear HO193; clear HB; have HO193 := n0_; have HO196 := n1_; have HB := n2_; clear n0_ n1_ n2_; (try clear hb); (try clear hb2); (try clear hk); (try clear hi); (try clear ho0); obtain ⟨Ao10, co10, eo10⟩ := Kd.R_slice HO196.out; subst eo10) | ((with_reducible refine gate_builtin (b := .append) (xs := #[.tmp 8, .tmp 11]) rfl ?_); at_builtin; refine Kd.R_append_rows (Kd.int .u8) (w0 := w) w.heap.size rfl (.tmp 8) (.tmp 11) 25 5 (.int .u8 0) 1 rfl Try.underlying25 info5 rfl (by decide) (by omega) v192 t191 t194 _ _ _ (fun k_ => some k_ ≠ (.slice Ao10 t194.length co10 : Value).ownBlock) (fun _ => False) rfl rfl ?aO ?aR (fun _ _ h => h) (fun _ h => h.elim) ?aF ?aB ?aS ?aL ?_; (case aR => repeat (first | exact (Kd.R_reads' HO196.out).2.2 | (with_reducible refine Kd.C_alloc ?_ _) | (with_reducible refine Kd.C_drewN ?_ _) | (with_reducible refine Kd.C_drew ?_))); (case aB => exact (by repeat (first | (with_reducible first | exact HB.out | apply below_alloc | apply pw_below_drewN | apply below_drew1) | exact HB.out))); (case aF => exact (fun k_ hk => Kd.fresh' (Kd.R_lt (by (with_reducible repeat (first | apply Kd.R_alloc | apply Kd.R_drewN | apply Kd.R_drew)); exact HO196.out)) k_ hk)); (case aO => exact (by (with_reducible repeat (first | apply Kd.R_alloc | apply Kd.R_drewN | apply Kd.R_drew)); exact Kd.R_mono HO193.out (fun _ hk => hk.2))); (case aS => exact (below_size (by repeat (first | (with_reducible first | exact HB.out | apply below_alloc | apply pw_below_drewN | apply below_drew1) | exact HB.out)))); (case aL => have := LMc5.out; omega); intro v198 w9 ho hb hg hat; rw [← Ny197.out] at ho; have n0_ := Aside0.mk (Kd.R_after (ok := (fun _ => True)) (by (with_reducible repeat (first | apply Kd.R_alloc | apply Kd.R_drewN | apply Kd.R_drew)); exact HO196.out) hg hat); have n1_ := Aside0.mk (hb); have n2_ := Aside0.mk (ho); clear HO196; clear HB; clear HO193; have HO196 := n0_; have HB := n1_; have HO199 := n2_; clear n0_ n1_ n2_; clear ho hb hg hat) | ((with_reducible refine gate_builtin (b := .append) (xs := #[.tmp 12, .tmp 13]) rfl ?_); at_builtin; refine Kd.R_append_rows (Kd.int .u8) (w0 := w) w.heap.size rfl (.tmp 12) (.tmp 13) 25 5 (.int .u8 0) 1 rfl Try.underlying25 info5 rfl (by decide) (by omega) v198 y197 l1 _ _ _ (fun k_ => some k_ ≠ (.slice Ao10 t194.length co10 : Value).ownBlock) (fun _ => False) rfl rfl ?aO ?aR (fun _ _ h => h) (fun _ h => h.elim) ?aF ?aB ?aS ?aL ?_; (case aR => repeat (first | exact (Kd.C_below HR1.out HB.out) | (with_reducible refine Kd.C_alloc ?_ _) | (with_reducible refine Kd.C_drewN ?_ _) | (with_reducible refine Kd.C_drew ?_))); (case aB => exact (by repeat (first | (with_reducible first | exact HB.out | apply below_alloc | apply pw_below_drewN | apply below_drew1) | exact HB.out))); (case aF => exact (fun k_ hk => Kd.fresh' (Kd.R_lt (by (with_reducible repeat (first | apply Kd.R_alloc | apply Kd.R_drewN | apply Kd.R_drew)); exact HO196.out)) k_ hk)); (case aO => exact (by (with_reducible repeat (first | apply Kd.R_alloc | apply Kd.R_drewN | apply Kd.R_drew)); exact HO199.out)); (case aS => exact (below_size (by repeat (first | (with_reducible first | exact HB.out | apply below_alloc | apply pw_below_drewN | apply below_drew1) | exact HB.out)))); (case aL => have := LMc6.out; omega); intro v201 w11 ho hb hg hat; rw [← Ny200.out] at ho; have n0_ := Aside0.mk (Kd.R_after (ok := (fun _ => True)) (by (with_reducible repeat (first | apply Kd.R_alloc | apply Kd.R_drewN | apply Kd.R_drew)); exact HO196.out) hg hat); have n1_ := Aside0.mk (hb); have n2_ := Aside0.mk (ho); clear HO196; clear HB; clear HO199; have HO196 := n0_; have HB := n1_; have HO202 := n2_; clear n0_ n1_ n2_; clear ho hb hg hat))
      go_ret
      exact ⟨_, by first | rfl | (simp [errW_none, errW_some] <;> rfl) | (simp [*, errW_none, errW_some] <;> rfl), by (with_reducible repeat (first | apply Kd.R_alloc | apply Kd.R_drewN | apply Kd.R_drew)); exact Kd.R_mono HO202.out (fun _ hk => trivial), by repeat (first | (with_reducible first | exact HB.out | apply below_alloc | apply pw_below_drewN | apply below_drew1) | exact HB.out)⟩
    · rw [if_neg c6] at H
      exact absurd H (by simp)
  · rw [if_neg c5] at H
    exact absurd H (by simp)

/-! ### spec_joined: function 15 -/
def spec_joined.l0 : Nat → List Int → List (List Int) → Int → Int → Option (List Int)
  | 0, _, _, _, _ => none
  | k + 1, x3, x6, x7, x8 => if x8 < x7 then (if 0 ≤ x8 then (if x8 < (x6.length : Int) then (if x3.length + (rd_L1 x6 x8).length < 140737488355328 then (spec_joined.l0 k (x3 ++ (rd_L1 x6 x8)) x6 x7 (wrap64 (x8 + 1))) else (none)) else (none)) else (none)) else (some x3)
def spec_joined.f (k : Nat) (l0 : List (List Int)) : Option (List Int) := spec_joined.l0 k ([] : List Int) l0 (l0.length : Int) 0
theorem spec_joined.mono_l : ∀ k, (∀ y0 y1 y2 y3, LeO (spec_joined.l0 k y0 y1 y2 y3) (spec_joined.l0 (k + 1) y0 y1 y2 y3))
  | 0 => fun _ _ _ _ r h => by simp [spec_joined.l0] at h
  | k + 1 => by
    have ih0 := spec_joined.mono_l k
    · intro y0 y1 y2 y3
      unfold spec_joined.l0
      repeat' first
      | (with_reducible exact ih0 _ _ _ _)
      | (with_reducible exact LeO.refl _)
      | (with_reducible exact LeO.none _)
      | (with_reducible refine LeO.ite ?_ ?_)
      | (with_reducible refine LeO.bind ?_ (fun _ => ?_))
      | exact ih0 _ _ _ _
      | exact LeO.none _
      | refine LeO.ite ?_ ?_
      | refine LeO.bind ?_ (fun _ => ?_)
theorem spec_joined.mono : ∀ a0 k, LeO (spec_joined.f k a0) (spec_joined.f (k + 1) a0) := by
  intro a0 k
  have ih0 := spec_joined.mono_l k
  unfold spec_joined.f
  repeat' first
      | (with_reducible exact ih0 _ _ _ _)
      | (with_reducible exact LeO.refl _)
      | (with_reducible exact LeO.none _)
      | (with_reducible refine LeO.ite ?_ ?_)
      | (with_reducible refine LeO.bind ?_ (fun _ => ?_))
      | exact ih0 _ _ _ _
      | exact LeO.none _
      | refine LeO.ite ?_ ?_
      | refine LeO.bind ?_ (fun _ => ?_)
set_option maxHeartbeats 8000000 in
set_option maxRecDepth 100000 in
theorem spec_joined.calls (k : Nat) (A0 : Option Addr) (c0 : Nat) (l0 : List (List Int)) (r : List Int) (w : World) (hr0 : Kd.C (Kd.slice 5 (Kd.int .u8)) w A0 l0.length l0) (hc0 : l0.length ≤ c0) (h : spec_joined.f k l0 = some r) :
    Calls Try.prog 15 #[.slice A0 l0.length c0] w fun e w' => ∃ v0_ : Value, e = .returned (v0_) ∧ Kd.R (Kd.int .u8) 5 w' w.heap.size (fun _ => True) v0_ r ∧ Below w.heap.size w w' := by
  have HR0 := Aside0.mk hr0
  have HC0 := Aside0.mk hc0
  clear hr0 hc0
  have HB := Aside0.mk (Below.refl w.heap.size w)
  have H : (spec_joined.l0 k ([] : List Int) l0 (l0.length : Int) 0) = some r := h
  clear h
  have H' := Aside0.mk H
  clear H
  go_enter Try.func15, Try.ntmps15
  go_wp2
  go_loopg [3, 8] k (fun kq v3 v8 w' => ∃ (x3_1 : List Int) (x8_1 : Int), v8 = .int .i64 x8_1 ∧ Aside0 (spec_joined.l0 kq x3_1 l0 (l0.length : Int) x8_1 = some r) ∧ Aside0 (kq ≤ k) ∧ Aside0 (Kd.R (Kd.int .u8) 5 w' w.heap.size (fun _ => True) v3 x3_1) ∧ Aside0 (Below w.heap.size w w'))
  case atStart => exact ⟨(([] : List Int)), (0), (by first | rfl | (simp; done) | (simp [*]; done)), H', ⟨Nat.le_refl _⟩, ⟨by first | exact Kd.R_nil _ _ _ _ _ | exact Kd.N_nil _ _ _ _ _ | exact Kd.V_nil _ _ _ _ _ | exact Kd.Q_nil _ _ _ _ _ | exact Kd.S_nil _ _ _ _ _⟩, ⟨by repeat (first | (with_reducible first | exact HB.out | apply below_alloc | apply pw_below_drewN | apply below_drew1) | exact HB.out)⟩⟩
  case round =>
    clear H'
    try clear c1
    obtain ⟨x3_1, x8_1, rfl, HA, HK1, HO_3, HB⟩ := hrel
    cases gk with
    | zero => exact absurd HA.out (by simp [spec_joined.l0])
    | succ k1 =>
      have H := HA.out
      clear HA
      simp only [spec_joined.l0] at H
      by_cases c2 : x8_1 < (l0.length : Int)
      · rw [if_pos c2] at H
        have c2b0 : decide (x8_1 < (l0.length : Int)) = true := decide_eq_true c2
        clear c2
        by_cases c3 : 0 ≤ x8_1
        · rw [if_pos c3] at H
          have c3b0 : decide (0 ≤ x8_1) = true := decide_eq_true c3
          clear c3
          by_cases c4 : x8_1 < (l0.length : Int)
          · rw [if_pos c4] at H
            have c4b0 : decide (x8_1 < (l0.length : Int)) = true := decide_eq_true c4
            clear c4
            by_cases c5 : x3_1.length + (rd_L1 l0 x8_1).length < 140737488355328
            · rw [if_pos c5] at H
              have LMc5 := Aside0.mk c5
              clear c5
              obtain ⟨y204, hy204⟩ : ∃ y_ : List Int, y_ = (x3_1 ++ (rd_L1 l0 x8_1)) := ⟨_, rfl⟩
              replace H : (spec_joined.l0 k1 y204 l0 (l0.length : Int) (wrap64 (x8_1 + 1))) = some r := by first | (rw [hy204]; with_reducible exact H) | (have H2_ := (Option.bind_some _ _).symm.trans H; rw [hy204]; with_reducible exact H2_) | (have H2_ := (Option.bind_some _ _).symm.trans H; with_reducible exact H2_) | with_reducible exact H | (rw [hy204]; exact H) | exact H
              have Ny204 := Aside0.mk hy204
              clear hy204
              have H' := Aside0.mk H
              clear H
              have p203 : 0 ≤ (x8_1 : Int) := of_decide_eq_true (by first | (with_reducible assumption) | assumption)
              have q203 : x8_1 < (l0.length : Int) := of_decide_eq_true (by first | (with_reducible assumption) | assumption)
              obtain ⟨ad203, A203_0, c203_0, e203, hx203_0, hl203_0, hi203_0⟩ := at_L1 HR0.out x8_1 p203 q203
              cases e203
              replace hx203_0 := (HB.out.cell (World.block_lt_of_cell? w _ hx203_0)).trans hx203_0
              have HR203_0 := Aside0.mk hi203_0
              have HC203_0 := Aside0.mk hl203_0
              clear hi203_0 hl203_0
              replace p203 := eq_true p203
              replace q203 := eq_true q203
              go_wp2_with (first | ((with_reducible refine gate_builtin (b := .append) (xs := #[.tmp 12, .tmp 13]) rfl ?_); at_builtin; refine Kd.R_append_rows (Kd.int .u8) (w0 := w) w.heap.size rfl (.tmp 12) (.tmp 13) 25 5 (.int .u8 0) 1 rfl Try.underlying25 info5 rfl (by decide) (by omega) u3 x3_1 (rd_L1 l0 x8_1) _ _ _ (fun _ => True) (fun _ => False) rfl rfl ?aO ?aR (fun _ _ h => h) (fun _ h => h.elim) ?aF ?aB ?aS ?aL ?_; (case aR => repeat (first | exact (Kd.C_below HR203_0.out HB.out) | (with_reducible refine Kd.C_alloc ?_ _) | (with_reducible refine Kd.C_drewN ?_ _) | (with_reducible refine Kd.C_drew ?_))); (case aB => exact (by repeat (first | (with_reducible first | exact HB.out | apply below_alloc | apply pw_below_drewN | apply below_drew1) | exact HB.out))); (case aF => exact (fun _ _ => trivial)); (case aO => exact (by (with_reducible repeat (first | apply Kd.R_alloc | apply Kd.R_drewN | apply Kd.R_drew)); exact HO_3.out)); (case aS => exact (below_size (by repeat (first | (with_reducible first | exact HB.out | apply below_alloc | apply pw_below_drewN | apply below_drew1) | exact HB.out)))); (case aL => have := LMc5.out; omega); intro v205 w6 ho hb hg hat; rw [← Ny204.out] at ho; have n0_ := Aside0.mk (hb); have n1_ := Aside0.mk (ho); clear HB; clear HO_3; have HB := n0_; have HO206 := n1_; clear n0_ n1_; clear ho hb hg hat))
              go_roundg k1
              case measure => have := HK1.out; omega
              case rel => exact ⟨(y204), (wrap64 (x8_1 + 1)), (by first | rfl | (simp; done) | (simp [*]; done)), H', ⟨by have := HK1.out; omega⟩, ⟨by (with_reducible repeat (first | apply Kd.R_alloc | apply Kd.R_drewN | apply Kd.R_drew)); exact HO206.out⟩, ⟨by repeat (first | (with_reducible first | exact HB.out | apply below_alloc | apply pw_below_drewN | apply below_drew1) | exact HB.out)⟩⟩
            · rw [if_neg c5] at H
              exact absurd H (by simp)
          · rw [if_neg c4] at H
            exact absurd H (by simp)
        · rw [if_neg c3] at H
          exact absurd H (by simp)
      · rw [if_neg c2] at H
        have c2b0 : decide (x8_1 < (l0.length : Int)) = false := decide_eq_false c2
        clear c2
        obtain rfl := Option.some.inj H
        go_wp2
        go_ret
        exact ⟨_, by first | rfl | (simp [errW_none, errW_some] <;> rfl) | (simp [*, errW_none, errW_some] <;> rfl), by (with_reducible repeat (first | apply Kd.R_alloc | apply Kd.R_drewN | apply Kd.R_drew)); exact HO_3.out, by repeat (first | (with_reducible first | exact HB.out | apply below_alloc | apply pw_below_drewN | apply below_drew1) | exact HB.out)⟩

/-! ### spec_number: function 16 -/
def spec_number.f (k : Nat) (a0 : Int) (a1 : Int) : Option (List Int) := if a1 = 0 then (some ([] : List Int)) else ((spec_counted.f k (wrap64 (a0 * 8))).bind fun t207 => ((spec_counted.f k a1).bind fun t210 => (if t207.length + t210.length < 140737488355328 then (some (t207 ++ t210)) else (none))))
theorem spec_number.mono : ∀ a0 a1 k, LeO (spec_number.f k a0 a1) (spec_number.f (k + 1) a0 a1) := by
  intro a0 a1 k
  unfold spec_number.f
  repeat' first
      | (with_reducible exact spec_counted.mono _ _)
      | (with_reducible exact LeO.refl _)
      | (with_reducible exact LeO.none _)
      | (with_reducible refine LeO.ite ?_ ?_)
      | (with_reducible refine LeO.bind ?_ (fun _ => ?_))
      | exact spec_counted.mono _ _
      | exact LeO.none _
      | refine LeO.ite ?_ ?_
      | refine LeO.bind ?_ (fun _ => ?_)
set_option maxHeartbeats 8000000 in
set_option maxRecDepth 100000 in
theorem spec_number.calls (k : Nat) (a0 : Int) (a1 : Int) (r : List Int) (w : World) (h : spec_number.f k a0 a1 = some r) :
    Calls Try.prog 16 #[.int .i64 a0, .int .i64 a1] w fun e w' => ∃ v0_ : Value, e = .returned (v0_) ∧ Kd.R (Kd.int .u8) 5 w' w.heap.size (fun _ => True) v0_ r ∧ Below w.heap.size w w' := by
  have HB := Aside0.mk (Below.refl w.heap.size w)
  have H : (if a1 = 0 then (some ([] : List Int)) else ((spec_counted.f k (wrap64 (a0 * 8))).bind fun t207 => ((spec_counted.f k a1).bind fun t210 => (if t207.length + t210.length < 140737488355328 then (some (t207 ++ t210)) else (none))))) = some r := h
  clear h
  by_cases c3 : a1 = 0
  · rw [if_pos c3] at H
    have c3b0 : (a1 == 0) = true := beq_iff_eq.mpr c3
    have c3b1 : (a1 != 0) = false := bne_eq_false_iff_eq.mpr c3
    clear c3
    obtain rfl := Option.some.inj H
    go_enter Try.func16, Try.ntmps16
    go_wp2
    go_ret
    exact ⟨_, by first | rfl | (simp [errW_none, errW_some] <;> rfl) | (simp [*, errW_none, errW_some] <;> rfl), by first | exact Kd.R_nil _ _ _ _ _ | exact Kd.N_nil _ _ _ _ _ | exact Kd.V_nil _ _ _ _ _ | exact Kd.Q_nil _ _ _ _ _ | exact Kd.S_nil _ _ _ _ _, by repeat (first | (with_reducible first | exact HB.out | apply below_alloc | apply pw_below_drewN | apply below_drew1) | exact HB.out)⟩
  · rw [if_neg c3] at H
    have c3b0 : (a1 == 0) = false := beq_eq_false_iff_ne.mpr c3
    have c3b1 : (a1 != 0) = true := bne_iff_ne.mpr c3
    replace H := Option.bind_eq_some_iff.mp H
    obtain ⟨t207, A40, H⟩ := H
    replace H : ((spec_counted.f k a1).bind fun t210 => (if t207.length + t210.length < 140737488355328 then (some (t207 ++ t210)) else (none))) = some r := H
    have A4 := Aside0.mk A40
    clear A40
    replace H := Option.bind_eq_some_iff.mp H
    obtain ⟨t210, A50, H⟩ := H
    replace H : (if t207.length + t210.length < 140737488355328 then (some (t207 ++ t210)) else (none)) = some r := H
    have A5 := Aside0.mk A50
    clear A50
    by_cases c6 : t207.length + t210.length < 140737488355328
    · rw [if_pos c6] at H
      have LMc6 := Aside0.mk c6
      clear c6
      obtain ⟨y213, hy213⟩ : ∃ y_ : List Int, y_ = (t207 ++ t210) := ⟨_, rfl⟩
      replace H : (some y213) = some r := by first | (rw [hy213]; with_reducible exact H) | (have H2_ := (Option.bind_some _ _).symm.trans H; rw [hy213]; with_reducible exact H2_) | (have H2_ := (Option.bind_some _ _).symm.trans H; with_reducible exact H2_) | with_reducible exact H | (rw [hy213]; exact H) | exact H
      have Ny213 := Aside0.mk hy213
      clear hy213
      obtain rfl := Option.some.inj H
      go_enter Try.func16, Try.ntmps16
      go_wp2_with (first | ((with_reducible refine gate_callee (f := 20) rfl ?_); refine goesL_ (some 9) rfl rfl Try.func20 (by kernel_rfl) rfl #[.int .i64 (wrap64 (a0 * 8))] rfl (by (try simp only [List.map_toArray, List.map_cons, List.map_nil]); first | done | rfl | (simp only [List.length_drop, List.length_take]; rfl)) ?_; (with_reducible refine (spec_counted.calls k (wrap64 (a0 * 8)) t207 _ A4.out).mono ?_); rintro e w7 ⟨v208, rfl, ho0, hb⟩; refine ⟨_, rfl, ?_⟩; have n0_ := Aside0.mk (Kd.R_lower ho0 (below_size (by repeat (first | (with_reducible first | exact HB.out | apply below_alloc | apply pw_below_drewN | apply below_drew1) | exact HB.out)))); have n1_ := Aside0.mk (below_step (by repeat (first | (with_reducible first | exact HB.out | apply below_alloc | apply pw_below_drewN | apply below_drew1) | exact HB.out)) hb); clear HB; have HO209 := n0_; have HB := n1_; clear n0_ n1_; (try clear hb); (try clear hb2); (try clear hk); (try clear hi); (try clear ho0)) | ((with_reducible refine gate_callee (f := 20) rfl ?_); refine goesL_ (some 11) rfl rfl Try.func20 (by kernel_rfl) rfl #[.int .i64 a1] rfl (by (try simp only [List.map_toArray, List.map_cons, List.map_nil]); first | done | rfl | (simp only [List.length_drop, List.length_take]; rfl)) ?_; (with_reducible refine (spec_counted.calls k a1 t210 _ A5.out).mono ?_); rintro e w8 ⟨v211, rfl, ho0, hb⟩; refine ⟨_, rfl, ?_⟩; have n0_ := Aside0.mk (Kd.R_elder' (by (with_reducible repeat (first | apply Kd.R_alloc | apply Kd.R_drewN | apply Kd.R_drew)); exact HO209.out) (Kd.R_base ho0) hb); have n1_ := Aside0.mk (Kd.R_lower (Kd.R_new' ho0 (Kd.R_lt (by (with_reducible repeat (first | apply Kd.R_alloc | apply Kd.R_drewN | apply Kd.R_drew)); exact HO209.out))) (below_size (by repeat (first | (with_reducible first | exact HB.out | apply below_alloc | apply pw_below_drewN | apply below_drew1) | exact HB.out)))); have n2_ := Aside0.mk (below_step (by repeat (first | (with_reducible first | exact HB.out | apply below_alloc | apply pw_below_drewN | apply below_drew1) | exact HB.out)) hb); clear HO209; clear HB; have HO209 := n0_; have HO212 := n1_; have HB := n2_; clear n0_ n1_ n2_; (try clear hb); (try clear hb2); (try clear hk); (try clear hi); (try clear ho0); obtain ⟨Ao10, co10, eo10⟩ := Kd.R_slice HO212.out; subst eo10) | ((with_reducible refine gate_builtin (b := .append) (xs := #[.tmp 9, .tmp 11]) rfl ?_); at_builtin; refine Kd.R_append_rows (Kd.int .u8) (w0 := w) w.heap.size rfl (.tmp 9) (.tmp 11) 25 5 (.int .u8 0) 1 rfl Try.underlying25 info5 rfl (by decide) (by omega) v208 t207 t210 _ _ _ (fun k_ => some k_ ≠ (.slice Ao10 t210.length co10 : Value).ownBlock) (fun _ => False) rfl rfl ?aO ?aR (fun _ _ h => h) (fun _ h => h.elim) ?aF ?aB ?aS ?aL ?_; (case aR => repeat (first | exact (Kd.R_reads' HO212.out).2.2 | (with_reducible refine Kd.C_alloc ?_ _) | (with_reducible refine Kd.C_drewN ?_ _) | (with_reducible refine Kd.C_drew ?_))); (case aB => exact (by repeat (first | (with_reducible first | exact HB.out | apply below_alloc | apply pw_below_drewN | apply below_drew1) | exact HB.out))); (case aF => exact (fun k_ hk => Kd.fresh' (Kd.R_lt (by (with_reducible repeat (first | apply Kd.R_alloc | apply Kd.R_drewN | apply Kd.R_drew)); exact HO212.out)) k_ hk)); (case aO => exact (by (with_reducible repeat (first | apply Kd.R_alloc | apply Kd.R_drewN | apply Kd.R_drew)); exact Kd.R_mono HO209.out (fun _ hk => hk.2))); (case aS => exact (below_size (by repeat (first | (with_reducible first | exact HB.out | apply below_alloc | apply pw_below_drewN | apply below_drew1) | exact HB.out)))); (case aL => have := LMc6.out; omega); intro v214 w9 ho hb hg hat; rw [← Ny213.out] at ho; have n0_ := Aside0.mk (Kd.R_after (ok := (fun _ => True)) (by (with_reducible repeat (first | apply Kd.R_alloc | apply Kd.R_drewN | apply Kd.R_drew)); exact HO212.out) hg hat); have n1_ := Aside0.mk (hb); have n2_ := Aside0.mk (ho); clear HO212; clear HB; clear HO209; have HO212 := n0_; have HB := n1_; have HO215 := n2_; clear n0_ n1_ n2_; clear ho hb hg hat))
      go_ret
      exact ⟨_, by first | rfl | (simp [errW_none, errW_some] <;> rfl) | (simp [*, errW_none, errW_some] <;> rfl), by (with_reducible repeat (first | apply Kd.R_alloc | apply Kd.R_drewN | apply Kd.R_drew)); exact Kd.R_mono HO215.out (fun _ hk => trivial), by repeat (first | (with_reducible first | exact HB.out | apply below_alloc | apply pw_below_drewN | apply below_drew1) | exact HB.out)⟩
    · rw [if_neg c6] at H
      exact absurd H (by simp)

/-! ### spec_some: function 19 -/
def spec_some.f (k : Nat) (a0 : Int) (l1 : List Int) : Option (List Int) := if (l1.length : Int) = 0 then (some ([] : List Int)) else ((spec_within.f k a0 l1).bind fun t216 => (some t216))
theorem spec_some.mono : ∀ a0 a1 k, LeO (spec_some.f k a0 a1) (spec_some.f (k + 1) a0 a1) := by
  intro a0 a1 k
  unfold spec_some.f
  repeat' first
      | (with_reducible exact spec_within.mono _ _ _)
      | (with_reducible exact LeO.refl _)
      | (with_reducible exact LeO.none _)
      | (with_reducible refine LeO.ite ?_ ?_)
      | (with_reducible refine LeO.bind ?_ (fun _ => ?_))
      | exact spec_within.mono _ _ _
      | exact LeO.none _
      | refine LeO.ite ?_ ?_
      | refine LeO.bind ?_ (fun _ => ?_)
set_option maxHeartbeats 8000000 in
set_option maxRecDepth 100000 in
theorem spec_some.calls (k : Nat) (a0 : Int) (A1 : Option Addr) (c1 : Nat) (l1 : List Int) (r : List Int) (w : World) (hr1 : Kd.C (Kd.int .u8) w A1 l1.length l1) (hc1 : l1.length ≤ c1) (h : spec_some.f k a0 l1 = some r) :
    Calls Try.prog 19 #[.int .i64 a0, .slice A1 l1.length c1] w fun e w' => ∃ v0_ : Value, e = .returned (v0_) ∧ Kd.R (Kd.int .u8) 5 w' w.heap.size (fun _ => True) v0_ r ∧ Below w.heap.size w w' := by
  have HR1 := Aside0.mk hr1
  have HC1 := Aside0.mk hc1
  clear hr1 hc1
  have HB := Aside0.mk (Below.refl w.heap.size w)
  have H : (if (l1.length : Int) = 0 then (some ([] : List Int)) else ((spec_within.f k a0 l1).bind fun t216 => (some t216))) = some r := h
  clear h
  by_cases c3 : (l1.length : Int) = 0
  · rw [if_pos c3] at H
    have c3b0 : ((l1.length : Int) == 0) = true := beq_iff_eq.mpr c3
    have c3b1 : ((l1.length : Int) != 0) = false := bne_eq_false_iff_eq.mpr c3
    clear c3
    obtain rfl := Option.some.inj H
    go_enter Try.func19, Try.ntmps19
    go_wp2
    go_ret
    exact ⟨_, by first | rfl | (simp [errW_none, errW_some] <;> rfl) | (simp [*, errW_none, errW_some] <;> rfl), by first | exact Kd.R_nil _ _ _ _ _ | exact Kd.N_nil _ _ _ _ _ | exact Kd.V_nil _ _ _ _ _ | exact Kd.Q_nil _ _ _ _ _ | exact Kd.S_nil _ _ _ _ _, by repeat (first | (with_reducible first | exact HB.out | apply below_alloc | apply pw_below_drewN | apply below_drew1) | exact HB.out)⟩
  · rw [if_neg c3] at H
    have c3b0 : ((l1.length : Int) == 0) = false := beq_eq_false_iff_ne.mpr c3
    have c3b1 : ((l1.length : Int) != 0) = true := bne_iff_ne.mpr c3
    have c3b2 : ¬ (l1 = []) := fun h_ => c3 (by rw [h_]; rfl)
    replace H := Option.bind_eq_some_iff.mp H
    obtain ⟨t216, A40, H⟩ := H
    replace H : (some t216) = some r := H
    have A4 := Aside0.mk A40
    clear A40
    obtain rfl := Option.some.inj H
    go_enter Try.func19, Try.ntmps19
    go_wp2_with (first | ((with_reducible refine gate_callee (f := 13) rfl ?_); refine goesL_ (some 10) rfl rfl Try.func13 (by kernel_rfl) rfl #[.int .i64 a0, .slice A1 l1.length c1] rfl (by (try simp only [List.map_toArray, List.map_cons, List.map_nil]); first | done | rfl | (simp only [List.length_drop, List.length_take]; rfl)) ?_; (with_reducible refine (spec_within.calls k a0 _ _ l1 t216 _ ?side1 ?side2 A4.out).mono ?_); (case side1 => repeat (first | exact HR1.out | (with_reducible refine Kd.C_alloc ?_ _) | (with_reducible refine Kd.C_drewN ?_ _) | (with_reducible refine Kd.C_drew ?_))); (case side2 => exact HC1.out); rintro e w5 ⟨v217, rfl, ho0, hb⟩; refine ⟨_, rfl, ?_⟩; have n0_ := Aside0.mk (Kd.R_lower ho0 (below_size (by repeat (first | (with_reducible first | exact HB.out | apply below_alloc | apply pw_below_drewN | apply below_drew1) | exact HB.out)))); have n1_ := Aside0.mk (below_step (by repeat (first | (with_reducible first | exact HB.out | apply below_alloc | apply pw_below_drewN | apply below_drew1) | exact HB.out)) hb); clear HB; have HO218 := n0_; have HB := n1_; clear n0_ n1_; (try clear hb); (try clear hb2); (try clear hk); (try clear hi); (try clear ho0)))
    go_ret
    exact ⟨_, by first | rfl | (simp [errW_none, errW_some] <;> rfl) | (simp [*, errW_none, errW_some] <;> rfl), by (with_reducible repeat (first | apply Kd.R_alloc | apply Kd.R_drewN | apply Kd.R_drew)); exact HO218.out, by repeat (first | (with_reducible first | exact HB.out | apply below_alloc | apply pw_below_drewN | apply below_drew1) | exact HB.out)⟩

/-! ### spec_Block_Bytes: function 14 -/
def spec_Block_Bytes.f (k : Nat) (l0_0 : List Int) (a0_1 : Int) (l0_2 : List Int) : Option (List Int) := (spec_some.f k 1 l0_0).bind fun t220 => ((spec_number.f k 1 a0_1).bind fun t223 => ((spec_some.f k 2 l0_2).bind fun t226 => ((spec_joined.f k (([t223, t226] : List (List Int)))).bind fun t232 => ((spec_within.f k 2 t232).bind fun t235 => ((spec_joined.f k (([t220, t235] : List (List Int)))).bind fun t241 => (some t241))))))
theorem spec_Block_Bytes.mono : ∀ a0 a1 a2 k, LeO (spec_Block_Bytes.f k a0 a1 a2) (spec_Block_Bytes.f (k + 1) a0 a1 a2) := by
  intro a0 a1 a2 k
  unfold spec_Block_Bytes.f
  repeat' first
      | (with_reducible exact spec_joined.mono _ _)
      | (with_reducible exact spec_number.mono _ _ _)
      | (with_reducible exact spec_some.mono _ _ _)
      | (with_reducible exact spec_within.mono _ _ _)
      | (with_reducible exact LeO.refl _)
      | (with_reducible exact LeO.none _)
      | (with_reducible refine LeO.ite ?_ ?_)
      | (with_reducible refine LeO.bind ?_ (fun _ => ?_))
      | exact spec_joined.mono _ _
      | exact spec_number.mono _ _ _
      | exact spec_some.mono _ _ _
      | exact spec_within.mono _ _ _
      | exact LeO.none _
      | refine LeO.ite ?_ ?_
      | refine LeO.bind ?_ (fun _ => ?_)
def spec_Block_Bytes.T1 : Bool × List (List Nat × List Nat) := (true, [([], []), ([0], [0]), ([1], [1]), ([], []), ([3], [3]), ([4, 2], [4]), ([], []), ([6], [6]), ([7, 5], [7]), ([5, 8], [5, 8]), ([9, 8], [9]), ([10, 10], [10]), ([2, 11], [2, 11]), ([12, 11], [12]), ([13, 13, 0, 1, 2, 3, 4, 5, 6, 7, 8, 9, 10, 11, 12, 13], [13])])
def spec_Block_Bytes.B1 : List Nat := [0, 1, 3, 0, 8, 31, 0, 64, 255, 511, 1023, 2047, 4095, 8191, 16383]
theorem spec_Block_Bytes.tab1 : rtab .any (opsOf Try.f14 1) = spec_Block_Bytes.T1 := by kernel_rfl
theorem spec_Block_Bytes.bits1 : waitsOk spec_Block_Bytes.T1.2 spec_Block_Bytes.B1 = true := by kernel_rfl
set_option maxHeartbeats 8000000 in
set_option maxRecDepth 100000 in
theorem spec_Block_Bytes.calls (k : Nat) (A0_0 : Option Addr) (c0_0 : Nat) (l0_0 : List Int) (a0_1 : Int) (A0_2 : Option Addr) (c0_2 : Nat) (l0_2 : List Int) (r : List Int) (w : World) (hr0_0 : Kd.C (Kd.int .u8) w A0_0 l0_0.length l0_0) (hc0_0 : l0_0.length ≤ c0_0) (hr0_2 : Kd.C (Kd.int .u8) w A0_2 l0_2.length l0_2) (hc0_2 : l0_2.length ≤ c0_2) (h : spec_Block_Bytes.f k l0_0 a0_1 l0_2 = some r) :
    Calls Try.prog 14 #[.agg #[.slice A0_0 l0_0.length c0_0, .int .i64 a0_1, .slice A0_2 l0_2.length c0_2]] w fun e w' => ∃ v0_ : Value, e = .returned (v0_) ∧ Kd.R (Kd.int .u8) 5 w' w.heap.size (fun _ => True) v0_ r ∧ Below w.heap.size w w' := by
  have hu33 := Try.underlying33
  have HR0_0 := Aside0.mk hr0_0
  have HC0_0 := Aside0.mk hc0_0
  clear hr0_0 hc0_0
  have HR0_2 := Aside0.mk hr0_2
  have HC0_2 := Aside0.mk hc0_2
  clear hr0_2 hc0_2
  have HB := Aside0.mk (Below.refl w.heap.size w)
  have H : ((spec_some.f k 1 l0_0).bind fun t220 => ((spec_number.f k 1 a0_1).bind fun t223 => ((spec_some.f k 2 l0_2).bind fun t226 => ((spec_joined.f k (([t223, t226] : List (List Int)))).bind fun t232 => ((spec_within.f k 2 t232).bind fun t235 => ((spec_joined.f k (([t220, t235] : List (List Int)))).bind fun t241 => (some t241))))))) = some r := h
  clear h
  replace H := Option.bind_eq_some_iff.mp H
  obtain ⟨t220, A20, H⟩ := H
  replace H : ((spec_number.f k 1 a0_1).bind fun t223 => ((spec_some.f k 2 l0_2).bind fun t226 => ((spec_joined.f k (([t223, t226] : List (List Int)))).bind fun t232 => ((spec_within.f k 2 t232).bind fun t235 => ((spec_joined.f k (([t220, t235] : List (List Int)))).bind fun t241 => (some t241)))))) = some r := H
  have A2 := Aside0.mk A20
  clear A20
  replace H := Option.bind_eq_some_iff.mp H
  obtain ⟨t223, A30, H⟩ := H
  replace H : ((spec_some.f k 2 l0_2).bind fun t226 => ((spec_joined.f k (([t223, t226] : List (List Int)))).bind fun t232 => ((spec_within.f k 2 t232).bind fun t235 => ((spec_joined.f k (([t220, t235] : List (List Int)))).bind fun t241 => (some t241))))) = some r := H
  have A3 := Aside0.mk A30
  clear A30
  replace H := Option.bind_eq_some_iff.mp H
  obtain ⟨t226, A40, H⟩ := H
  replace H : ((spec_joined.f k (([t223, t226] : List (List Int)))).bind fun t232 => ((spec_within.f k 2 t232).bind fun t235 => ((spec_joined.f k (([t220, t235] : List (List Int)))).bind fun t241 => (some t241)))) = some r := H
  have A4 := Aside0.mk A40
  clear A40
  obtain ⟨y229, hy229⟩ : ∃ y_ : List (List Int), y_ = (([t223, t226] : List (List Int))) := ⟨_, rfl⟩
  replace H : ((spec_joined.f k y229).bind fun t232 => ((spec_within.f k 2 t232).bind fun t235 => ((spec_joined.f k (([t220, t235] : List (List Int)))).bind fun t241 => (some t241)))) = some r := by first | (rw [hy229]; with_reducible exact H) | (have H2_ := (Option.bind_some _ _).symm.trans H; rw [hy229]; with_reducible exact H2_) | (have H2_ := (Option.bind_some _ _).symm.trans H; with_reducible exact H2_) | with_reducible exact H | (rw [hy229]; exact H) | exact H
  have Ny229 := Aside0.mk hy229
  clear hy229
  replace H := Option.bind_eq_some_iff.mp H
  obtain ⟨t232, A50, H⟩ := H
  replace H : ((spec_within.f k 2 t232).bind fun t235 => ((spec_joined.f k (([t220, t235] : List (List Int)))).bind fun t241 => (some t241))) = some r := H
  have A5 := Aside0.mk A50
  clear A50
  replace H := Option.bind_eq_some_iff.mp H
  obtain ⟨t235, A60, H⟩ := H
  replace H : ((spec_joined.f k (([t220, t235] : List (List Int)))).bind fun t241 => (some t241)) = some r := H
  have A6 := Aside0.mk A60
  clear A60
  obtain ⟨y238, hy238⟩ : ∃ y_ : List (List Int), y_ = (([t220, t235] : List (List Int))) := ⟨_, rfl⟩
  replace H : ((spec_joined.f k y238).bind fun t241 => (some t241)) = some r := by first | (rw [hy238]; with_reducible exact H) | (have H2_ := (Option.bind_some _ _).symm.trans H; rw [hy238]; with_reducible exact H2_) | (have H2_ := (Option.bind_some _ _).symm.trans H; with_reducible exact H2_) | with_reducible exact H | (rw [hy238]; exact H) | exact H
  have Ny238 := Aside0.mk hy238
  clear hy238
  replace H := Option.bind_eq_some_iff.mp H
  obtain ⟨t241, A70, H⟩ := H
  replace H : (some t241) = some r := H
  have A7 := Aside0.mk A70
  clear A70
  obtain rfl := Option.some.inj H
  go_enter Try.func14, Try.ntmps14
  try go_wp2_with (first | ((with_reducible refine gate_dst (N := 1) rfl ?_); refine box_event ?hg (N := 1) ?hd (cs := #[.slice A0_0 l0_0.length c0_0, .int .i64 a0_1, .slice A0_2 l0_2.length c0_2]) (t := 33) ?hr ?_; (case hd => rfl); (case hg => rfl); (case hr => first | (go_simp; done) | (go_simp; rfl)); intro gb219 hg w8 hbox hb; have n0_ := Aside0.mk (below_step (by repeat (first | (with_reducible first | exact HB.out | apply below_alloc | apply pw_below_drewN | apply below_drew1) | exact HB.out)) hb); have n1_ := Aside0.mk (hbox); have n2_ := Aside0.mk ((by rw [hg]; exact (below_size (by repeat (first | (with_reducible first | exact HB.out | apply below_alloc | apply pw_below_drewN | apply below_drew1) | exact HB.out))) : w.heap.size ≤ gb219)); have n3_ := Aside0.mk ((by rw [hg]; exact (below_size (by repeat (first | (with_reducible first | exact HB.out | apply below_alloc | apply pw_below_drewN | apply below_drew1) | exact HB.out))) : w.heap.size ≤ gb219)); clear HB; have HB := n0_; have BK219 := n1_; have GW219 := n2_; have GE219 := n3_; clear n0_ n1_ n2_ n3_; clear hb hbox hg))
  have n0_ := Aside0.mk (blk_drew BK219.out)
  have n1_ := Aside0.mk (below_drew1 HB.out)
  clear BK219
  clear HB
  have BK219 := n0_
  have HB := n1_
  clear n0_ n1_
  refine start_ (n := 15) (S := fun w' => w'.cell? ⟨gb219, 0, none⟩ = some (.slice A0_0 l0_0.length c0_0) ∧ w'.cell? ⟨gb219, 1, none⟩ = some (.int .i64 a0_1) ∧ w'.cell? ⟨gb219, 2, none⟩ = some (.slice A0_2 l0_2.length c0_2)) (ds := []) #[false, false, false, false, false, false, false, false, false, false, false, false, false, false, false] (by kernel_rfl) rfl rfl ⟨(blk_cell BK219.out 0).trans rfl, (blk_cell BK219.out 1).trans rfl, (blk_cell BK219.out 2).trans rfl⟩ (fun hHeld => ?_); refine with_tabW spec_Block_Bytes.tab1 spec_Block_Bytes.bits1 (fun HT_ HW_ => ?_)
  generalize w8.drew = w9 at BK219 HB hHeld ⊢
  refine pure_ (i := 0) (N := some 3) (v := ?_) (a' := ?_) #[true, false, false, false, false, false, false, false, false, false, false, false, false, false, false] rfl rfl (any_of HT_.out (by kernel_rfl)) (fun _ _ _ h => h) (Or.inl ⟨by rfl, ?_⟩) ?_ ?_
  rotate_left
  · intro w'
    go_simp
    with_reducible rfl
  rotate_left
  · simp only [Act.put, List.setIfInBounds_toArray, List.set_cons_zero, List.set_cons_succ, i64_w, i32_w]
    rfl
  refine pure_ (i := 3) (N := some 6) (v := ?_) (a' := ?_) #[true, false, false, true, false, false, false, false, false, false, false, false, false, false, false] rfl rfl (any_of HT_.out (by kernel_rfl)) (fun _ _ _ h => h) (Or.inl ⟨by rfl, ?_⟩) ?_ ?_
  rotate_left
  · intro w'
    go_simp
    with_reducible rfl
  rotate_left
  · simp only [Act.put, List.setIfInBounds_toArray, List.set_cons_zero, List.set_cons_succ, i64_w, i32_w]
    rfl
  refine pure_ (i := 6) (N := some 9) (v := ?_) (a' := ?_) #[true, false, false, true, false, false, true, false, false, false, false, false, false, false, false] rfl rfl (any_of HT_.out (by kernel_rfl)) (fun _ _ _ h => h) (Or.inl ⟨by rfl, ?_⟩) ?_ ?_
  rotate_left
  · intro w'
    go_simp
    with_reducible rfl
  rotate_left
  · simp only [Act.put, List.setIfInBounds_toArray, List.set_cons_zero, List.set_cons_succ, i64_w, i32_w]
    rfl
  refine take_ (i := 1) (N := some 4) (v := ?_) (a' := ?_) #[true, true, false, true, false, false, true, false, false, false, false, false, false, false, false] rfl rfl (take_ofW HT_.out HW_.out (by kernel_rfl)) (fun _ _ _ h => h) (Or.inl ⟨by rfl, ?_⟩) hHeld ?_ ?_
  rotate_left
  · rintro w' ⟨s0, s1, s2⟩
    go_simp
    with_reducible rfl
  rotate_left
  · simp only [Act.put, List.setIfInBounds_toArray, List.set_cons_zero, List.set_cons_succ, i64_w, i32_w]
    rfl
  refine take_ (i := 4) (N := some 7) (v := ?_) (a' := ?_) #[true, true, false, true, true, false, true, false, false, false, false, false, false, false, false] rfl rfl (take_ofW HT_.out HW_.out (by kernel_rfl)) (fun _ _ _ h => h) (Or.inl ⟨by rfl, ?_⟩) hHeld ?_ ?_
  rotate_left
  · rintro w' ⟨s0, s1, s2⟩
    go_simp
    with_reducible rfl
  rotate_left
  · simp only [Act.put, List.setIfInBounds_toArray, List.set_cons_zero, List.set_cons_succ, i64_w, i32_w]
    rfl
  refine take_ (i := 7) (N := some 10) (v := ?_) (a' := ?_) #[true, true, false, true, true, false, true, true, false, false, false, false, false, false, false] rfl rfl (take_ofW HT_.out HW_.out (by kernel_rfl)) (fun _ _ _ h => h) (Or.inl ⟨by rfl, ?_⟩) hHeld ?_ ?_
  rotate_left
  · rintro w' ⟨s0, s1, s2⟩
    go_simp
    with_reducible rfl
  rotate_left
  · simp only [Act.put, List.setIfInBounds_toArray, List.set_cons_zero, List.set_cons_succ, i64_w, i32_w]
    rfl
  refine one_ (i := 2) (N := some 5) #[true, true, true, true, true, false, true, true, false, false, false, false, false, false, false] rfl rfl (one_of HT_.out (by kernel_rfl)) (by decide) (fun K hK => ?_)
  refine goes_ Try.func19 (by kernel_rfl) rfl #[.int .i64 1, .slice A0_0 l0_0.length c0_0] (by rfl) rfl rfl (by (try simp only [List.map_toArray, List.map_cons, List.map_nil]); first | done | rfl | (simp only [List.length_drop, List.length_take]; rfl)) ?_
  with_reducible refine (spec_some.calls k 1 _ _ l0_0 t220 _ ?side1 ?side2 A2.out).mono ?_
  (case side1 => repeat (first | exact (Kd.C_below HR0_0.out HB.out) | (with_reducible refine Kd.C_alloc ?_ _) | (with_reducible refine Kd.C_drewN ?_ _) | (with_reducible refine Kd.C_drew ?_)))
  (case side2 => exact HC0_0.out)
  rintro e w10 ⟨v221, rfl, ho0, hb⟩
  refine ⟨_, rfl, ?_⟩
  have n0_ := Aside0.mk (Kd.R_lower ho0 (below_size (by repeat (first | (with_reducible first | exact HB.out | apply below_alloc | apply pw_below_drewN | apply below_drew1 | refine below_set ?_ GE219.out) | exact HB.out))))
  have n1_ := Aside0.mk (blk_below (g := gb219) (o := .cells #[.slice A0_0 l0_0.length c0_0, .int .i64 a0_1, .slice A0_2 l0_2.length c0_2] 33 (0, 0)) (by (with_reducible repeat (first | refine blk_drewN ?_ _ | refine blk_drew ?_ | refine blk_alloc ?_ _)); exact BK219.out) hb)
  have n2_ := Aside0.mk (below_step (by repeat (first | (with_reducible first | exact HB.out | apply below_alloc | apply pw_below_drewN | apply below_drew1 | refine below_set ?_ GE219.out) | exact HB.out)) hb)
  clear BK219
  clear HB
  have HO222 := n0_
  have BK219 := n1_
  have HB := n2_
  clear n0_ n1_ n2_
  (try clear hb)
  (try clear hb2)
  (try clear hk)
  (try clear hi)
  (try clear ho0)
  refine hK.out _ _ ⟨(blk_cell BK219.out 0).trans rfl, (blk_cell BK219.out 1).trans rfl, (blk_cell BK219.out 2).trans rfl⟩ (fun hHeld => ?_)
  clear hK K
  refine norm_ (a' := ?_) ?_ ?_
  rotate_left
  · show Act.put _ (some 5) _ = _
    simp only [Act.put, List.setIfInBounds_toArray, List.set_cons_zero, List.set_cons_succ, i64_w, i32_w]
    rfl
  refine one_ (i := 5) (N := some 8) #[true, true, true, true, true, true, true, true, false, false, false, false, false, false, false] rfl rfl (one_of HT_.out (by kernel_rfl)) (by decide) (fun K hK => ?_)
  refine goes_ Try.func16 (by kernel_rfl) rfl #[.int .i64 1, .int .i64 a0_1] (by rfl) rfl rfl (by (try simp only [List.map_toArray, List.map_cons, List.map_nil]); first | done | rfl | (simp only [List.length_drop, List.length_take]; rfl)) ?_
  with_reducible refine (spec_number.calls k 1 a0_1 t223 _ A3.out).mono ?_
  rintro e w11 ⟨v224, rfl, ho0, hb⟩
  refine ⟨_, rfl, ?_⟩
  have n0_ := Aside0.mk (Kd.R_elder' (by (with_reducible repeat (first | apply Kd.R_alloc | apply Kd.R_drewN | apply Kd.R_drew)); exact HO222.out) (Kd.R_base ho0) hb)
  have n1_ := Aside0.mk (Kd.R_lower (Kd.R_new' ho0 (Kd.R_lt (by (with_reducible repeat (first | apply Kd.R_alloc | apply Kd.R_drewN | apply Kd.R_drew)); exact HO222.out))) (below_size (by repeat (first | (with_reducible first | exact HB.out | apply below_alloc | apply pw_below_drewN | apply below_drew1 | refine below_set ?_ GE219.out) | exact HB.out))))
  have n2_ := Aside0.mk (blk_below (g := gb219) (o := .cells #[.slice A0_0 l0_0.length c0_0, .int .i64 a0_1, .slice A0_2 l0_2.length c0_2] 33 (0, 0)) (by (with_reducible repeat (first | refine blk_drewN ?_ _ | refine blk_drew ?_ | refine blk_alloc ?_ _)); exact BK219.out) hb)
  have n3_ := Aside0.mk (below_step (by repeat (first | (with_reducible first | exact HB.out | apply below_alloc | apply pw_below_drewN | apply below_drew1 | refine below_set ?_ GE219.out) | exact HB.out)) hb)
  clear HO222
  clear BK219
  clear HB
  have HO222 := n0_
  have HO225 := n1_
  have BK219 := n2_
  have HB := n3_
  clear n0_ n1_ n2_ n3_
  (try clear hb)
  (try clear hb2)
  (try clear hk)
  (try clear hi)
  (try clear ho0)
  refine hK.out _ _ ⟨(blk_cell BK219.out 0).trans rfl, (blk_cell BK219.out 1).trans rfl, (blk_cell BK219.out 2).trans rfl⟩ (fun hHeld => ?_)
  clear hK K
  refine norm_ (a' := ?_) ?_ ?_
  rotate_left
  · show Act.put _ (some 8) _ = _
    simp only [Act.put, List.setIfInBounds_toArray, List.set_cons_zero, List.set_cons_succ, i64_w, i32_w]
    rfl
  refine one_ (i := 8) (N := some 11) #[true, true, true, true, true, true, true, true, true, false, false, false, false, false, false] rfl rfl (one_of HT_.out (by kernel_rfl)) (by decide) (fun K hK => ?_)
  refine goes_ Try.func19 (by kernel_rfl) rfl #[.int .i64 2, .slice A0_2 l0_2.length c0_2] (by rfl) rfl rfl (by (try simp only [List.map_toArray, List.map_cons, List.map_nil]); first | done | rfl | (simp only [List.length_drop, List.length_take]; rfl)) ?_
  with_reducible refine (spec_some.calls k 2 _ _ l0_2 t226 _ ?side1 ?side2 A4.out).mono ?_
  (case side1 => repeat (first | exact (Kd.C_below HR0_2.out HB.out) | (with_reducible refine Kd.C_alloc ?_ _) | (with_reducible refine Kd.C_drewN ?_ _) | (with_reducible refine Kd.C_drew ?_)))
  (case side2 => exact HC0_2.out)
  rintro e w12 ⟨v227, rfl, ho0, hb⟩
  refine ⟨_, rfl, ?_⟩
  have n0_ := Aside0.mk (Kd.R_elder' (by (with_reducible repeat (first | apply Kd.R_alloc | apply Kd.R_drewN | apply Kd.R_drew)); exact HO222.out) (Kd.R_base ho0) hb)
  have n1_ := Aside0.mk (Kd.R_elder' (by (with_reducible repeat (first | apply Kd.R_alloc | apply Kd.R_drewN | apply Kd.R_drew)); exact HO225.out) (Kd.R_base ho0) hb)
  have n2_ := Aside0.mk (Kd.R_lower (Kd.R_new' (Kd.R_new' ho0 (Kd.R_lt (by (with_reducible repeat (first | apply Kd.R_alloc | apply Kd.R_drewN | apply Kd.R_drew)); exact HO222.out))) (Kd.R_lt (by (with_reducible repeat (first | apply Kd.R_alloc | apply Kd.R_drewN | apply Kd.R_drew)); exact HO225.out))) (below_size (by repeat (first | (with_reducible first | exact HB.out | apply below_alloc | apply pw_below_drewN | apply below_drew1 | refine below_set ?_ GE219.out) | exact HB.out))))
  have n3_ := Aside0.mk (blk_below (g := gb219) (o := .cells #[.slice A0_0 l0_0.length c0_0, .int .i64 a0_1, .slice A0_2 l0_2.length c0_2] 33 (0, 0)) (by (with_reducible repeat (first | refine blk_drewN ?_ _ | refine blk_drew ?_ | refine blk_alloc ?_ _)); exact BK219.out) hb)
  have n4_ := Aside0.mk (below_step (by repeat (first | (with_reducible first | exact HB.out | apply below_alloc | apply pw_below_drewN | apply below_drew1 | refine below_set ?_ GE219.out) | exact HB.out)) hb)
  clear HO222
  clear HO225
  clear BK219
  clear HB
  have HO222 := n0_
  have HO225 := n1_
  have HO228 := n2_
  have BK219 := n3_
  have HB := n4_
  clear n0_ n1_ n2_ n3_ n4_
  (try clear hb)
  (try clear hb2)
  (try clear hk)
  (try clear hi)
  (try clear ho0)
  obtain ⟨Ao13, co13, eo13⟩ := Kd.R_slice HO225.out
  (first | subst eo13 | (injection eo13 with f1_ f2_ f3_; have f4_ := f1_.symm; have f5_ := f3_.symm; clear f1_ f2_ f3_; subst f4_; subst f5_))
  obtain ⟨Ao14, co14, eo14⟩ := Kd.R_slice HO228.out
  (first | subst eo14 | (injection eo14 with f1_ f2_ f3_; have f4_ := f1_.symm; have f5_ := f3_.symm; clear f1_ f2_ f3_; subst f4_; subst f5_))
  refine hK.out _ _ ⟨(blk_cell BK219.out 0).trans rfl, (blk_cell BK219.out 1).trans rfl, (blk_cell BK219.out 2).trans rfl⟩ (fun hHeld => ?_)
  clear hK K
  refine norm_ (a' := ?_) ?_ ?_
  rotate_left
  · show Act.put _ (some 11) _ = _
    simp only [Act.put, List.setIfInBounds_toArray, List.set_cons_zero, List.set_cons_succ, i64_w, i32_w]
    rfl
  refine one_ (i := 9) (N := some 12) #[true, true, true, true, true, true, true, true, true, true, false, false, false, false, false] rfl rfl (one_of HT_.out (by kernel_rfl)) (by decide) (fun K hK => ?_)
  refine Kd.N_lit_step (Kd.slice 5 (Kd.int .u8)) _ 25 ?hg (N' := 12) ?hd (xs := ([t223, t226] : List (List Int))) (inner := [.slice Ao13 t223.length co13, .slice Ao14 t226.length co14]) (ok := (fun k_ => some k_ ≠ (v221 : Value).ownBlock ∧ k_ ≠ gb219)) (okp := (fun k_ => some k_ ≠ (v221 : Value).ownBlock ∧ k_ ≠ gb219)) ?hr ?hp (fun _ hk => hk) ((show ∀ k_, w12.heap.size ≤ k_ → (fun k_ => some k_ ≠ (v221 : Value).ownBlock ∧ k_ ≠ gb219) k_ from fun k_ hk => ⟨Kd.fresh' (Kd.R_lt (by (with_reducible repeat (first | apply Kd.R_alloc | apply Kd.R_drewN | apply Kd.R_drew)); exact HO222.out)) k_ hk, Kd.freshB (g := gb219) (o := .cells #[.slice A0_0 l0_0.length c0_0, .int .i64 a0_1, .slice A0_2 l0_2.length c0_2] 33 (0, 0)) (by (with_reducible repeat (first | refine blk_drewN ?_ _ | refine blk_drew ?_ | refine blk_alloc ?_ _)); exact BK219.out) k_ hk⟩) _ (Nat.le_refl _)) (Below.refl _ _) (Nat.le_refl _) (by simp) ?_; (case hd => rfl); (case hg => rfl); (case hr => first | (go_simp; done) | (go_simp; rfl)); (case hp => exact (Reps.one (show Kd.FK (Kd.slice 5 (Kd.int .u8)) _ _ t223 [.slice Ao13 t223.length co13] from (Kd.FK_slice_mk (Kd.R_reads' (Kd.R_mono (ok' := (fun k_ => some k_ ≠ (v221 : Value).ownBlock ∧ k_ ≠ gb219)) (Kd.R_types (HO225.out) BK219.out (by decide)) (fun k_ hk => ⟨hk.1.1.2, hk.2⟩))).2.1 (Kd.R_F (Kd.R_mono (ok' := (fun k_ => some k_ ≠ (v221 : Value).ownBlock ∧ k_ ≠ gb219)) (Kd.R_types (HO225.out) BK219.out (by decide)) (fun k_ hk => ⟨hk.1.1.2, hk.2⟩))))) (Reps.one (show Kd.FK (Kd.slice 5 (Kd.int .u8)) _ _ t226 [.slice Ao14 t226.length co14] from (Kd.FK_slice_mk (Kd.R_reads' (Kd.R_mono (ok' := (fun k_ => some k_ ≠ (v221 : Value).ownBlock ∧ k_ ≠ gb219)) (Kd.R_types (HO228.out) BK219.out (by decide)) (fun k_ hk => ⟨hk.1.1.2, hk.2⟩))).2.1 (Kd.R_F (Kd.R_mono (ok' := (fun k_ => some k_ ≠ (v221 : Value).ownBlock ∧ k_ ≠ gb219)) (Kd.R_types (HO228.out) BK219.out (by decide)) (fun k_ hk => ⟨hk.1.1.2, hk.2⟩))))) (Reps.none _ _))))
  intro v230 w15 ho16 hb hg_ hnew_
  clear hg_ hnew_
  (first | rw [← Ny229.out] at ho16 | (simp only [Int.reduceToNat] at ho16; rw [← Ny229.out] at ho16))
  have n0_ := Aside0.mk (Kd.R_below (by (with_reducible repeat (first | apply Kd.R_alloc | apply Kd.R_drewN | apply Kd.R_drew)); exact HO222.out) hb)
  have n1_ := Aside0.mk (Kd.N_lower ho16 (below_size (by repeat (first | (with_reducible first | exact HB.out | apply below_alloc | apply pw_below_drewN | apply below_drew1 | refine below_set ?_ GE219.out) | exact HB.out))))
  have n2_ := Aside0.mk (blk_below (g := gb219) (o := .cells #[.slice A0_0 l0_0.length c0_0, .int .i64 a0_1, .slice A0_2 l0_2.length c0_2] 33 (0, 0)) (by (with_reducible repeat (first | refine blk_drewN ?_ _ | refine blk_drew ?_ | refine blk_alloc ?_ _)); exact BK219.out) hb)
  have n3_ := Aside0.mk (below_step (by repeat (first | (with_reducible first | exact HB.out | apply below_alloc | apply pw_below_drewN | apply below_drew1 | refine below_set ?_ GE219.out) | exact HB.out)) hb)
  clear HO222
  clear BK219
  clear HB
  clear HO225
  clear HO228
  have HO222 := n0_
  have HO231 := n1_
  have BK219 := n2_
  have HB := n3_
  clear n0_ n1_ n2_ n3_
  clear hb ho16
  obtain ⟨Ao17, co17, eo17⟩ := Kd.N_slice HO231.out
  (first | subst eo17 | (injection eo17 with f1_ f2_ f3_; have f4_ := f1_.symm; have f5_ := f3_.symm; clear f1_ f2_ f3_; subst f4_; subst f5_))
  refine hK.out _ _ ⟨(blk_cell BK219.out 0).trans rfl, (blk_cell BK219.out 1).trans rfl, (blk_cell BK219.out 2).trans rfl⟩ (fun hHeld => ?_)
  clear hK K
  refine norm_ (a' := ?_) ?_ ?_
  rotate_left
  · show Act.put _ (some 12) _ = _
    simp only [Act.put, List.setIfInBounds_toArray, List.set_cons_zero, List.set_cons_succ, i64_w, i32_w]
    rfl
  refine one_ (i := 10) (N := some 13) #[true, true, true, true, true, true, true, true, true, true, true, false, false, false, false] rfl rfl (one_of HT_.out (by kernel_rfl)) (by decide) (fun K hK => ?_)
  refine goes_ Try.func15 (by kernel_rfl) rfl #[.slice Ao17 y229.length co17] (by rfl) rfl rfl (by (try simp only [List.map_toArray, List.map_cons, List.map_nil]); first | done | rfl | (simp only [List.length_drop, List.length_take]; rfl)) ?_
  with_reducible refine (spec_joined.calls k _ _ y229 t232 _ ?side1 ?side2 A5.out).mono ?_
  (case side1 => repeat (first | exact (Kd.N_reads' HO231.out).2.2 | (with_reducible refine Kd.C_alloc ?_ _) | (with_reducible refine Kd.C_drewN ?_ _) | (with_reducible refine Kd.C_drew ?_)))
  (case side2 => exact (Kd.N_reads' HO231.out).2.1)
  rintro e w18 ⟨v233, rfl, ho0, hb⟩
  refine ⟨_, rfl, ?_⟩
  have n0_ := Aside0.mk (Kd.R_elder' (by (with_reducible repeat (first | apply Kd.R_alloc | apply Kd.R_drewN | apply Kd.R_drew)); exact HO222.out) (Kd.R_base ho0) hb)
  have n1_ := Aside0.mk (Kd.N_elder' (by (with_reducible repeat (first | apply Kd.N_alloc | apply Kd.N_drewN | apply Kd.N_drew)); exact HO231.out) (Kd.R_base ho0) hb)
  have n2_ := Aside0.mk (Kd.R_lower (Kd.R_new' ho0 (Kd.R_lt (by (with_reducible repeat (first | apply Kd.R_alloc | apply Kd.R_drewN | apply Kd.R_drew)); exact HO222.out))) (below_size (by repeat (first | (with_reducible first | exact HB.out | apply below_alloc | apply pw_below_drewN | apply below_drew1 | refine below_set ?_ GE219.out) | exact HB.out))))
  have n3_ := Aside0.mk (blk_below (g := gb219) (o := .cells #[.slice A0_0 l0_0.length c0_0, .int .i64 a0_1, .slice A0_2 l0_2.length c0_2] 33 (0, 0)) (by (with_reducible repeat (first | refine blk_drewN ?_ _ | refine blk_drew ?_ | refine blk_alloc ?_ _)); exact BK219.out) hb)
  have n4_ := Aside0.mk (below_step (by repeat (first | (with_reducible first | exact HB.out | apply below_alloc | apply pw_below_drewN | apply below_drew1 | refine below_set ?_ GE219.out) | exact HB.out)) hb)
  clear HO222
  clear HO231
  clear BK219
  clear HB
  have HO222 := n0_
  have HO231 := n1_
  have HO234 := n2_
  have BK219 := n3_
  have HB := n4_
  clear n0_ n1_ n2_ n3_ n4_
  (try clear hb)
  (try clear hb2)
  (try clear hk)
  (try clear hi)
  (try clear ho0)
  obtain ⟨Ao19, co19, eo19⟩ := Kd.R_slice HO234.out
  (first | subst eo19 | (injection eo19 with f1_ f2_ f3_; have f4_ := f1_.symm; have f5_ := f3_.symm; clear f1_ f2_ f3_; subst f4_; subst f5_))
  refine hK.out _ _ ⟨(blk_cell BK219.out 0).trans rfl, (blk_cell BK219.out 1).trans rfl, (blk_cell BK219.out 2).trans rfl⟩ (fun hHeld => ?_)
  clear hK K
  refine norm_ (a' := ?_) ?_ ?_
  rotate_left
  · show Act.put _ (some 13) _ = _
    simp only [Act.put, List.setIfInBounds_toArray, List.set_cons_zero, List.set_cons_succ, i64_w, i32_w]
    rfl
  refine one_ (i := 11) (N := some 14) #[true, true, true, true, true, true, true, true, true, true, true, true, false, false, false] rfl rfl (one_of HT_.out (by kernel_rfl)) (by decide) (fun K hK => ?_)
  refine goes_ Try.func13 (by kernel_rfl) rfl #[.int .i64 2, .slice Ao19 t232.length co19] (by rfl) rfl rfl (by (try simp only [List.map_toArray, List.map_cons, List.map_nil]); first | done | rfl | (simp only [List.length_drop, List.length_take]; rfl)) ?_
  with_reducible refine (spec_within.calls k 2 _ _ t232 t235 _ ?side1 ?side2 A6.out).mono ?_
  (case side1 => repeat (first | exact (Kd.R_reads' HO234.out).2.2 | (with_reducible refine Kd.C_alloc ?_ _) | (with_reducible refine Kd.C_drewN ?_ _) | (with_reducible refine Kd.C_drew ?_)))
  (case side2 => exact (Kd.R_reads' HO234.out).2.1)
  rintro e w20 ⟨v236, rfl, ho0, hb⟩
  refine ⟨_, rfl, ?_⟩
  have n0_ := Aside0.mk (Kd.R_elder' (by (with_reducible repeat (first | apply Kd.R_alloc | apply Kd.R_drewN | apply Kd.R_drew)); exact HO222.out) (Kd.R_base ho0) hb)
  have n1_ := Aside0.mk (Kd.N_elder' (by (with_reducible repeat (first | apply Kd.N_alloc | apply Kd.N_drewN | apply Kd.N_drew)); exact HO231.out) (Kd.R_base ho0) hb)
  have n2_ := Aside0.mk (Kd.R_elder' (by (with_reducible repeat (first | apply Kd.R_alloc | apply Kd.R_drewN | apply Kd.R_drew)); exact HO234.out) (Kd.R_base ho0) hb)
  have n3_ := Aside0.mk (Kd.R_lower (Kd.R_new' (Kd.R_new' ho0 (Kd.R_lt (by (with_reducible repeat (first | apply Kd.R_alloc | apply Kd.R_drewN | apply Kd.R_drew)); exact HO222.out))) (Kd.R_lt (by (with_reducible repeat (first | apply Kd.R_alloc | apply Kd.R_drewN | apply Kd.R_drew)); exact HO234.out))) (below_size (by repeat (first | (with_reducible first | exact HB.out | apply below_alloc | apply pw_below_drewN | apply below_drew1 | refine below_set ?_ GE219.out) | exact HB.out))))
  have n4_ := Aside0.mk (blk_below (g := gb219) (o := .cells #[.slice A0_0 l0_0.length c0_0, .int .i64 a0_1, .slice A0_2 l0_2.length c0_2] 33 (0, 0)) (by (with_reducible repeat (first | refine blk_drewN ?_ _ | refine blk_drew ?_ | refine blk_alloc ?_ _)); exact BK219.out) hb)
  have n5_ := Aside0.mk (below_step (by repeat (first | (with_reducible first | exact HB.out | apply below_alloc | apply pw_below_drewN | apply below_drew1 | refine below_set ?_ GE219.out) | exact HB.out)) hb)
  clear HO222
  clear HO231
  clear HO234
  clear BK219
  clear HB
  have HO222 := n0_
  have HO231 := n1_
  have HO234 := n2_
  have HO237 := n3_
  have BK219 := n4_
  have HB := n5_
  clear n0_ n1_ n2_ n3_ n4_ n5_
  (try clear hb)
  (try clear hb2)
  (try clear hk)
  (try clear hi)
  (try clear ho0)
  obtain ⟨Ao21, co21, eo21⟩ := Kd.R_slice HO222.out
  (first | subst eo21 | (injection eo21 with f1_ f2_ f3_; have f4_ := f1_.symm; have f5_ := f3_.symm; clear f1_ f2_ f3_; subst f4_; subst f5_))
  obtain ⟨Ao22, co22, eo22⟩ := Kd.R_slice HO237.out
  (first | subst eo22 | (injection eo22 with f1_ f2_ f3_; have f4_ := f1_.symm; have f5_ := f3_.symm; clear f1_ f2_ f3_; subst f4_; subst f5_))
  refine hK.out _ _ ⟨(blk_cell BK219.out 0).trans rfl, (blk_cell BK219.out 1).trans rfl, (blk_cell BK219.out 2).trans rfl⟩ (fun hHeld => ?_)
  clear hK K
  refine norm_ (a' := ?_) ?_ ?_
  rotate_left
  · show Act.put _ (some 14) _ = _
    simp only [Act.put, List.setIfInBounds_toArray, List.set_cons_zero, List.set_cons_succ, i64_w, i32_w]
    rfl
  refine one_ (i := 12) (N := some 15) #[true, true, true, true, true, true, true, true, true, true, true, true, true, false, false] rfl rfl (one_of HT_.out (by kernel_rfl)) (by decide) (fun K hK => ?_)
  refine Kd.N_lit_step (Kd.slice 5 (Kd.int .u8)) _ 25 ?hg (N' := 15) ?hd (xs := ([t220, t235] : List (List Int))) (inner := [.slice Ao21 t220.length co21, .slice Ao22 t235.length co22]) (ok := (fun k_ => some k_ ≠ (.slice Ao17 y229.length co17 : Value).ownBlock ∧ some k_ ≠ (.slice Ao19 t232.length co19 : Value).ownBlock ∧ k_ ≠ gb219)) (okp := (fun k_ => some k_ ≠ (.slice Ao17 y229.length co17 : Value).ownBlock ∧ some k_ ≠ (.slice Ao19 t232.length co19 : Value).ownBlock ∧ k_ ≠ gb219)) ?hr ?hp (fun _ hk => hk) ((show ∀ k_, w20.heap.size ≤ k_ → (fun k_ => some k_ ≠ (.slice Ao17 y229.length co17 : Value).ownBlock ∧ some k_ ≠ (.slice Ao19 t232.length co19 : Value).ownBlock ∧ k_ ≠ gb219) k_ from fun k_ hk => ⟨Kd.fresh' (Kd.N_lt (by (with_reducible repeat (first | apply Kd.N_alloc | apply Kd.N_drewN | apply Kd.N_drew)); exact HO231.out)) k_ hk, Kd.fresh' (Kd.R_lt (by (with_reducible repeat (first | apply Kd.R_alloc | apply Kd.R_drewN | apply Kd.R_drew)); exact HO234.out)) k_ hk, Kd.freshB (g := gb219) (o := .cells #[.slice A0_0 l0_0.length c0_0, .int .i64 a0_1, .slice A0_2 l0_2.length c0_2] 33 (0, 0)) (by (with_reducible repeat (first | refine blk_drewN ?_ _ | refine blk_drew ?_ | refine blk_alloc ?_ _)); exact BK219.out) k_ hk⟩) _ (Nat.le_refl _)) (Below.refl _ _) (Nat.le_refl _) (by simp) ?_; (case hd => rfl); (case hg => rfl); (case hr => first | (go_simp; done) | (go_simp; rfl)); (case hp => exact (Reps.one (show Kd.FK (Kd.slice 5 (Kd.int .u8)) _ _ t220 [.slice Ao21 t220.length co21] from (Kd.FK_slice_mk (Kd.R_reads' (Kd.R_mono (ok' := (fun k_ => some k_ ≠ (.slice Ao17 y229.length co17 : Value).ownBlock ∧ some k_ ≠ (.slice Ao19 t232.length co19 : Value).ownBlock ∧ k_ ≠ gb219)) (Kd.R_types (Kd.R_apart' (HO222.out) (Kd.N_typed HO231.out) (by decide)) BK219.out (by decide)) (fun k_ hk => ⟨hk.1.2, ⟨hk.1.1.1.2, hk.2⟩⟩))).2.1 (Kd.R_F (Kd.R_mono (ok' := (fun k_ => some k_ ≠ (.slice Ao17 y229.length co17 : Value).ownBlock ∧ some k_ ≠ (.slice Ao19 t232.length co19 : Value).ownBlock ∧ k_ ≠ gb219)) (Kd.R_types (Kd.R_apart' (HO222.out) (Kd.N_typed HO231.out) (by decide)) BK219.out (by decide)) (fun k_ hk => ⟨hk.1.2, ⟨hk.1.1.1.2, hk.2⟩⟩))))) (Reps.one (show Kd.FK (Kd.slice 5 (Kd.int .u8)) _ _ t235 [.slice Ao22 t235.length co22] from (Kd.FK_slice_mk (Kd.R_reads' (Kd.R_mono (ok' := (fun k_ => some k_ ≠ (.slice Ao17 y229.length co17 : Value).ownBlock ∧ some k_ ≠ (.slice Ao19 t232.length co19 : Value).ownBlock ∧ k_ ≠ gb219)) (Kd.R_types (Kd.R_apart' (HO237.out) (Kd.N_typed HO231.out) (by decide)) BK219.out (by decide)) (fun k_ hk => ⟨hk.1.2, ⟨hk.1.1.2, hk.2⟩⟩))).2.1 (Kd.R_F (Kd.R_mono (ok' := (fun k_ => some k_ ≠ (.slice Ao17 y229.length co17 : Value).ownBlock ∧ some k_ ≠ (.slice Ao19 t232.length co19 : Value).ownBlock ∧ k_ ≠ gb219)) (Kd.R_types (Kd.R_apart' (HO237.out) (Kd.N_typed HO231.out) (by decide)) BK219.out (by decide)) (fun k_ hk => ⟨hk.1.2, ⟨hk.1.1.2, hk.2⟩⟩))))) (Reps.none _ _))))
  intro v239 w23 ho24 hb hg_ hnew_
  clear hg_ hnew_
  (first | rw [← Ny238.out] at ho24 | (simp only [Int.reduceToNat] at ho24; rw [← Ny238.out] at ho24))
  have n0_ := Aside0.mk (Kd.N_elder' (by (with_reducible repeat (first | apply Kd.N_alloc | apply Kd.N_drewN | apply Kd.N_drew)); exact HO231.out) (Kd.N_base ho24) hb)
  have n1_ := Aside0.mk (Kd.R_below (by (with_reducible repeat (first | apply Kd.R_alloc | apply Kd.R_drewN | apply Kd.R_drew)); exact HO234.out) hb)
  have n2_ := Aside0.mk (Kd.N_lower ho24 (below_size (by repeat (first | (with_reducible first | exact HB.out | apply below_alloc | apply pw_below_drewN | apply below_drew1 | refine below_set ?_ GE219.out) | exact HB.out))))
  have n3_ := Aside0.mk (blk_below (g := gb219) (o := .cells #[.slice A0_0 l0_0.length c0_0, .int .i64 a0_1, .slice A0_2 l0_2.length c0_2] 33 (0, 0)) (by (with_reducible repeat (first | refine blk_drewN ?_ _ | refine blk_drew ?_ | refine blk_alloc ?_ _)); exact BK219.out) hb)
  have n4_ := Aside0.mk (below_step (by repeat (first | (with_reducible first | exact HB.out | apply below_alloc | apply pw_below_drewN | apply below_drew1 | refine below_set ?_ GE219.out) | exact HB.out)) hb)
  clear HO231
  clear HO234
  clear BK219
  clear HB
  clear HO222
  clear HO237
  have HO231 := n0_
  have HO234 := n1_
  have HO240 := n2_
  have BK219 := n3_
  have HB := n4_
  clear n0_ n1_ n2_ n3_ n4_
  clear hb ho24
  obtain ⟨Ao25, co25, eo25⟩ := Kd.N_slice HO240.out
  (first | subst eo25 | (injection eo25 with f1_ f2_ f3_; have f4_ := f1_.symm; have f5_ := f3_.symm; clear f1_ f2_ f3_; subst f4_; subst f5_))
  refine hK.out _ _ ⟨(blk_cell BK219.out 0).trans rfl, (blk_cell BK219.out 1).trans rfl, (blk_cell BK219.out 2).trans rfl⟩ (fun hHeld => ?_)
  clear hK K
  refine norm_ (a' := ?_) ?_ ?_
  rotate_left
  · show Act.put _ (some 15) _ = _
    simp only [Act.put, List.setIfInBounds_toArray, List.set_cons_zero, List.set_cons_succ, i64_w, i32_w]
    rfl
  refine one_ (i := 13) (N := some 16) #[true, true, true, true, true, true, true, true, true, true, true, true, true, true, false] rfl rfl (one_of HT_.out (by kernel_rfl)) (by decide) (fun K hK => ?_)
  refine goes_ Try.func15 (by kernel_rfl) rfl #[.slice Ao25 y238.length co25] (by rfl) rfl rfl (by (try simp only [List.map_toArray, List.map_cons, List.map_nil]); first | done | rfl | (simp only [List.length_drop, List.length_take]; rfl)) ?_
  with_reducible refine (spec_joined.calls k _ _ y238 t241 _ ?side1 ?side2 A7.out).mono ?_
  (case side1 => repeat (first | exact (Kd.N_reads' HO240.out).2.2 | (with_reducible refine Kd.C_alloc ?_ _) | (with_reducible refine Kd.C_drewN ?_ _) | (with_reducible refine Kd.C_drew ?_)))
  (case side2 => exact (Kd.N_reads' HO240.out).2.1)
  rintro e w26 ⟨v242, rfl, ho0, hb⟩
  refine ⟨_, rfl, ?_⟩
  have n0_ := Aside0.mk (Kd.N_elder' (by (with_reducible repeat (first | apply Kd.N_alloc | apply Kd.N_drewN | apply Kd.N_drew)); exact HO231.out) (Kd.R_base ho0) hb)
  have n1_ := Aside0.mk (Kd.R_elder' (by (with_reducible repeat (first | apply Kd.R_alloc | apply Kd.R_drewN | apply Kd.R_drew)); exact HO234.out) (Kd.R_base ho0) hb)
  have n2_ := Aside0.mk (Kd.N_elder' (by (with_reducible repeat (first | apply Kd.N_alloc | apply Kd.N_drewN | apply Kd.N_drew)); exact HO240.out) (Kd.R_base ho0) hb)
  have n3_ := Aside0.mk (Kd.R_lower (Kd.R_new' ho0 (Kd.R_lt (by (with_reducible repeat (first | apply Kd.R_alloc | apply Kd.R_drewN | apply Kd.R_drew)); exact HO234.out))) (below_size (by repeat (first | (with_reducible first | exact HB.out | apply below_alloc | apply pw_below_drewN | apply below_drew1 | refine below_set ?_ GE219.out) | exact HB.out))))
  have n4_ := Aside0.mk (blk_below (g := gb219) (o := .cells #[.slice A0_0 l0_0.length c0_0, .int .i64 a0_1, .slice A0_2 l0_2.length c0_2] 33 (0, 0)) (by (with_reducible repeat (first | refine blk_drewN ?_ _ | refine blk_drew ?_ | refine blk_alloc ?_ _)); exact BK219.out) hb)
  have n5_ := Aside0.mk (below_step (by repeat (first | (with_reducible first | exact HB.out | apply below_alloc | apply pw_below_drewN | apply below_drew1 | refine below_set ?_ GE219.out) | exact HB.out)) hb)
  clear HO231
  clear HO234
  clear HO240
  clear BK219
  clear HB
  have HO231 := n0_
  have HO234 := n1_
  have HO240 := n2_
  have HO243 := n3_
  have BK219 := n4_
  have HB := n5_
  clear n0_ n1_ n2_ n3_ n4_ n5_
  (try clear hb)
  (try clear hb2)
  (try clear hk)
  (try clear hi)
  (try clear ho0)
  refine hK.out _ _ ⟨(blk_cell BK219.out 0).trans rfl, (blk_cell BK219.out 1).trans rfl, (blk_cell BK219.out 2).trans rfl⟩ (fun hHeld => ?_)
  clear hK K
  refine norm_ (a' := ?_) ?_ ?_
  rotate_left
  · show Act.put _ (some 16) _ = _
    simp only [Act.put, List.setIfInBounds_toArray, List.set_cons_zero, List.set_cons_succ, i64_w, i32_w]
    rfl
  refine pure_ (i := 14) (N := some 2) (v := ?_) (a' := ?_) #[true, true, true, true, true, true, true, true, true, true, true, true, true, true, true] rfl rfl (any_of HT_.out (by kernel_rfl)) (fun _ _ _ h => h) (Or.inl ⟨by rfl, ?_⟩) ?_ ?_
  rotate_left
  · intro w'
    go_simp
    with_reducible rfl
  rotate_left
  · simp only [Act.put, List.setIfInBounds_toArray, List.set_cons_zero, List.set_cons_succ, i64_w, i32_w]
    rfl
  refine done_ (done_of HT_.out (by kernel_rfl)) ?_
  try go_wp2
  go_ret
  exact ⟨_, by first | rfl | (simp [errW_none, errW_some] <;> rfl) | (simp [*, errW_none, errW_some] <;> rfl), by (with_reducible repeat (first | apply Kd.R_alloc | apply Kd.R_drewN | apply Kd.R_drew)); exact Kd.R_mono HO243.out (fun _ hk => trivial), by repeat (first | (with_reducible first | exact HB.out | apply below_alloc | apply pw_below_drewN | apply below_drew1 | refine below_set ?_ GE219.out) | exact HB.out)⟩

end Go.Proofs.Ytlnknihjccdgkaa.PFnMessage
