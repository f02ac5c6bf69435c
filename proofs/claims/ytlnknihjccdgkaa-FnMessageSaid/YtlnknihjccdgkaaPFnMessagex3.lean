-- PRINTED BY print.sh 35421559b90ae4d0a3588c463048766b98c2df88dd9212a6774a882060cdf62d: not written by this session
import Derived.Test.YtlnknihjccdgkaaPFnMessagex0
import Derived.Test.YtlnknihjccdgkaaPFnMessagex2
namespace Go.Proofs.Ytlnknihjccdgkaa.PFnMessage
open Go.RowKit Go.Proofs.YtlnknihjccdgkaaW.PrintWords Go.Proofs.YtlnknihjccdgkaaW.PrintLast Go.Proofs.YtlnknihjccdgkaaW.PrintMore
attribute [local go_sem] max2_int min2_int max_two min_two max_three min_three max_four min_four   -- for this text's walks alone
set_option linter.unusedVariables false
set_option linter.unusedSimpArgs false

/-! ### spec_fixed: function 17 -/
def spec_fixed.l0 : Nat → Int → List Int → Int → Option (List Int)
  | 0, _, _, _ => none
  | k + 1, x1, x5, x13 => if x13 < 8 then (if 0 ≤ (wrap64 (8 * x13)) then (if x5.length < 140737488355328 then (spec_fixed.l0 k x1 (x5 ++ [(shr .u64 (IntKind.u64.wrap (x1)) (wrap64 (8 * x13))) % 256]) (wrap64 (x13 + 1))) else (none)) else (none)) else (some x5)
def spec_fixed.f (k : Nat) (a0 : Int) (a1 : Int) : Option (List Int) := if a1 = 0 then (some ([] : List Int)) else ((spec_counted.f k (Go.bits .or .i64 (wrap64 (a0 * 8)) 1)).bind fun t244 => (spec_fixed.l0 k a1 t244 0))
theorem spec_fixed.mono_l : ∀ k, (∀ y0 y1 y2, LeO (spec_fixed.l0 k y0 y1 y2) (spec_fixed.l0 (k + 1) y0 y1 y2))
  | 0 => fun _ _ _ r h => by simp [spec_fixed.l0] at h
  | k + 1 => by
    have ih0 := spec_fixed.mono_l k
    · intro y0 y1 y2
      unfold spec_fixed.l0
      repeat' first
      | (with_reducible exact ih0 _ _ _)
      | (with_reducible exact spec_counted.mono _ _)
      | (with_reducible exact LeO.refl _)
      | (with_reducible exact LeO.none _)
      | (with_reducible refine LeO.ite ?_ ?_)
      | (with_reducible refine LeO.bind ?_ (fun _ => ?_))
      | exact ih0 _ _ _
      | exact spec_counted.mono _ _
      | exact LeO.none _
      | refine LeO.ite ?_ ?_
      | refine LeO.bind ?_ (fun _ => ?_)
theorem spec_fixed.mono : ∀ a0 a1 k, LeO (spec_fixed.f k a0 a1) (spec_fixed.f (k + 1) a0 a1) := by
  intro a0 a1 k
  have ih0 := spec_fixed.mono_l k
  unfold spec_fixed.f
  repeat' first
      | (with_reducible exact ih0 _ _ _)
      | (with_reducible exact spec_counted.mono _ _)
      | (with_reducible exact LeO.refl _)
      | (with_reducible exact LeO.none _)
      | (with_reducible refine LeO.ite ?_ ?_)
      | (with_reducible refine LeO.bind ?_ (fun _ => ?_))
      | exact ih0 _ _ _
      | exact spec_counted.mono _ _
      | exact LeO.none _
      | refine LeO.ite ?_ ?_
      | refine LeO.bind ?_ (fun _ => ?_)
set_option maxHeartbeats 8000000 in
set_option maxRecDepth 100000 in
theorem spec_fixed.calls (k : Nat) (a0 : Int) (a1 : Int) (r : List Int) (w : World) (h : spec_fixed.f k a0 a1 = some r) :
    Calls Try.prog 17 #[.int .i64 a0, .int .i64 a1] w fun e w' => ∃ v0_ : Value, e = .returned (v0_) ∧ Kd.R (Kd.int .u8) 5 w' w.heap.size (fun _ => True) v0_ r ∧ Below w.heap.size w w' := by
  have HB := Aside0.mk (Below.refl w.heap.size w)
  have H : (if a1 = 0 then (some ([] : List Int)) else ((spec_counted.f k (Go.bits .or .i64 (wrap64 (a0 * 8)) 1)).bind fun t244 => (spec_fixed.l0 k a1 t244 0))) = some r := h
  clear h
  by_cases c3 : a1 = 0
  · rw [if_pos c3] at H
    have c3b0 : (a1 == 0) = true := beq_iff_eq.mpr c3
    have c3b1 : (a1 != 0) = false := bne_eq_false_iff_eq.mpr c3
    clear c3
    obtain rfl := Option.some.inj H
    go_enter Try.func17, Try.ntmps17
    go_wp2
    go_ret
    exact ⟨_, by first | rfl | (simp [errW_none, errW_some] <;> rfl) | (simp [*, errW_none, errW_some] <;> rfl), by first | exact Kd.R_nil _ _ _ _ _ | exact Kd.N_nil _ _ _ _ _ | exact Kd.V_nil _ _ _ _ _ | exact Kd.Q_nil _ _ _ _ _ | exact Kd.S_nil _ _ _ _ _, by repeat (first | (with_reducible first | exact HB.out | apply below_alloc | apply pw_below_drewN | apply below_drew1) | exact HB.out)⟩
  · rw [if_neg c3] at H
    have c3b0 : (a1 == 0) = false := beq_eq_false_iff_ne.mpr c3
    have c3b1 : (a1 != 0) = true := bne_iff_ne.mpr c3
    replace H := Option.bind_eq_some_iff.mp H
    obtain ⟨t244, A40, H⟩ := H
    replace H : (spec_fixed.l0 k a1 t244 0) = some r := H
    have A4 := Aside0.mk A40
    clear A40
    have H' := Aside0.mk H
    clear H
    go_enter Try.func17, Try.ntmps17
    go_wp2_with (first | ((with_reducible refine gate_callee (f := 20) rfl ?_); refine goesL_ (some 12) rfl rfl Try.func20 (by kernel_rfl) rfl #[.int .i64 (Go.bits .or .i64 (wrap64 (a0 * 8)) 1)] rfl (by (try simp only [List.map_toArray, List.map_cons, List.map_nil]); first | done | rfl | (simp only [List.length_drop, List.length_take]; rfl)) ?_; (with_reducible refine (spec_counted.calls k (Go.bits .or .i64 (wrap64 (a0 * 8)) 1) t244 _ A4.out).mono ?_); rintro e w5 ⟨v245, rfl, ho0, hb⟩; refine ⟨_, rfl, ?_⟩; have n0_ := Aside0.mk (Kd.R_lower ho0 (below_size (by repeat (first | (with_reducible first | exact HB.out | apply below_alloc | apply pw_below_drewN | apply below_drew1) | exact HB.out)))); have n1_ := Aside0.mk (below_step (by repeat (first | (with_reducible first | exact HB.out | apply below_alloc | apply pw_below_drewN | apply below_drew1) | exact HB.out)) hb); clear HB; have HO246 := n0_; have HB := n1_; clear n0_ n1_; (try clear hb); (try clear hb2); (try clear hk); (try clear hi); (try clear ho0)))
    go_loopg [5, 13] k (fun kq v5 v13 w' => ∃ (x5_1 : List Int) (x13_1 : Int), v13 = .int .i64 x13_1 ∧ Aside0 (spec_fixed.l0 kq a1 x5_1 x13_1 = some r) ∧ Aside0 (kq ≤ k) ∧ Aside0 (Kd.R (Kd.int .u8) 5 w' w.heap.size (fun _ => True) v5 x5_1) ∧ Aside0 (Below w.heap.size w w'))
    case atStart => exact ⟨(t244), (0), (by first | rfl | (simp; done) | (simp [*]; done)), H', ⟨Nat.le_refl _⟩, ⟨by (with_reducible repeat (first | apply Kd.R_alloc | apply Kd.R_drewN | apply Kd.R_drew)); exact HO246.out⟩, ⟨by repeat (first | (with_reducible first | exact HB.out | apply below_alloc | apply pw_below_drewN | apply below_drew1) | exact HB.out)⟩⟩
    case round =>
      clear H'
      try clear c1
      try clear c2
      try clear p2
      try clear c3
      try clear c3b0
      try clear c3b1
      obtain ⟨x5_1, x13_1, rfl, HA, HK1, HO_5, HB⟩ := hrel
      cases gk with
      | zero => exact absurd HA.out (by simp [spec_fixed.l0])
      | succ k1 =>
        have H := HA.out
        clear HA
        simp only [spec_fixed.l0] at H
        by_cases c6 : x13_1 < 8
        · rw [if_pos c6] at H
          have c6b0 : decide (x13_1 < 8) = true := decide_eq_true c6
          clear c6
          obtain ⟨ji7, hji7⟩ : ∃ j_ : Int, (wrap64 (8 * x13_1)) = j_ := ⟨_, rfl⟩
          replace H : (if 0 ≤ (ji7) then (if x5_1.length < 140737488355328 then (spec_fixed.l0 k1 a1 (x5_1 ++ [(shr .u64 (IntKind.u64.wrap (a1)) (ji7)) % 256]) (wrap64 (x13_1 + 1))) else (none)) else (none)) = some r := by first | (rw [hji7] at H; exact H) | (simp only [hji7] at H ⊢; exact H)
          have hji7w : (IntKind.i64.wrap (8 * x13_1)) = ji7 := (i64_w _).trans hji7
          by_cases c8 : 0 ≤ (ji7)
          · rw [if_pos c8] at H
            have c8b0 := eq_true c8
            have c8b1 : decide (0 ≤ (ji7)) = true := decide_eq_true c8
            clear c8
            obtain ⟨ji9, hji9⟩ : ∃ j_ : Int, (shr .u64 (IntKind.u64.wrap (a1)) (ji7)) = j_ := ⟨_, rfl⟩
            replace H : (if x5_1.length < 140737488355328 then (spec_fixed.l0 k1 a1 (x5_1 ++ [(ji9) % 256]) (wrap64 (x13_1 + 1))) else (none)) = some r := by first | (rw [hji9] at H; exact H) | (simp only [hji9] at H ⊢; exact H)
            have hji9_ : ((IntKind.u64.wrap (a1)) / 2 ^ min (ji7).toNat 64) = ji9 := hji9
            have hji9z : (ji7) ≤ 64 → ((IntKind.u64.wrap (a1)) / 2 ^ (ji7).toNat) = ji9 := shr_small hji9
            by_cases c10 : x5_1.length < 140737488355328
            · rw [if_pos c10] at H
              have LMc10 := Aside0.mk c10
              clear c10
              obtain ⟨y247, hy247⟩ : ∃ y_ : List Int, y_ = (x5_1 ++ [(ji9) % 256]) := ⟨_, rfl⟩
              replace H : (spec_fixed.l0 k1 a1 y247 (wrap64 (x13_1 + 1))) = some r := by first | (rw [hy247]; with_reducible exact H) | (have H2_ := (Option.bind_some _ _).symm.trans H; rw [hy247]; with_reducible exact H2_) | (have H2_ := (Option.bind_some _ _).symm.trans H; with_reducible exact H2_) | with_reducible exact H | (rw [hy247]; exact H) | exact H
              have Ny247 := Aside0.mk hy247
              clear hy247
              have H' := Aside0.mk H
              clear H
              go_wp2_with (first | ((with_reducible refine gate_builtin (b := .append) (xs := #[.tmp 16, .tmp 23]) rfl ?_); at_builtin; refine Kd.R_append (Kd.int .u8) (w0 := w) w.heap.size rfl (.tmp 16) (.tmp 23) 25 5 (.int .u8 0) 1 rfl Try.underlying25 info5 rfl (by decide) (by omega) u5 x5_1 ((ji9) % 256) [.int .u8 ((ji9) % 256)] (fun _ => True) (fun _ => False) rfl rfl ?aP (fun _ hk => hk.elim) ?aF ?aO ?aB ?aS ?aL ?_; (case aP => exact rfl); (case aB => exact (by repeat (first | (with_reducible first | exact HB.out | apply below_alloc | apply pw_below_drewN | apply below_drew1) | exact HB.out))); (case aF => exact (fun _ _ => trivial)); (case aO => exact (by (with_reducible repeat (first | apply Kd.R_alloc | apply Kd.R_drewN | apply Kd.R_drew)); exact HO_5.out)); (case aS => exact (below_size (by repeat (first | (with_reducible first | exact HB.out | apply below_alloc | apply pw_below_drewN | apply below_drew1) | exact HB.out)))); (case aL => have := LMc10.out; omega); intro v248 w11 ho hb hg hat; rw [← Ny247.out] at ho; have n0_ := Aside0.mk (hb); have n1_ := Aside0.mk (ho); clear HB; clear HO_5; have HB := n0_; have HO249 := n1_; clear n0_ n1_; clear ho hb hg hat))
              go_roundg k1
              case measure => have := HK1.out; omega
              case rel => exact ⟨(y247), (wrap64 (x13_1 + 1)), (by first | rfl | (simp; done) | (simp [*]; done)), H', ⟨by have := HK1.out; omega⟩, ⟨by (with_reducible repeat (first | apply Kd.R_alloc | apply Kd.R_drewN | apply Kd.R_drew)); exact HO249.out⟩, ⟨by repeat (first | (with_reducible first | exact HB.out | apply below_alloc | apply pw_below_drewN | apply below_drew1) | exact HB.out)⟩⟩
            · rw [if_neg c10] at H
              exact absurd H (by simp)
          · rw [if_neg c8] at H
            exact absurd H (by simp)
        · rw [if_neg c6] at H
          have c6b0 : decide (x13_1 < 8) = false := decide_eq_false c6
          clear c6
          obtain rfl := Option.some.inj H
          go_wp2
          go_ret
          exact ⟨_, by first | rfl | (simp [errW_none, errW_some] <;> rfl) | (simp [*, errW_none, errW_some] <;> rfl), by (with_reducible repeat (first | apply Kd.R_alloc | apply Kd.R_drewN | apply Kd.R_drew)); exact HO_5.out, by repeat (first | (with_reducible first | exact HB.out | apply below_alloc | apply pw_below_drewN | apply below_drew1) | exact HB.out)⟩

/-! ### spec_Moment_Bytes: function 18 -/
def spec_Moment_Bytes.f (k : Nat) (a0_0 : Int) (a0_1 : Int) : Option (List Int) := (spec_number.f k 1 a0_0).bind fun t251 => ((spec_number.f k 2 a0_1).bind fun t254 => ((spec_joined.f k (([t251, t254] : List (List Int)))).bind fun t260 => (some t260)))
theorem spec_Moment_Bytes.mono : ∀ a0 a1 k, LeO (spec_Moment_Bytes.f k a0 a1) (spec_Moment_Bytes.f (k + 1) a0 a1) := by
  intro a0 a1 k
  unfold spec_Moment_Bytes.f
  repeat' first
      | (with_reducible exact spec_joined.mono _ _)
      | (with_reducible exact spec_number.mono _ _ _)
      | (with_reducible exact LeO.refl _)
      | (with_reducible exact LeO.none _)
      | (with_reducible refine LeO.ite ?_ ?_)
      | (with_reducible refine LeO.bind ?_ (fun _ => ?_))
      | exact spec_joined.mono _ _
      | exact spec_number.mono _ _ _
      | exact LeO.none _
      | refine LeO.ite ?_ ?_
      | refine LeO.bind ?_ (fun _ => ?_)
def spec_Moment_Bytes.T1 : Bool × List (List Nat × List Nat) := (true, [([], []), ([0], [0]), ([1], [1]), ([], []), ([3], [3]), ([4, 2], [4]), ([2, 5], [2, 5]), ([6, 5], [6]), ([7, 7, 0, 1, 2, 3, 4, 5, 6, 7], [7])])
def spec_Moment_Bytes.B1 : List Nat := [0, 1, 3, 0, 8, 31, 63, 127, 255]
theorem spec_Moment_Bytes.tab1 : rtab .any (opsOf Try.f18 1) = spec_Moment_Bytes.T1 := by kernel_rfl
theorem spec_Moment_Bytes.bits1 : waitsOk spec_Moment_Bytes.T1.2 spec_Moment_Bytes.B1 = true := by kernel_rfl
set_option maxHeartbeats 8000000 in
set_option maxRecDepth 100000 in
theorem spec_Moment_Bytes.calls (k : Nat) (a0_0 : Int) (a0_1 : Int) (r : List Int) (w : World) (h : spec_Moment_Bytes.f k a0_0 a0_1 = some r) :
    Calls Try.prog 18 #[.agg #[.int .i64 a0_0, .int .i64 a0_1]] w fun e w' => ∃ v0_ : Value, e = .returned (v0_) ∧ Kd.R (Kd.int .u8) 5 w' w.heap.size (fun _ => True) v0_ r ∧ Below w.heap.size w w' := by
  have hu34 := Try.underlying34
  have HB := Aside0.mk (Below.refl w.heap.size w)
  have H : ((spec_number.f k 1 a0_0).bind fun t251 => ((spec_number.f k 2 a0_1).bind fun t254 => ((spec_joined.f k (([t251, t254] : List (List Int)))).bind fun t260 => (some t260)))) = some r := h
  clear h
  replace H := Option.bind_eq_some_iff.mp H
  obtain ⟨t251, A20, H⟩ := H
  replace H : ((spec_number.f k 2 a0_1).bind fun t254 => ((spec_joined.f k (([t251, t254] : List (List Int)))).bind fun t260 => (some t260))) = some r := H
  have A2 := Aside0.mk A20
  clear A20
  replace H := Option.bind_eq_some_iff.mp H
  obtain ⟨t254, A30, H⟩ := H
  replace H : ((spec_joined.f k (([t251, t254] : List (List Int)))).bind fun t260 => (some t260)) = some r := H
  have A3 := Aside0.mk A30
  clear A30
  obtain ⟨y257, hy257⟩ : ∃ y_ : List (List Int), y_ = (([t251, t254] : List (List Int))) := ⟨_, rfl⟩
  replace H : ((spec_joined.f k y257).bind fun t260 => (some t260)) = some r := by first | (rw [hy257]; with_reducible exact H) | (have H2_ := (Option.bind_some _ _).symm.trans H; rw [hy257]; with_reducible exact H2_) | (have H2_ := (Option.bind_some _ _).symm.trans H; with_reducible exact H2_) | with_reducible exact H | (rw [hy257]; exact H) | exact H
  have Ny257 := Aside0.mk hy257
  clear hy257
  replace H := Option.bind_eq_some_iff.mp H
  obtain ⟨t260, A40, H⟩ := H
  replace H : (some t260) = some r := H
  have A4 := Aside0.mk A40
  clear A40
  obtain rfl := Option.some.inj H
  go_enter Try.func18, Try.ntmps18
  try go_wp2_with (first | ((with_reducible refine gate_dst (N := 1) rfl ?_); refine box_event ?hg (N := 1) ?hd (cs := #[.int .i64 a0_0, .int .i64 a0_1]) (t := 34) ?hr ?_; (case hd => rfl); (case hg => rfl); (case hr => first | (go_simp; done) | (go_simp; rfl)); intro gb250 hg w5 hbox hb; have n0_ := Aside0.mk (below_step (by repeat (first | (with_reducible first | exact HB.out | apply below_alloc | apply pw_below_drewN | apply below_drew1) | exact HB.out)) hb); have n1_ := Aside0.mk (hbox); have n2_ := Aside0.mk ((by rw [hg]; exact (below_size (by repeat (first | (with_reducible first | exact HB.out | apply below_alloc | apply pw_below_drewN | apply below_drew1) | exact HB.out))) : w.heap.size ≤ gb250)); have n3_ := Aside0.mk ((by rw [hg]; exact (below_size (by repeat (first | (with_reducible first | exact HB.out | apply below_alloc | apply pw_below_drewN | apply below_drew1) | exact HB.out))) : w.heap.size ≤ gb250)); clear HB; have HB := n0_; have BK250 := n1_; have GW250 := n2_; have GE250 := n3_; clear n0_ n1_ n2_ n3_; clear hb hbox hg))
  have n0_ := Aside0.mk (blk_drew BK250.out)
  have n1_ := Aside0.mk (below_drew1 HB.out)
  clear BK250
  clear HB
  have BK250 := n0_
  have HB := n1_
  clear n0_ n1_
  refine start_ (n := 9) (S := fun w' => w'.cell? ⟨gb250, 0, none⟩ = some (.int .i64 a0_0) ∧ w'.cell? ⟨gb250, 1, none⟩ = some (.int .i64 a0_1)) (ds := []) #[false, false, false, false, false, false, false, false, false] (by kernel_rfl) rfl rfl ⟨(blk_cell BK250.out 0).trans rfl, (blk_cell BK250.out 1).trans rfl⟩ (fun hHeld => ?_); refine with_tabW spec_Moment_Bytes.tab1 spec_Moment_Bytes.bits1 (fun HT_ HW_ => ?_)
  generalize w5.drew = w6 at BK250 HB hHeld ⊢
  refine pure_ (i := 0) (N := some 3) (v := ?_) (a' := ?_) #[true, false, false, false, false, false, false, false, false] rfl rfl (any_of HT_.out (by kernel_rfl)) (fun _ _ _ h => h) (Or.inl ⟨by rfl, ?_⟩) ?_ ?_
  rotate_left
  · intro w'
    go_simp
    with_reducible rfl
  rotate_left
  · simp only [Act.put, List.setIfInBounds_toArray, List.set_cons_zero, List.set_cons_succ, i64_w, i32_w]
    rfl
  refine pure_ (i := 3) (N := some 6) (v := ?_) (a' := ?_) #[true, false, false, true, false, false, false, false, false] rfl rfl (any_of HT_.out (by kernel_rfl)) (fun _ _ _ h => h) (Or.inl ⟨by rfl, ?_⟩) ?_ ?_
  rotate_left
  · intro w'
    go_simp
    with_reducible rfl
  rotate_left
  · simp only [Act.put, List.setIfInBounds_toArray, List.set_cons_zero, List.set_cons_succ, i64_w, i32_w]
    rfl
  refine take_ (i := 1) (N := some 4) (v := ?_) (a' := ?_) #[true, true, false, true, false, false, false, false, false] rfl rfl (take_ofW HT_.out HW_.out (by kernel_rfl)) (fun _ _ _ h => h) (Or.inl ⟨by rfl, ?_⟩) hHeld ?_ ?_
  rotate_left
  · rintro w' ⟨s0, s1⟩
    go_simp
    with_reducible rfl
  rotate_left
  · simp only [Act.put, List.setIfInBounds_toArray, List.set_cons_zero, List.set_cons_succ, i64_w, i32_w]
    rfl
  refine take_ (i := 4) (N := some 7) (v := ?_) (a' := ?_) #[true, true, false, true, true, false, false, false, false] rfl rfl (take_ofW HT_.out HW_.out (by kernel_rfl)) (fun _ _ _ h => h) (Or.inl ⟨by rfl, ?_⟩) hHeld ?_ ?_
  rotate_left
  · rintro w' ⟨s0, s1⟩
    go_simp
    with_reducible rfl
  rotate_left
  · simp only [Act.put, List.setIfInBounds_toArray, List.set_cons_zero, List.set_cons_succ, i64_w, i32_w]
    rfl
  refine one_ (i := 2) (N := some 5) #[true, true, true, true, true, false, false, false, false] rfl rfl (one_of HT_.out (by kernel_rfl)) (by decide) (fun K hK => ?_)
  refine goes_ Try.func16 (by kernel_rfl) rfl #[.int .i64 1, .int .i64 a0_0] (by rfl) rfl rfl (by (try simp only [List.map_toArray, List.map_cons, List.map_nil]); first | done | rfl | (simp only [List.length_drop, List.length_take]; rfl)) ?_
  with_reducible refine (spec_number.calls k 1 a0_0 t251 _ A2.out).mono ?_
  rintro e w7 ⟨v252, rfl, ho0, hb⟩
  refine ⟨_, rfl, ?_⟩
  have n0_ := Aside0.mk (Kd.R_lower ho0 (below_size (by repeat (first | (with_reducible first | exact HB.out | apply below_alloc | apply pw_below_drewN | apply below_drew1 | refine below_set ?_ GE250.out) | exact HB.out))))
  have n1_ := Aside0.mk (blk_below (g := gb250) (o := .cells #[.int .i64 a0_0, .int .i64 a0_1] 34 (0, 0)) (by (with_reducible repeat (first | refine blk_drewN ?_ _ | refine blk_drew ?_ | refine blk_alloc ?_ _)); exact BK250.out) hb)
  have n2_ := Aside0.mk (below_step (by repeat (first | (with_reducible first | exact HB.out | apply below_alloc | apply pw_below_drewN | apply below_drew1 | refine below_set ?_ GE250.out) | exact HB.out)) hb)
  clear BK250
  clear HB
  have HO253 := n0_
  have BK250 := n1_
  have HB := n2_
  clear n0_ n1_ n2_
  (try clear hb)
  (try clear hb2)
  (try clear hk)
  (try clear hi)
  (try clear ho0)
  refine hK.out _ _ ⟨(blk_cell BK250.out 0).trans rfl, (blk_cell BK250.out 1).trans rfl⟩ (fun hHeld => ?_)
  clear hK K
  refine norm_ (a' := ?_) ?_ ?_
  rotate_left
  · show Act.put _ (some 5) _ = _
    simp only [Act.put, List.setIfInBounds_toArray, List.set_cons_zero, List.set_cons_succ, i64_w, i32_w]
    rfl
  refine one_ (i := 5) (N := some 8) #[true, true, true, true, true, true, false, false, false] rfl rfl (one_of HT_.out (by kernel_rfl)) (by decide) (fun K hK => ?_)
  refine goes_ Try.func16 (by kernel_rfl) rfl #[.int .i64 2, .int .i64 a0_1] (by rfl) rfl rfl (by (try simp only [List.map_toArray, List.map_cons, List.map_nil]); first | done | rfl | (simp only [List.length_drop, List.length_take]; rfl)) ?_
  with_reducible refine (spec_number.calls k 2 a0_1 t254 _ A3.out).mono ?_
  rintro e w8 ⟨v255, rfl, ho0, hb⟩
  refine ⟨_, rfl, ?_⟩
  have n0_ := Aside0.mk (Kd.R_elder' (by (with_reducible repeat (first | apply Kd.R_alloc | apply Kd.R_drewN | apply Kd.R_drew)); exact HO253.out) (Kd.R_base ho0) hb)
  have n1_ := Aside0.mk (Kd.R_lower (Kd.R_new' ho0 (Kd.R_lt (by (with_reducible repeat (first | apply Kd.R_alloc | apply Kd.R_drewN | apply Kd.R_drew)); exact HO253.out))) (below_size (by repeat (first | (with_reducible first | exact HB.out | apply below_alloc | apply pw_below_drewN | apply below_drew1 | refine below_set ?_ GE250.out) | exact HB.out))))
  have n2_ := Aside0.mk (blk_below (g := gb250) (o := .cells #[.int .i64 a0_0, .int .i64 a0_1] 34 (0, 0)) (by (with_reducible repeat (first | refine blk_drewN ?_ _ | refine blk_drew ?_ | refine blk_alloc ?_ _)); exact BK250.out) hb)
  have n3_ := Aside0.mk (below_step (by repeat (first | (with_reducible first | exact HB.out | apply below_alloc | apply pw_below_drewN | apply below_drew1 | refine below_set ?_ GE250.out) | exact HB.out)) hb)
  clear HO253
  clear BK250
  clear HB
  have HO253 := n0_
  have HO256 := n1_
  have BK250 := n2_
  have HB := n3_
  clear n0_ n1_ n2_ n3_
  (try clear hb)
  (try clear hb2)
  (try clear hk)
  (try clear hi)
  (try clear ho0)
  obtain ⟨Ao9, co9, eo9⟩ := Kd.R_slice HO253.out
  (first | subst eo9 | (injection eo9 with f1_ f2_ f3_; have f4_ := f1_.symm; have f5_ := f3_.symm; clear f1_ f2_ f3_; subst f4_; subst f5_))
  obtain ⟨Ao10, co10, eo10⟩ := Kd.R_slice HO256.out
  (first | subst eo10 | (injection eo10 with f1_ f2_ f3_; have f4_ := f1_.symm; have f5_ := f3_.symm; clear f1_ f2_ f3_; subst f4_; subst f5_))
  refine hK.out _ _ ⟨(blk_cell BK250.out 0).trans rfl, (blk_cell BK250.out 1).trans rfl⟩ (fun hHeld => ?_)
  clear hK K
  refine norm_ (a' := ?_) ?_ ?_
  rotate_left
  · show Act.put _ (some 8) _ = _
    simp only [Act.put, List.setIfInBounds_toArray, List.set_cons_zero, List.set_cons_succ, i64_w, i32_w]
    rfl
  refine one_ (i := 6) (N := some 9) #[true, true, true, true, true, true, true, false, false] rfl rfl (one_of HT_.out (by kernel_rfl)) (by decide) (fun K hK => ?_)
  refine Kd.N_lit_step (Kd.slice 5 (Kd.int .u8)) _ 25 ?hg (N' := 9) ?hd (xs := ([t251, t254] : List (List Int))) (inner := [.slice Ao9 t251.length co9, .slice Ao10 t254.length co10]) (ok := (fun k_ => k_ ≠ gb250)) (okp := (fun k_ => k_ ≠ gb250)) ?hr ?hp (fun _ hk => hk) ((show ∀ k_, w8.heap.size ≤ k_ → (fun k_ => k_ ≠ gb250) k_ from fun k_ hk => Kd.freshB (g := gb250) (o := .cells #[.int .i64 a0_0, .int .i64 a0_1] 34 (0, 0)) (by (with_reducible repeat (first | refine blk_drewN ?_ _ | refine blk_drew ?_ | refine blk_alloc ?_ _)); exact BK250.out) k_ hk) _ (Nat.le_refl _)) (Below.refl _ _) (Nat.le_refl _) (by simp) ?_; (case hd => rfl); (case hg => rfl); (case hr => first | (go_simp; done) | (go_simp; rfl)); (case hp => exact (Reps.one (show Kd.FK (Kd.slice 5 (Kd.int .u8)) _ _ t251 [.slice Ao9 t251.length co9] from (Kd.FK_slice_mk (Kd.R_reads' (Kd.R_mono (ok' := (fun k_ => k_ ≠ gb250)) (Kd.R_types (HO253.out) BK250.out (by decide)) (fun k_ hk => hk.2))).2.1 (Kd.R_F (Kd.R_mono (ok' := (fun k_ => k_ ≠ gb250)) (Kd.R_types (HO253.out) BK250.out (by decide)) (fun k_ hk => hk.2))))) (Reps.one (show Kd.FK (Kd.slice 5 (Kd.int .u8)) _ _ t254 [.slice Ao10 t254.length co10] from (Kd.FK_slice_mk (Kd.R_reads' (Kd.R_mono (ok' := (fun k_ => k_ ≠ gb250)) (Kd.R_types (HO256.out) BK250.out (by decide)) (fun k_ hk => hk.2))).2.1 (Kd.R_F (Kd.R_mono (ok' := (fun k_ => k_ ≠ gb250)) (Kd.R_types (HO256.out) BK250.out (by decide)) (fun k_ hk => hk.2))))) (Reps.none _ _))))
  intro v258 w11 ho12 hb hg_ hnew_
  clear hg_ hnew_
  (first | rw [← Ny257.out] at ho12 | (simp only [Int.reduceToNat] at ho12; rw [← Ny257.out] at ho12))
  have n0_ := Aside0.mk (Kd.N_lower ho12 (below_size (by repeat (first | (with_reducible first | exact HB.out | apply below_alloc | apply pw_below_drewN | apply below_drew1 | refine below_set ?_ GE250.out) | exact HB.out))))
  have n1_ := Aside0.mk (blk_below (g := gb250) (o := .cells #[.int .i64 a0_0, .int .i64 a0_1] 34 (0, 0)) (by (with_reducible repeat (first | refine blk_drewN ?_ _ | refine blk_drew ?_ | refine blk_alloc ?_ _)); exact BK250.out) hb)
  have n2_ := Aside0.mk (below_step (by repeat (first | (with_reducible first | exact HB.out | apply below_alloc | apply pw_below_drewN | apply below_drew1 | refine below_set ?_ GE250.out) | exact HB.out)) hb)
  clear BK250
  clear HB
  clear HO253
  clear HO256
  have HO259 := n0_
  have BK250 := n1_
  have HB := n2_
  clear n0_ n1_ n2_
  clear hb ho12
  obtain ⟨Ao13, co13, eo13⟩ := Kd.N_slice HO259.out
  (first | subst eo13 | (injection eo13 with f1_ f2_ f3_; have f4_ := f1_.symm; have f5_ := f3_.symm; clear f1_ f2_ f3_; subst f4_; subst f5_))
  refine hK.out _ _ ⟨(blk_cell BK250.out 0).trans rfl, (blk_cell BK250.out 1).trans rfl⟩ (fun hHeld => ?_)
  clear hK K
  refine norm_ (a' := ?_) ?_ ?_
  rotate_left
  · show Act.put _ (some 9) _ = _
    simp only [Act.put, List.setIfInBounds_toArray, List.set_cons_zero, List.set_cons_succ, i64_w, i32_w]
    rfl
  refine one_ (i := 7) (N := some 10) #[true, true, true, true, true, true, true, true, false] rfl rfl (one_of HT_.out (by kernel_rfl)) (by decide) (fun K hK => ?_)
  refine goes_ Try.func15 (by kernel_rfl) rfl #[.slice Ao13 y257.length co13] (by rfl) rfl rfl (by (try simp only [List.map_toArray, List.map_cons, List.map_nil]); first | done | rfl | (simp only [List.length_drop, List.length_take]; rfl)) ?_
  with_reducible refine (spec_joined.calls k _ _ y257 t260 _ ?side1 ?side2 A4.out).mono ?_
  (case side1 => repeat (first | exact (Kd.N_reads' HO259.out).2.2 | (with_reducible refine Kd.C_alloc ?_ _) | (with_reducible refine Kd.C_drewN ?_ _) | (with_reducible refine Kd.C_drew ?_)))
  (case side2 => exact (Kd.N_reads' HO259.out).2.1)
  rintro e w14 ⟨v261, rfl, ho0, hb⟩
  refine ⟨_, rfl, ?_⟩
  have n0_ := Aside0.mk (Kd.N_elder' (by (with_reducible repeat (first | apply Kd.N_alloc | apply Kd.N_drewN | apply Kd.N_drew)); exact HO259.out) (Kd.R_base ho0) hb)
  have n1_ := Aside0.mk (Kd.R_lower ho0 (below_size (by repeat (first | (with_reducible first | exact HB.out | apply below_alloc | apply pw_below_drewN | apply below_drew1 | refine below_set ?_ GE250.out) | exact HB.out))))
  have n2_ := Aside0.mk (blk_below (g := gb250) (o := .cells #[.int .i64 a0_0, .int .i64 a0_1] 34 (0, 0)) (by (with_reducible repeat (first | refine blk_drewN ?_ _ | refine blk_drew ?_ | refine blk_alloc ?_ _)); exact BK250.out) hb)
  have n3_ := Aside0.mk (below_step (by repeat (first | (with_reducible first | exact HB.out | apply below_alloc | apply pw_below_drewN | apply below_drew1 | refine below_set ?_ GE250.out) | exact HB.out)) hb)
  clear HO259
  clear BK250
  clear HB
  have HO259 := n0_
  have HO262 := n1_
  have BK250 := n2_
  have HB := n3_
  clear n0_ n1_ n2_ n3_
  (try clear hb)
  (try clear hb2)
  (try clear hk)
  (try clear hi)
  (try clear ho0)
  refine hK.out _ _ ⟨(blk_cell BK250.out 0).trans rfl, (blk_cell BK250.out 1).trans rfl⟩ (fun hHeld => ?_)
  clear hK K
  refine norm_ (a' := ?_) ?_ ?_
  rotate_left
  · show Act.put _ (some 10) _ = _
    simp only [Act.put, List.setIfInBounds_toArray, List.set_cons_zero, List.set_cons_succ, i64_w, i32_w]
    rfl
  refine pure_ (i := 8) (N := some 2) (v := ?_) (a' := ?_) #[true, true, true, true, true, true, true, true, true] rfl rfl (any_of HT_.out (by kernel_rfl)) (fun _ _ _ h => h) (Or.inl ⟨by rfl, ?_⟩) ?_ ?_
  rotate_left
  · intro w'
    go_simp
    with_reducible rfl
  rotate_left
  · simp only [Act.put, List.setIfInBounds_toArray, List.set_cons_zero, List.set_cons_succ, i64_w, i32_w]
    rfl
  refine done_ (done_of HT_.out (by kernel_rfl)) ?_
  try go_wp2
  go_ret
  exact ⟨_, by first | rfl | (simp [errW_none, errW_some] <;> rfl) | (simp [*, errW_none, errW_some] <;> rfl), by (with_reducible repeat (first | apply Kd.R_alloc | apply Kd.R_drewN | apply Kd.R_drew)); exact HO262.out, by repeat (first | (with_reducible first | exact HB.out | apply below_alloc | apply pw_below_drewN | apply below_drew1 | refine below_set ?_ GE250.out) | exact HB.out)⟩

-- NOT PRINTED: function 8 (spec_Vote_Message)

-- NOT PRINTED: function 3 (laws_FnMessage)

end Go.Proofs.Ytlnknihjccdgkaa.PFnMessage
