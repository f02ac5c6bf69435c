-- PRINTED BY print.sh 35421559b90ae4d0a3588c463048766b98c2df88dd9212a6774a882060cdf62d: not written by this session
import Derived.Test.YtlnknihjccdgkaaPFnMessagex0
namespace Go.Proofs.Ytlnknihjccdgkaa.PFnMessage
open Go.RowKit Go.Proofs.YtlnknihjccdgkaaW.PrintWords Go.Proofs.YtlnknihjccdgkaaW.PrintLast Go.Proofs.YtlnknihjccdgkaaW.PrintMore
attribute [local go_sem] max2_int min2_int max_two min_two max_three min_three max_four min_four   -- for this text's walks alone
set_option linter.unusedVariables false
set_option linter.unusedSimpArgs false

/-! ### laws_below: function 4 -/
def laws_below.f (a0 : Int) (a1 : Int) : Option (Int) := if a1 = 0 then (none) else (some (Int.tmod (mx a0 (wrap64 (-(wrap64 (a0 + 1))))) a1))
set_option maxHeartbeats 8000000 in
set_option maxRecDepth 100000 in
theorem laws_below.calls (a0 : Int) (a1 : Int) (r : Int) (w : World) (h : laws_below.f a0 a1 = some r) :
    Calls Try.prog 4 #[.int .i64 a0, .int .i64 a1] w fun e w' => e = .returned (.int .i64 r) ∧ Below w.heap.size w w' := by
  have HB := Aside0.mk (Below.refl w.heap.size w)
  have H : (if a1 = 0 then (none) else (some (Int.tmod (mx a0 (wrap64 (-(wrap64 (a0 + 1))))) a1))) = some r := h
  clear h
  obtain ⟨ji3, hji3⟩ : ∃ j_ : Int, (mx a0 (wrap64 (-(wrap64 (a0 + 1))))) = j_ := ⟨_, rfl⟩
  replace H : (if a1 = 0 then (none) else (some (Int.tmod (ji3) a1))) = some r := by first | (rw [hji3] at H; exact H) | (simp only [hji3] at H ⊢; exact H)
  have hji3_ : (if a0 < (wrap64 (-(wrap64 (a0 + 1)))) then (wrap64 (-(wrap64 (a0 + 1)))) else a0) = ji3 := hji3
  by_cases c4 : a1 = 0
  · rw [if_pos c4] at H
    exact absurd H (by simp)
  · rw [if_neg c4] at H
    have c4b0 : (a1 == 0) = false := beq_eq_false_iff_ne.mpr c4
    have c4b1 : (a1 != 0) = true := bne_iff_ne.mpr c4
    obtain rfl := Option.some.inj H
    go_enter Try.func4, Try.ntmps4
    go_wp2
    go_ret
    exact ⟨by first | rfl | (simp [errW_none, errW_some] <;> rfl) | (simp only [← hji3]; first | rfl | (simp [errW_none, errW_some] <;> rfl)) | (simp [*, errW_none, errW_some] <;> rfl), by repeat (first | (with_reducible first | exact HB.out | apply below_alloc | apply pw_below_drewN | apply below_drew1) | exact HB.out)⟩

-- NOT PRINTED: function 21 (spec_begin)

-- NOT PRINTED: function 22 (spec_rounds)

-- NOT PRINTED: function 9 (spec_Sum)

-- NOT PRINTED: function 5 (laws_blocks)

-- NOT PRINTED: function 43 (errors_New)

-- NOT PRINTED: function 42 (comettypes_ValidateHash)

-- NOT PRINTED: function 44 (comettypes_PartSetHeader_ValidateBasic)

-- NOT PRINTED: function 38 (comettypes_BlockID_ValidateBasic)

/-! ### comettypes_PartSetHeader_IsZero: function 45 -/
def comettypes_PartSetHeader_IsZero.f (a0_0 : Int) (l0_1 : List Int) : Option (Bool) := if a0_0 = 0 then (some ((l0_1.length : Int) == 0)) else (some false)
set_option maxHeartbeats 8000000 in
set_option maxRecDepth 100000 in
theorem comettypes_PartSetHeader_IsZero.calls (a0_0 : Int) (A0_1 : Option Addr) (c0_1 : Nat) (l0_1 : List Int) (r : Bool) (w : World) (hr0_1 : Kd.C (Kd.int .u8) w A0_1 l0_1.length l0_1) (hc0_1 : l0_1.length ≤ c0_1) (h : comettypes_PartSetHeader_IsZero.f a0_0 l0_1 = some r) :
    Calls Try.prog 45 #[.agg #[.int .u32 a0_0, .slice A0_1 l0_1.length c0_1]] w fun e w' => e = .returned (.bool r) ∧ Below w.heap.size w w' := by
  have hu67 := Try.underlying67
  have HR0_1 := Aside0.mk hr0_1
  have HC0_1 := Aside0.mk hc0_1
  clear hr0_1 hc0_1
  have HB := Aside0.mk (Below.refl w.heap.size w)
  have H : (if a0_0 = 0 then (some ((l0_1.length : Int) == 0)) else (some false)) = some r := h
  clear h
  by_cases c2 : a0_0 = 0
  · rw [if_pos c2] at H
    have c2b0 : (a0_0 == 0) = true := beq_iff_eq.mpr c2
    have c2b1 : (a0_0 != 0) = false := bne_eq_false_iff_eq.mpr c2
    clear c2
    obtain rfl := Option.some.inj H
    go_enter Try.func45, Try.ntmps45
    go_wp2_with (first | ((with_reducible refine gate_dst (N := 1) rfl ?_); (try (refine gate_guard (by rfl) ?_; dsimp only)); refine box_event ?hg (N := 1) ?hd (cs := #[.int .u32 a0_0, .slice A0_1 l0_1.length c0_1]) (t := 67) ?hr ?_; (case hd => rfl); (case hg => rfl); (case hr => first | (go_simp; done) | (go_simp; rfl)); intro gb110 hg w3 hbox hb; have n0_ := Aside0.mk (below_step (by repeat (first | (with_reducible first | exact HB.out | apply below_alloc | apply pw_below_drewN | apply below_drew1) | exact HB.out)) hb); have n1_ := Aside0.mk (hbox); have n2_ := Aside0.mk ((by rw [hg]; exact (below_size (by repeat (first | (with_reducible first | exact HB.out | apply below_alloc | apply pw_below_drewN | apply below_drew1) | exact HB.out))) : w.heap.size ≤ gb110)); have n3_ := Aside0.mk ((by rw [hg]; exact (below_size (by repeat (first | (with_reducible first | exact HB.out | apply below_alloc | apply pw_below_drewN | apply below_drew1) | exact HB.out))) : w.heap.size ≤ gb110)); clear HB; have HB := n0_; have BK110 := n1_; have GW110 := n2_; have GE110 := n3_; clear n0_ n1_ n2_ n3_; clear hb hbox hg; have hcz4_0 : w3.cell? ⟨gb110, 0, none⟩ = some (.int .u32 a0_0) := (blk_cell BK110.out 0).trans rfl; have hcz4_1 : w3.cell? ⟨gb110, 1, none⟩ = some (.slice A0_1 l0_1.length c0_1) := (blk_cell BK110.out 1).trans rfl; have hfz4_0 := blk_frozen BK110.out 0; have hfz4_1 := blk_frozen BK110.out 1))
    go_ret
    exact ⟨by first | rfl | (simp [errW_none, errW_some] <;> rfl) | (simp [*, errW_none, errW_some] <;> rfl), by repeat (first | (with_reducible first | exact HB.out | apply below_alloc | apply pw_below_drewN | apply below_drew1 | refine below_set ?_ GE110.out) | exact HB.out)⟩
  · rw [if_neg c2] at H
    have c2b0 : (a0_0 == 0) = false := beq_eq_false_iff_ne.mpr c2
    have c2b1 : (a0_0 != 0) = true := bne_iff_ne.mpr c2
    obtain rfl := Option.some.inj H
    go_enter Try.func45, Try.ntmps45
    go_wp2_with (first | ((with_reducible refine gate_dst (N := 1) rfl ?_); (try (refine gate_guard (by rfl) ?_; dsimp only)); refine box_event ?hg (N := 1) ?hd (cs := #[.int .u32 a0_0, .slice A0_1 l0_1.length c0_1]) (t := 67) ?hr ?_; (case hd => rfl); (case hg => rfl); (case hr => first | (go_simp; done) | (go_simp; rfl)); intro gb110 hg w5 hbox hb; have n0_ := Aside0.mk (below_step (by repeat (first | (with_reducible first | exact HB.out | apply below_alloc | apply pw_below_drewN | apply below_drew1) | exact HB.out)) hb); have n1_ := Aside0.mk (hbox); have n2_ := Aside0.mk ((by rw [hg]; exact (below_size (by repeat (first | (with_reducible first | exact HB.out | apply below_alloc | apply pw_below_drewN | apply below_drew1) | exact HB.out))) : w.heap.size ≤ gb110)); have n3_ := Aside0.mk ((by rw [hg]; exact (below_size (by repeat (first | (with_reducible first | exact HB.out | apply below_alloc | apply pw_below_drewN | apply below_drew1) | exact HB.out))) : w.heap.size ≤ gb110)); clear HB; have HB := n0_; have BK110 := n1_; have GW110 := n2_; have GE110 := n3_; clear n0_ n1_ n2_ n3_; clear hb hbox hg; have hcz6_0 : w5.cell? ⟨gb110, 0, none⟩ = some (.int .u32 a0_0) := (blk_cell BK110.out 0).trans rfl; have hcz6_1 : w5.cell? ⟨gb110, 1, none⟩ = some (.slice A0_1 l0_1.length c0_1) := (blk_cell BK110.out 1).trans rfl; have hfz6_0 := blk_frozen BK110.out 0; have hfz6_1 := blk_frozen BK110.out 1))
    go_ret
    exact ⟨by first | rfl | (simp [errW_none, errW_some] <;> rfl) | (simp [*, errW_none, errW_some] <;> rfl), by repeat (first | (with_reducible first | exact HB.out | apply below_alloc | apply pw_below_drewN | apply below_drew1 | refine below_set ?_ GE110.out) | exact HB.out)⟩

/-! ### comettypes_BlockID_IsNil: function 39 -/
def comettypes_BlockID_IsNil.f (l0_0 : List Int) (a0_1 : Int) (l0_2 : List Int) : Option (Bool) := if (l0_0.length : Int) = 0 then ((comettypes_PartSetHeader_IsZero.f a0_1 l0_2).bind fun t112 => (some t112)) else (some false)
set_option maxHeartbeats 8000000 in
set_option maxRecDepth 100000 in
theorem comettypes_BlockID_IsNil.calls (A0_0 : Option Addr) (c0_0 : Nat) (l0_0 : List Int) (a0_1 : Int) (A0_2 : Option Addr) (c0_2 : Nat) (l0_2 : List Int) (r : Bool) (w : World) (hr0_0 : Kd.C (Kd.int .u8) w A0_0 l0_0.length l0_0) (hc0_0 : l0_0.length ≤ c0_0) (hr0_2 : Kd.C (Kd.int .u8) w A0_2 l0_2.length l0_2) (hc0_2 : l0_2.length ≤ c0_2) (h : comettypes_BlockID_IsNil.f l0_0 a0_1 l0_2 = some r) :
    Calls Try.prog 39 #[.agg #[.slice A0_0 l0_0.length c0_0, .int .u32 a0_1, .slice A0_2 l0_2.length c0_2]] w fun e w' => e = .returned (.bool r) ∧ Below w.heap.size w w' := by
  have hu69 := Try.underlying69
  have hu67 := Try.underlying67
  have HR0_0 := Aside0.mk hr0_0
  have HC0_0 := Aside0.mk hc0_0
  clear hr0_0 hc0_0
  have HR0_2 := Aside0.mk hr0_2
  have HC0_2 := Aside0.mk hc0_2
  clear hr0_2 hc0_2
  have HB := Aside0.mk (Below.refl w.heap.size w)
  have H : (if (l0_0.length : Int) = 0 then ((comettypes_PartSetHeader_IsZero.f a0_1 l0_2).bind fun t112 => (some t112)) else (some false)) = some r := h
  clear h
  by_cases c2 : (l0_0.length : Int) = 0
  · rw [if_pos c2] at H
    have c2b0 : ((l0_0.length : Int) == 0) = true := beq_iff_eq.mpr c2
    have c2b1 : ((l0_0.length : Int) != 0) = false := bne_eq_false_iff_eq.mpr c2
    clear c2
    replace H := Option.bind_eq_some_iff.mp H
    obtain ⟨t112, A30, H⟩ := H
    replace H : (some t112) = some r := H
    have A3 := Aside0.mk A30
    clear A30
    obtain rfl := Option.some.inj H
    go_enter Try.func39, Try.ntmps39
    go_wp2_with (first | ((with_reducible refine gate_dst (N := 1) rfl ?_); refine box_event ?hg (N := 1) ?hd (cs := #[.slice A0_0 l0_0.length c0_0, .int .u32 a0_1, .slice A0_2 l0_2.length c0_2]) (t := 69) ?hr ?_; (case hd => rfl); (case hg => rfl); (case hr => first | (go_simp; done) | (go_simp; rfl)); intro gb111 hg w4 hbox hb; have n0_ := Aside0.mk (below_step (by repeat (first | (with_reducible first | exact HB.out | apply below_alloc | apply pw_below_drewN | apply below_drew1) | exact HB.out)) hb); have n1_ := Aside0.mk (hbox); have n2_ := Aside0.mk ((by rw [hg]; exact (below_size (by repeat (first | (with_reducible first | exact HB.out | apply below_alloc | apply pw_below_drewN | apply below_drew1) | exact HB.out))) : w.heap.size ≤ gb111)); have n3_ := Aside0.mk ((by rw [hg]; exact (below_size (by repeat (first | (with_reducible first | exact HB.out | apply below_alloc | apply pw_below_drewN | apply below_drew1) | exact HB.out))) : w.heap.size ≤ gb111)); clear HB; have HB := n0_; have BK111 := n1_; have GW111 := n2_; have GE111 := n3_; clear n0_ n1_ n2_ n3_; clear hb hbox hg; have hcz5_0 : w4.cell? ⟨gb111, 0, none⟩ = some (.slice A0_0 l0_0.length c0_0) := (blk_cell BK111.out 0).trans rfl; have hcz5_1 : w4.cell? ⟨gb111, 1, none⟩ = some (.int .u32 a0_1) := (blk_cell BK111.out 1).trans rfl; have hcz5_2 : w4.cell? ⟨gb111, 2, none⟩ = some (.slice A0_2 l0_2.length c0_2) := (blk_cell BK111.out 2).trans rfl; have hfz5_0 := blk_frozen BK111.out 0; have hfz5_1 := blk_frozen BK111.out 1; have hfz5_2 := blk_frozen BK111.out 2) | (go_at_call 45; (with_reducible refine (comettypes_PartSetHeader_IsZero.calls a0_1 _ _ l0_2 t112 _ ?side1 ?side2 A3.out).mono ?_); (case side1 => repeat (first | exact (Kd.C_below HR0_2.out HB.out) | (with_reducible refine Kd.C_alloc ?_ _) | (with_reducible refine Kd.C_drewN ?_ _) | (with_reducible refine Kd.C_drew ?_))); (case side2 => exact HC0_2.out); rintro e w6 ⟨rfl, hb⟩; have n0_ := Aside0.mk (blk_below (g := gb111) (o := .cells #[.slice A0_0 l0_0.length c0_0, .int .u32 a0_1, .slice A0_2 l0_2.length c0_2] 69 (0, 0)) (by (with_reducible repeat (first | refine blk_drewN ?_ _ | refine blk_drew ?_ | refine blk_alloc ?_ _)); exact BK111.out) hb); have n1_ := Aside0.mk (below_step (by repeat (first | (with_reducible first | exact HB.out | apply below_alloc | apply pw_below_drewN | apply below_drew1 | refine below_set ?_ GE111.out) | exact HB.out)) hb); clear BK111; clear HB; have BK111 := n0_; have HB := n1_; clear n0_ n1_; (try clear hb); (try clear hb2); (try clear hk); (try clear hi)))
    go_ret
    exact ⟨by first | rfl | (simp [errW_none, errW_some] <;> rfl) | (simp [*, errW_none, errW_some] <;> rfl), by repeat (first | (with_reducible first | exact HB.out | apply below_alloc | apply pw_below_drewN | apply below_drew1 | refine below_set ?_ GE111.out) | exact HB.out)⟩
  · rw [if_neg c2] at H
    have c2b0 : ((l0_0.length : Int) == 0) = false := beq_eq_false_iff_ne.mpr c2
    have c2b1 : ((l0_0.length : Int) != 0) = true := bne_iff_ne.mpr c2
    have c2b2 : ¬ (l0_0 = []) := fun h_ => c2 (by rw [h_]; rfl)
    obtain rfl := Option.some.inj H
    go_enter Try.func39, Try.ntmps39
    go_wp2_with (first | ((with_reducible refine gate_dst (N := 1) rfl ?_); refine box_event ?hg (N := 1) ?hd (cs := #[.slice A0_0 l0_0.length c0_0, .int .u32 a0_1, .slice A0_2 l0_2.length c0_2]) (t := 69) ?hr ?_; (case hd => rfl); (case hg => rfl); (case hr => first | (go_simp; done) | (go_simp; rfl)); intro gb111 hg w7 hbox hb; have n0_ := Aside0.mk (below_step (by repeat (first | (with_reducible first | exact HB.out | apply below_alloc | apply pw_below_drewN | apply below_drew1) | exact HB.out)) hb); have n1_ := Aside0.mk (hbox); have n2_ := Aside0.mk ((by rw [hg]; exact (below_size (by repeat (first | (with_reducible first | exact HB.out | apply below_alloc | apply pw_below_drewN | apply below_drew1) | exact HB.out))) : w.heap.size ≤ gb111)); have n3_ := Aside0.mk ((by rw [hg]; exact (below_size (by repeat (first | (with_reducible first | exact HB.out | apply below_alloc | apply pw_below_drewN | apply below_drew1) | exact HB.out))) : w.heap.size ≤ gb111)); clear HB; have HB := n0_; have BK111 := n1_; have GW111 := n2_; have GE111 := n3_; clear n0_ n1_ n2_ n3_; clear hb hbox hg; have hcz8_0 : w7.cell? ⟨gb111, 0, none⟩ = some (.slice A0_0 l0_0.length c0_0) := (blk_cell BK111.out 0).trans rfl; have hcz8_1 : w7.cell? ⟨gb111, 1, none⟩ = some (.int .u32 a0_1) := (blk_cell BK111.out 1).trans rfl; have hcz8_2 : w7.cell? ⟨gb111, 2, none⟩ = some (.slice A0_2 l0_2.length c0_2) := (blk_cell BK111.out 2).trans rfl; have hfz8_0 := blk_frozen BK111.out 0; have hfz8_1 := blk_frozen BK111.out 1; have hfz8_2 := blk_frozen BK111.out 2))
    go_ret
    exact ⟨by first | rfl | (simp [errW_none, errW_some] <;> rfl) | (simp [*, errW_none, errW_some] <;> rfl), by repeat (first | (with_reducible first | exact HB.out | apply below_alloc | apply pw_below_drewN | apply below_drew1 | refine below_set ?_ GE111.out) | exact HB.out)⟩

/-! ### comettypes_CanonicalizePartSetHeader: function 40 -/
def comettypes_CanonicalizePartSetHeader.f (a0_0 : Int) (l0_1 : List Int) : Option (Int × List Int) := some (a0_0, l0_1)
set_option maxHeartbeats 8000000 in
set_option maxRecDepth 100000 in
theorem comettypes_CanonicalizePartSetHeader.calls (a0_0 : Int) (P0_1_ : Nat → Prop) (u9000_ : Value) (l0_1 : List Int) (r1 : Int) (r2 : List Int) (w0 w : World) (hB : Below w0.heap.size w0 w) (ho0_1 : Kd.R (Kd.int .u8) 5 w w0.heap.size P0_1_ u9000_ l0_1) (h : comettypes_CanonicalizePartSetHeader.f a0_0 l0_1 = some (r1, r2)) :
    Calls Try.prog 40 #[.agg #[.int .u32 a0_0, u9000_]] w fun e w' => ∃ v1_ : Value, e = .returned (.agg #[.int .u32 r1, v1_]) ∧ Kd.R (Kd.int .u8) 5 w' w0.heap.size (fun k_ => (P0_1_ k_ ∨ w.heap.size ≤ k_)) v1_ r2 ∧ Below w0.heap.size w0 w' ∧ Kept w w' (fun k_ => P0_1_ k_) := by
  have hu67 := Try.underlying67
  have hu87 := Try.underlying87
  have HO0_1 := Aside0.mk (show Kd.R (Kd.int .u8) 5 w w0.heap.size (fun k_ => (P0_1_ k_ ∨ w.heap.size ≤ k_)) u9000_ l0_1 from Kd.R_mono ho0_1 (fun k_ hk => (.inl hk)))
  have HK := Aside0.mk (Kept.refl w (fun k_ => P0_1_ k_))
  have HW0 := Aside0.mk hB.size
  have HB := Aside0.mk hB
  clear hB
  have H : (some (a0_0, l0_1)) = some (r1, r2) := h
  clear h
  simp only [Option.some.injEq, Prod.mk.injEq] at H
  obtain ⟨rfl, rfl⟩ := H
  obtain ⟨Ao2, co2, eo2⟩ := Kd.R_slice HO0_1.out
  subst eo2
  go_enter Try.func40, Try.ntmps40
  go_wp2_with (first | ((with_reducible refine gate_dst (N := 1) rfl ?_); refine box_event ?hg (N := 1) ?hd (cs := #[.int .u32 a0_0, .slice Ao2 l0_1.length co2]) (t := 67) ?hr ?_; (case hd => rfl); (case hg => rfl); (case hr => first | (go_simp; done) | (go_simp; rfl)); intro gb113 hg w3 hbox hb; have n0_ := Aside0.mk (Kd.R_below (by (with_reducible repeat (first | apply Kd.R_alloc | apply Kd.R_drewN | apply Kd.R_drew)); exact HO0_1.out) hb); have n1_ := Aside0.mk (Kept.below (S := (fun k_ => P0_1_ k_)) (by repeat (first | (with_reducible first | exact HK.out | apply Kept.alloc | apply Kept.drewN | apply Kept.drew) | exact HK.out)) hb); have n2_ := Aside0.mk (below_step (by repeat (first | (with_reducible first | exact HB.out | apply below_alloc | apply pw_below_drewN | apply below_drew1) | exact HB.out)) hb); have n3_ := Aside0.mk (hbox); have n4_ := Aside0.mk ((by rw [hg]; exact (by first | exact HK.out.1 | exact (show Kept w _ (fun k_ => P0_1_ k_) from by repeat (first | (with_reducible first | exact HK.out | apply Kept.alloc | apply Kept.drewN | apply Kept.drew) | exact HK.out)).1) : w.heap.size ≤ gb113)); have n5_ := Aside0.mk ((by rw [hg]; exact (below_size (by repeat (first | (with_reducible first | exact HB.out | apply below_alloc | apply pw_below_drewN | apply below_drew1) | exact HB.out))) : w0.heap.size ≤ gb113)); clear HO0_1; clear HK; clear HB; have HO0_1 := n0_; have HK := n1_; have HB := n2_; have BK113 := n3_; have GW113 := n4_; have GE113 := n5_; clear n0_ n1_ n2_ n3_ n4_ n5_; clear hb hbox hg) | ((with_reducible refine gate_dst (N := 2) rfl ?_); refine box_event ?hg (N := 2) ?hd (cs := #[.int .u32 0, .slice none 0 0]) (t := 87) ?hr ?_; (case hd => rfl); (case hg => rfl); (case hr => first | (go_simp; done) | (go_simp; rfl)); intro gb114 hg w4 hbox hb; have n0_ := Aside0.mk (Kd.R_below (by (with_reducible repeat (first | apply Kd.R_alloc | apply Kd.R_drewN | apply Kd.R_drew)); exact HO0_1.out) hb); have n1_ := Aside0.mk (blk_below (g := gb113) (o := .cells #[.int .u32 a0_0, .slice Ao2 l0_1.length co2] 67 (0, 0)) (by (with_reducible repeat (first | refine blk_drewN ?_ _ | refine blk_drew ?_ | refine blk_alloc ?_ _)); exact BK113.out) hb); have n2_ := Aside0.mk (Kept.below (S := (fun k_ => P0_1_ k_)) (by repeat (first | (with_reducible first | exact HK.out | apply Kept.alloc | apply Kept.drewN | apply Kept.drew | refine Kept.setCell ?_ (.inr GW113.out) _) | exact HK.out)) hb); have n3_ := Aside0.mk (below_step (by repeat (first | (with_reducible first | exact HB.out | apply below_alloc | apply pw_below_drewN | apply below_drew1 | refine below_set ?_ GE113.out) | exact HB.out)) hb); have n4_ := Aside0.mk (hbox); have n5_ := Aside0.mk ((by rw [hg]; exact (by first | exact HK.out.1 | exact (show Kept w _ (fun k_ => P0_1_ k_) from by repeat (first | (with_reducible first | exact HK.out | apply Kept.alloc | apply Kept.drewN | apply Kept.drew | refine Kept.setCell ?_ (.inr GW113.out) _) | exact HK.out)).1) : w.heap.size ≤ gb114)); have n6_ := Aside0.mk ((by rw [hg]; exact (below_size (by repeat (first | (with_reducible first | exact HB.out | apply below_alloc | apply pw_below_drewN | apply below_drew1 | refine below_set ?_ GE113.out) | exact HB.out))) : w0.heap.size ≤ gb114)); have n7_ := Aside0.mk ((by rw [hg]; exact Nat.ne_of_lt (blk_lt (g := gb113) (o := .cells #[.int .u32 a0_0, .slice Ao2 l0_1.length co2] 67 (0, 0)) (by (with_reducible repeat (first | refine blk_drewN ?_ _ | refine blk_drew ?_ | refine blk_alloc ?_ _)); exact BK113.out)) : gb113 ≠ gb114)); have n8_ := Aside0.mk ((by rw [hg]; exact Nat.ne_of_gt (blk_lt (g := gb113) (o := .cells #[.int .u32 a0_0, .slice Ao2 l0_1.length co2] 67 (0, 0)) (by (with_reducible repeat (first | refine blk_drewN ?_ _ | refine blk_drew ?_ | refine blk_alloc ?_ _)); exact BK113.out)) : gb114 ≠ gb113)); clear HO0_1; clear BK113; clear HK; clear HB; have HO0_1 := n0_; have BK113 := n1_; have HK := n2_; have HB := n3_; have BK114 := n4_; have GW114 := n5_; have GE114 := n6_; have NB113_114 := n7_; have NB114_113 := n8_; clear n0_ n1_ n2_ n3_ n4_ n5_ n6_ n7_ n8_; clear hb hbox hg; have hnb5 := NB113_114.out; have hnc5 := NB114_113.out; have hcz6_0 : w4.cell? ⟨gb113, 0, none⟩ = some (.int .u32 a0_0) := (blk_cell BK113.out 0).trans rfl; have hcz6_1 : w4.cell? ⟨gb113, 1, none⟩ = some (.slice Ao2 l0_1.length co2) := (blk_cell BK113.out 1).trans rfl; have hfz6_0 := blk_frozen BK113.out 0; have hfz6_1 := blk_frozen BK113.out 1; have hcz7_0 : w4.cell? ⟨gb114, 0, none⟩ = some (.int .u32 0) := (blk_cell BK114.out 0).trans rfl; have hcz7_1 : w4.cell? ⟨gb114, 1, none⟩ = some (.slice none 0 0) := (blk_cell BK114.out 1).trans rfl; have hfz7_0 := blk_frozen BK114.out 0; have hfz7_1 := blk_frozen BK114.out 1))
  refine bodyPost_ret (results_cell_row rfl _ _ gb114 87 #[.int .u32 a0_0, .slice Ao2 l0_1.length co2] (0, 0) _ rfl (by (with_reducible repeat (first | refine blk_drewN ?_ _ | refine blk_drew ?_ | refine blk_alloc ?_ _)); refine blk_put (cs := #[.int .u32 a0_0, .slice none 0 0]) ?_ 1 _ rfl; (with_reducible repeat (first | refine blk_drewN ?_ _ | refine blk_drew ?_ | refine blk_alloc ?_ _)); refine blk_put (cs := #[.int .u32 0, .slice none 0 0]) ?_ 0 _ rfl; (with_reducible repeat (first | refine blk_drewN ?_ _ | refine blk_drew ?_ | refine blk_alloc ?_ _)); exact BK114.out) Try.underlying87 rfl (by kernel_rfl)) rfl ?_
  exact ⟨_, by first | rfl | (simp [errW_none, errW_some] <;> rfl) | (simp [*, errW_none, errW_some] <;> rfl), by (with_reducible repeat (first | apply Kd.R_alloc | apply Kd.R_drewN | apply Kd.R_drew)); exact Kd.R_mono (Kd.R_far (p := ⟨gb114, 1, none⟩) (Kd.R_far (p := ⟨gb114, 0, none⟩) (Kd.R_types HO0_1.out BK114.out (by decide)) (fun _ hk => hk.2) (.int .u32 a0_0)) (fun _ hk => hk.2) (.slice Ao2 l0_1.length co2)) (fun _ hk => hk.1), by repeat (first | (with_reducible first | exact HB.out | apply below_alloc | apply pw_below_drewN | apply below_drew1 | refine below_set ?_ GE113.out | refine below_set ?_ GE114.out) | exact HB.out), by repeat (first | (with_reducible first | exact HK.out | apply Kept.alloc | apply Kept.drewN | apply Kept.drew | refine Kept.setCell ?_ (.inr GW113.out) _ | refine Kept.setCell ?_ (.inr GW114.out) _) | exact HK.out)⟩

-- NOT PRINTED: function 29 (comettypes_CanonicalizeBlockID)

-- NOT PRINTED: function 24 (comettypes_CanonicalizeVote)

/-! ### comettypes_putUvarint: function 30 -/
def comettypes_putUvarint.l0 : Nat → List Int → Int → Option (List Int)
  | 0, _, _ => none
  | k + 1, x0, x1 => if x1 ≥ 128 then (if x0.length < 140737488355328 then (comettypes_putUvarint.l0 k (x0 ++ [Go.bits .or .u8 ((x1) % 256) 128]) (x1 / 128)) else (none)) else (if x0.length < 140737488355328 then (some (x0 ++ [(x1) % 256])) else (none))
def comettypes_putUvarint.f (k : Nat) (l0 : List Int) (a1 : Int) : Option (List Int) := comettypes_putUvarint.l0 k l0 a1
theorem comettypes_putUvarint.mono_l : ∀ k, (∀ y0 y1, LeO (comettypes_putUvarint.l0 k y0 y1) (comettypes_putUvarint.l0 (k + 1) y0 y1))
  | 0 => fun _ _ r h => by simp [comettypes_putUvarint.l0] at h
  | k + 1 => by
    have ih0 := comettypes_putUvarint.mono_l k
    · intro y0 y1
      unfold comettypes_putUvarint.l0
      repeat' first
      | (with_reducible exact ih0 _ _)
      | (with_reducible exact LeO.refl _)
      | (with_reducible exact LeO.none _)
      | (with_reducible refine LeO.ite ?_ ?_)
      | (with_reducible refine LeO.bind ?_ (fun _ => ?_))
      | exact ih0 _ _
      | exact LeO.none _
      | refine LeO.ite ?_ ?_
      | refine LeO.bind ?_ (fun _ => ?_)
theorem comettypes_putUvarint.mono : ∀ a0 a1 k, LeO (comettypes_putUvarint.f k a0 a1) (comettypes_putUvarint.f (k + 1) a0 a1) := by
  intro a0 a1 k
  have ih0 := comettypes_putUvarint.mono_l k
  unfold comettypes_putUvarint.f
  repeat' first
      | (with_reducible exact ih0 _ _)
      | (with_reducible exact LeO.refl _)
      | (with_reducible exact LeO.none _)
      | (with_reducible refine LeO.ite ?_ ?_)
      | (with_reducible refine LeO.bind ?_ (fun _ => ?_))
      | exact ih0 _ _
      | exact LeO.none _
      | refine LeO.ite ?_ ?_
      | refine LeO.bind ?_ (fun _ => ?_)
set_option maxHeartbeats 8000000 in
set_option maxRecDepth 100000 in
theorem comettypes_putUvarint.calls (k : Nat) (P0_ : Nat → Prop) (u9000_ : Value) (l0 : List Int) (a1 : Int) (r : List Int) (w0 w : World) (hB : Below w0.heap.size w0 w) (ho0 : Kd.R (Kd.int .u8) 5 w w0.heap.size P0_ u9000_ l0) (h : comettypes_putUvarint.f k l0 a1 = some r) :
    Calls Try.prog 30 #[u9000_, .int .u64 a1] w fun e w' => ∃ v0_ : Value, e = .returned (v0_) ∧ Kd.R (Kd.int .u8) 5 w' w0.heap.size (fun k_ => (P0_ k_ ∨ w.heap.size ≤ k_)) v0_ r ∧ Below w0.heap.size w0 w' ∧ Kept w w' (fun k_ => P0_ k_) := by
  have HO0 := Aside0.mk (show Kd.R (Kd.int .u8) 5 w w0.heap.size (fun k_ => (P0_ k_ ∨ w.heap.size ≤ k_)) u9000_ l0 from Kd.R_mono ho0 (fun k_ hk => (.inl hk)))
  have HK := Aside0.mk (Kept.refl w (fun k_ => P0_ k_))
  have HW0 := Aside0.mk hB.size
  have HB := Aside0.mk hB
  clear hB
  have H : (comettypes_putUvarint.l0 k l0 a1) = some r := h
  clear h
  have H' := Aside0.mk H
  clear H
  go_enter Try.func30, Try.ntmps30
  go_wp2
  go_loopg [0, 1] k (fun kq v0 v1 w' => ∃ (x0_1 : List Int) (x1_1 : Int), v1 = .int .u64 x1_1 ∧ Aside0 (comettypes_putUvarint.l0 kq x0_1 x1_1 = some r) ∧ Aside0 (kq ≤ k) ∧ Aside0 (Kd.R (Kd.int .u8) 5 w' w0.heap.size (fun k_ => (P0_ k_ ∨ w.heap.size ≤ k_)) v0 x0_1) ∧ Aside0 (Kept w w' (fun k_ => P0_ k_)) ∧ Aside0 (Below w0.heap.size w0 w'))
  case atStart => exact ⟨(l0), (a1), (by first | rfl | (simp; done) | (simp [*]; done)), H', ⟨Nat.le_refl _⟩, ⟨by (with_reducible repeat (first | apply Kd.R_alloc | apply Kd.R_drewN | apply Kd.R_drew)); exact HO0.out⟩, ⟨by repeat (first | (with_reducible first | exact HK.out | apply Kept.alloc | apply Kept.drewN | apply Kept.drew) | exact HK.out)⟩, ⟨by repeat (first | (with_reducible first | exact HB.out | apply below_alloc | apply pw_below_drewN | apply below_drew1) | exact HB.out)⟩⟩
  case round =>
    clear H'
    try clear p2
    obtain ⟨x0_1, x1_1, rfl, HA, HK1, HO_0, HK, HB⟩ := hrel
    cases gk with
    | zero => exact absurd HA.out (by simp [comettypes_putUvarint.l0])
    | succ k1 =>
      have H := HA.out
      clear HA
      simp only [comettypes_putUvarint.l0] at H
      by_cases c3 : x1_1 ≥ 128
      · rw [if_pos c3] at H
        have c3b0 : decide (128 ≤ x1_1) = true := decide_eq_true c3
        clear c3
        by_cases c4 : x0_1.length < 140737488355328
        · rw [if_pos c4] at H
          have LMc4 := Aside0.mk c4
          clear c4
          obtain ⟨y116, hy116⟩ : ∃ y_ : List Int, y_ = (x0_1 ++ [Go.bits .or .u8 ((x1_1) % 256) 128]) := ⟨_, rfl⟩
          replace H : (comettypes_putUvarint.l0 k1 y116 (x1_1 / 128)) = some r := by first | (rw [hy116]; with_reducible exact H) | (have H2_ := (Option.bind_some _ _).symm.trans H; rw [hy116]; with_reducible exact H2_) | (have H2_ := (Option.bind_some _ _).symm.trans H; with_reducible exact H2_) | with_reducible exact H | (rw [hy116]; exact H) | exact H
          have Ny116 := Aside0.mk hy116
          clear hy116
          have H' := Aside0.mk H
          clear H
          go_wp2_with (first | ((with_reducible refine gate_builtin (b := .append) (xs := #[.tmp 7, .tmp 11]) rfl ?_); at_builtin; refine Kd.R_append (Kd.int .u8) (w0 := w0) w0.heap.size rfl (.tmp 7) (.tmp 11) 25 5 (.int .u8 0) 1 rfl Try.underlying25 info5 rfl (by decide) (by omega) u0 x0_1 (Go.bits .or .u8 ((x1_1) % 256) 128) [.int .u8 (Go.bits .or .u8 ((x1_1) % 256) 128)] (fun k_ => (P0_ k_ ∨ w.heap.size ≤ k_)) (fun _ => False) rfl rfl ?aP (fun _ hk => hk.elim) ?aF ?aO ?aB ?aS ?aL ?_; (case aP => exact rfl); (case aB => exact (by repeat (first | (with_reducible first | exact HB.out | apply below_alloc | apply pw_below_drewN | apply below_drew1) | exact HB.out))); (case aF => exact (fun k_ hk => (.inr (Nat.le_trans (by first | exact HK.out.1 | exact (show Kept w _ (fun k_ => P0_ k_) from by repeat (first | (with_reducible first | exact HK.out | apply Kept.alloc | apply Kept.drewN | apply Kept.drew) | exact HK.out)).1) hk)))); (case aO => exact (by (with_reducible repeat (first | apply Kd.R_alloc | apply Kd.R_drewN | apply Kd.R_drew)); exact HO_0.out)); (case aS => exact (below_size (by repeat (first | (with_reducible first | exact HB.out | apply below_alloc | apply pw_below_drewN | apply below_drew1) | exact HB.out)))); (case aL => have := LMc4.out; omega); intro v117 w5 ho hb hg hat; rw [← Ny116.out] at ho; have n0_ := Aside0.mk (hb); have n1_ := Aside0.mk (Kept.of_grown (S := (fun k_ => P0_ k_)) hg (by repeat (first | (with_reducible first | exact HK.out | apply Kept.alloc | apply Kept.drewN | apply Kept.drew) | exact HK.out)) (fun k_ e_ => (HO_0.out.1 k_ e_))); have n2_ := Aside0.mk (ho); clear HB; clear HK; clear HO_0; have HB := n0_; have HK := n1_; have HO118 := n2_; clear n0_ n1_ n2_; clear ho hb hg hat))
          go_roundg k1
          case measure => have := HK1.out; omega
          case rel => exact ⟨(y116), (x1_1 / 128), (by first | rfl | (simp; done) | (simp [*]; done)), H', ⟨by have := HK1.out; omega⟩, ⟨by (with_reducible repeat (first | apply Kd.R_alloc | apply Kd.R_drewN | apply Kd.R_drew)); exact HO118.out⟩, ⟨by repeat (first | (with_reducible first | exact HK.out | apply Kept.alloc | apply Kept.drewN | apply Kept.drew) | exact HK.out)⟩, ⟨by repeat (first | (with_reducible first | exact HB.out | apply below_alloc | apply pw_below_drewN | apply below_drew1) | exact HB.out)⟩⟩
        · rw [if_neg c4] at H
          exact absurd H (by simp)
      · rw [if_neg c3] at H
        have c3b0 : decide (128 ≤ x1_1) = false := decide_eq_false c3
        clear c3
        by_cases c6 : x0_1.length < 140737488355328
        · rw [if_pos c6] at H
          have LMc6 := Aside0.mk c6
          clear c6
          obtain ⟨y119, hy119⟩ : ∃ y_ : List Int, y_ = (x0_1 ++ [(x1_1) % 256]) := ⟨_, rfl⟩
          replace H : (some y119) = some r := by first | (rw [hy119]; with_reducible exact H) | (have H2_ := (Option.bind_some _ _).symm.trans H; rw [hy119]; with_reducible exact H2_) | (have H2_ := (Option.bind_some _ _).symm.trans H; with_reducible exact H2_) | with_reducible exact H | (rw [hy119]; exact H) | exact H
          have Ny119 := Aside0.mk hy119
          clear hy119
          obtain rfl := Option.some.inj H
          go_wp2_with (first | ((with_reducible refine gate_builtin (b := .append) (xs := #[.tmp 15, .tmp 18]) rfl ?_); at_builtin; refine Kd.R_append (Kd.int .u8) (w0 := w0) w0.heap.size rfl (.tmp 15) (.tmp 18) 25 5 (.int .u8 0) 1 rfl Try.underlying25 info5 rfl (by decide) (by omega) u0 x0_1 ((x1_1) % 256) [.int .u8 ((x1_1) % 256)] (fun k_ => (P0_ k_ ∨ w.heap.size ≤ k_)) (fun _ => False) rfl rfl ?aP (fun _ hk => hk.elim) ?aF ?aO ?aB ?aS ?aL ?_; (case aP => exact rfl); (case aB => exact (by repeat (first | (with_reducible first | exact HB.out | apply below_alloc | apply pw_below_drewN | apply below_drew1) | exact HB.out))); (case aF => exact (fun k_ hk => (.inr (Nat.le_trans (by first | exact HK.out.1 | exact (show Kept w _ (fun k_ => P0_ k_) from by repeat (first | (with_reducible first | exact HK.out | apply Kept.alloc | apply Kept.drewN | apply Kept.drew) | exact HK.out)).1) hk)))); (case aO => exact (by (with_reducible repeat (first | apply Kd.R_alloc | apply Kd.R_drewN | apply Kd.R_drew)); exact HO_0.out)); (case aS => exact (below_size (by repeat (first | (with_reducible first | exact HB.out | apply below_alloc | apply pw_below_drewN | apply below_drew1) | exact HB.out)))); (case aL => have := LMc6.out; omega); intro v120 w7 ho hb hg hat; rw [← Ny119.out] at ho; have n0_ := Aside0.mk (hb); have n1_ := Aside0.mk (Kept.of_grown (S := (fun k_ => P0_ k_)) hg (by repeat (first | (with_reducible first | exact HK.out | apply Kept.alloc | apply Kept.drewN | apply Kept.drew) | exact HK.out)) (fun k_ e_ => (HO_0.out.1 k_ e_))); have n2_ := Aside0.mk (ho); clear HB; clear HK; clear HO_0; have HB := n0_; have HK := n1_; have HO121 := n2_; clear n0_ n1_ n2_; clear ho hb hg hat))
          go_ret
          exact ⟨_, by first | rfl | (simp [errW_none, errW_some] <;> rfl) | (simp [*, errW_none, errW_some] <;> rfl), by (with_reducible repeat (first | apply Kd.R_alloc | apply Kd.R_drewN | apply Kd.R_drew)); exact HO121.out, by repeat (first | (with_reducible first | exact HB.out | apply below_alloc | apply pw_below_drewN | apply below_drew1) | exact HB.out), by repeat (first | (with_reducible first | exact HK.out | apply Kept.alloc | apply Kept.drewN | apply Kept.drew) | exact HK.out)⟩
        · rw [if_neg c6] at H
          exact absurd H (by simp)

/-! ### comettypes_delimited: function 25 -/
def comettypes_delimited.f (k : Nat) (l0 : List Int) : Option (List Int) := (comettypes_putUvarint.f k ([] : List Int) (IntKind.u64.wrap ((l0.length : Int)))).bind fun t122 => (if t122.length + l0.length < 140737488355328 then (some (t122 ++ l0)) else (none))
theorem comettypes_delimited.mono : ∀ a0 k, LeO (comettypes_delimited.f k a0) (comettypes_delimited.f (k + 1) a0) := by
  intro a0 k
  unfold comettypes_delimited.f
  repeat' first
      | (with_reducible exact comettypes_putUvarint.mono _ _ _)
      | (with_reducible exact LeO.refl _)
      | (with_reducible exact LeO.none _)
      | (with_reducible refine LeO.ite ?_ ?_)
      | (with_reducible refine LeO.bind ?_ (fun _ => ?_))
      | exact comettypes_putUvarint.mono _ _ _
      | exact LeO.none _
      | refine LeO.ite ?_ ?_
      | refine LeO.bind ?_ (fun _ => ?_)
set_option maxHeartbeats 8000000 in
set_option maxRecDepth 100000 in
theorem comettypes_delimited.calls (k : Nat) (A0 : Option Addr) (c0 : Nat) (l0 : List Int) (r : List Int) (w : World) (hr0 : Kd.C (Kd.int .u8) w A0 l0.length l0) (hc0 : l0.length ≤ c0) (h : comettypes_delimited.f k l0 = some r) :
    Calls Try.prog 25 #[.slice A0 l0.length c0] w fun e w' => ∃ v0_ : Value, e = .returned (v0_) ∧ Kd.R (Kd.int .u8) 5 w' w.heap.size (fun _ => True) v0_ r ∧ Below w.heap.size w w' := by
  have HR0 := Aside0.mk hr0
  have HC0 := Aside0.mk hc0
  clear hr0 hc0
  have HB := Aside0.mk (Below.refl w.heap.size w)
  have H : ((comettypes_putUvarint.f k ([] : List Int) (IntKind.u64.wrap ((l0.length : Int)))).bind fun t122 => (if t122.length + l0.length < 140737488355328 then (some (t122 ++ l0)) else (none))) = some r := h
  clear h
  replace H := Option.bind_eq_some_iff.mp H
  obtain ⟨t122, A20, H⟩ := H
  replace H : (if t122.length + l0.length < 140737488355328 then (some (t122 ++ l0)) else (none)) = some r := H
  have A2 := Aside0.mk A20
  clear A20
  by_cases c3 : t122.length + l0.length < 140737488355328
  · rw [if_pos c3] at H
    have LMc3 := Aside0.mk c3
    clear c3
    obtain ⟨y125, hy125⟩ : ∃ y_ : List Int, y_ = (t122 ++ l0) := ⟨_, rfl⟩
    replace H : (some y125) = some r := by first | (rw [hy125]; with_reducible exact H) | (have H2_ := (Option.bind_some _ _).symm.trans H; rw [hy125]; with_reducible exact H2_) | (have H2_ := (Option.bind_some _ _).symm.trans H; with_reducible exact H2_) | with_reducible exact H | (rw [hy125]; exact H) | exact H
    have Ny125 := Aside0.mk hy125
    clear hy125
    obtain rfl := Option.some.inj H
    go_enter Try.func25, Try.ntmps25
    go_wp2_with (first | ((with_reducible refine gate_callee (f := 30) rfl ?_); refine goesL_ (some 6) rfl rfl Try.func30 (by kernel_rfl) rfl #[.slice none 0 0, .int .u64 (IntKind.u64.wrap ((l0.length : Int)))] rfl (by (try simp only [List.map_toArray, List.map_cons, List.map_nil]); first | done | rfl | (simp only [List.length_drop, List.length_take]; rfl)) ?_; (refine (comettypes_putUvarint.calls k (fun k_ => some k_ = (.slice none 0 0 : Value).ownBlock) (.slice none 0 0) ([] : List Int) (IntKind.u64.wrap ((l0.length : Int))) t122 w _ ?side1 ?side2 A2.out).mono ?_); (case side1 => repeat (first | (with_reducible first | exact HB.out | apply below_alloc | apply pw_below_drewN | apply below_drew1) | exact HB.out)); (case side2 => exact Kd.R_nil _ _ _ _ _); rintro e w4 ⟨v123, rfl, ho0, hb, hkp⟩; refine ⟨_, rfl, ?_⟩; have n0_ := Aside0.mk (Kd.R_mono (ok' := fun k_ => True) ho0 (fun k_ hk_ => trivial)); have n1_ := Aside0.mk (hb); clear HB; have HO124 := n0_; have HB := n1_; clear n0_ n1_; (try clear hb); (try clear hkp); (try clear ho0)) | ((with_reducible refine gate_builtin (b := .append) (xs := #[.tmp 6, .tmp 7]) rfl ?_); at_builtin; refine Kd.R_append_rows (Kd.int .u8) (w0 := w) w.heap.size rfl (.tmp 6) (.tmp 7) 25 5 (.int .u8 0) 1 rfl Try.underlying25 info5 rfl (by decide) (by omega) v123 t122 l0 _ _ _ (fun _ => True) (fun _ => False) rfl rfl ?aO ?aR (fun _ _ h => h) (fun _ h => h.elim) ?aF ?aB ?aS ?aL ?_; (case aR => repeat (first | exact (Kd.C_below HR0.out HB.out) | (with_reducible refine Kd.C_alloc ?_ _) | (with_reducible refine Kd.C_drewN ?_ _) | (with_reducible refine Kd.C_drew ?_))); (case aB => exact (by repeat (first | (with_reducible first | exact HB.out | apply below_alloc | apply pw_below_drewN | apply below_drew1) | exact HB.out))); (case aF => exact (fun _ _ => trivial)); (case aO => exact (by (with_reducible repeat (first | apply Kd.R_alloc | apply Kd.R_drewN | apply Kd.R_drew)); exact HO124.out)); (case aS => exact (below_size (by repeat (first | (with_reducible first | exact HB.out | apply below_alloc | apply pw_below_drewN | apply below_drew1) | exact HB.out)))); (case aL => have := LMc3.out; omega); intro v126 w5 ho hb hg hat; rw [← Ny125.out] at ho; have n0_ := Aside0.mk (hb); have n1_ := Aside0.mk (ho); clear HB; clear HO124; have HB := n0_; have HO127 := n1_; clear n0_ n1_; clear ho hb hg hat))
    go_ret
    exact ⟨_, by first | rfl | (simp [errW_none, errW_some] <;> rfl) | (simp [*, errW_none, errW_some] <;> rfl), by (with_reducible repeat (first | apply Kd.R_alloc | apply Kd.R_drewN | apply Kd.R_drew)); exact HO127.out, by repeat (first | (with_reducible first | exact HB.out | apply below_alloc | apply pw_below_drewN | apply below_drew1) | exact HB.out)⟩
  · rw [if_neg c3] at H
    exact absurd H (by simp)

/-! ### comettypes_putNumber: function 31 -/
def comettypes_putNumber.f (k : Nat) (l0 : List Int) (a1 : Int) (a2 : Int) : Option (List Int) := if a2 = 0 then (some l0) else (if l0.length < 140737488355328 then ((comettypes_putUvarint.f k (l0 ++ [(wrap64 (a1 * 8)) % 256]) a2).bind fun t131 => (some t131)) else (none))
theorem comettypes_putNumber.mono : ∀ a0 a1 a2 k, LeO (comettypes_putNumber.f k a0 a1 a2) (comettypes_putNumber.f (k + 1) a0 a1 a2) := by
  intro a0 a1 a2 k
  unfold comettypes_putNumber.f
  repeat' first
      | (with_reducible exact comettypes_putUvarint.mono _ _ _)
      | (with_reducible exact LeO.refl _)
      | (with_reducible exact LeO.none _)
      | (with_reducible refine LeO.ite ?_ ?_)
      | (with_reducible refine LeO.bind ?_ (fun _ => ?_))
      | exact comettypes_putUvarint.mono _ _ _
      | exact LeO.none _
      | refine LeO.ite ?_ ?_
      | refine LeO.bind ?_ (fun _ => ?_)
set_option maxHeartbeats 8000000 in
set_option maxRecDepth 100000 in
theorem comettypes_putNumber.calls (k : Nat) (P0_ : Nat → Prop) (u9000_ : Value) (l0 : List Int) (a1 : Int) (a2 : Int) (r : List Int) (w0 w : World) (hB : Below w0.heap.size w0 w) (ho0 : Kd.R (Kd.int .u8) 5 w w0.heap.size P0_ u9000_ l0) (h : comettypes_putNumber.f k l0 a1 a2 = some r) :
    Calls Try.prog 31 #[u9000_, .int .i64 a1, .int .u64 a2] w fun e w' => ∃ v0_ : Value, e = .returned (v0_) ∧ Kd.R (Kd.int .u8) 5 w' w0.heap.size (fun k_ => (P0_ k_ ∨ w.heap.size ≤ k_)) v0_ r ∧ Below w0.heap.size w0 w' ∧ Kept w w' (fun k_ => P0_ k_) := by
  have HO0 := Aside0.mk (show Kd.R (Kd.int .u8) 5 w w0.heap.size (fun k_ => (P0_ k_ ∨ w.heap.size ≤ k_)) u9000_ l0 from Kd.R_mono ho0 (fun k_ hk => (.inl hk)))
  have HK := Aside0.mk (Kept.refl w (fun k_ => P0_ k_))
  have HW0 := Aside0.mk hB.size
  have HB := Aside0.mk hB
  clear hB
  have H : (if a2 = 0 then (some l0) else (if l0.length < 140737488355328 then ((comettypes_putUvarint.f k (l0 ++ [(wrap64 (a1 * 8)) % 256]) a2).bind fun t131 => (some t131)) else (none))) = some r := h
  clear h
  by_cases c4 : a2 = 0
  · rw [if_pos c4] at H
    have c4b0 : (a2 == 0) = true := beq_iff_eq.mpr c4
    have c4b1 : (a2 != 0) = false := bne_eq_false_iff_eq.mpr c4
    clear c4
    obtain rfl := Option.some.inj H
    go_enter Try.func31, Try.ntmps31
    go_wp2
    go_ret
    exact ⟨_, by first | rfl | (simp [errW_none, errW_some] <;> rfl) | (simp [*, errW_none, errW_some] <;> rfl), by (with_reducible repeat (first | apply Kd.R_alloc | apply Kd.R_drewN | apply Kd.R_drew)); exact HO0.out, by repeat (first | (with_reducible first | exact HB.out | apply below_alloc | apply pw_below_drewN | apply below_drew1) | exact HB.out), by repeat (first | (with_reducible first | exact HK.out | apply Kept.alloc | apply Kept.drewN | apply Kept.drew) | exact HK.out)⟩
  · rw [if_neg c4] at H
    have c4b0 : (a2 == 0) = false := beq_eq_false_iff_ne.mpr c4
    have c4b1 : (a2 != 0) = true := bne_iff_ne.mpr c4
    by_cases c5 : l0.length < 140737488355328
    · rw [if_pos c5] at H
      have LMc5 := Aside0.mk c5
      clear c5
      obtain ⟨y128, hy128⟩ : ∃ y_ : List Int, y_ = (l0 ++ [(wrap64 (a1 * 8)) % 256]) := ⟨_, rfl⟩
      replace H : ((comettypes_putUvarint.f k y128 a2).bind fun t131 => (some t131)) = some r := by first | (rw [hy128]; with_reducible exact H) | (have H2_ := (Option.bind_some _ _).symm.trans H; rw [hy128]; with_reducible exact H2_) | (have H2_ := (Option.bind_some _ _).symm.trans H; with_reducible exact H2_) | with_reducible exact H | (rw [hy128]; exact H) | exact H
      have Ny128 := Aside0.mk hy128
      clear hy128
      replace H := Option.bind_eq_some_iff.mp H
      obtain ⟨t131, A60, H⟩ := H
      replace H : (some t131) = some r := H
      have A6 := Aside0.mk A60
      clear A60
      obtain rfl := Option.some.inj H
      go_enter Try.func31, Try.ntmps31
      go_wp2_with (first | ((with_reducible refine gate_builtin (b := .append) (xs := #[.tmp 10, .tmp 14]) rfl ?_); at_builtin; refine Kd.R_append (Kd.int .u8) (w0 := w0) w0.heap.size rfl (.tmp 10) (.tmp 14) 25 5 (.int .u8 0) 1 rfl Try.underlying25 info5 rfl (by decide) (by omega) u9000_ l0 ((wrap64 (a1 * 8)) % 256) [.int .u8 ((wrap64 (a1 * 8)) % 256)] (fun k_ => (P0_ k_ ∨ w.heap.size ≤ k_)) (fun _ => False) rfl rfl ?aP (fun _ hk => hk.elim) ?aF ?aO ?aB ?aS ?aL ?_; (case aP => exact rfl); (case aB => exact (by repeat (first | (with_reducible first | exact HB.out | apply below_alloc | apply pw_below_drewN | apply below_drew1) | exact HB.out))); (case aF => exact (fun k_ hk => (.inr (Nat.le_trans (by first | exact HK.out.1 | exact (show Kept w _ (fun k_ => P0_ k_) from by repeat (first | (with_reducible first | exact HK.out | apply Kept.alloc | apply Kept.drewN | apply Kept.drew) | exact HK.out)).1) hk)))); (case aO => exact (by (with_reducible repeat (first | apply Kd.R_alloc | apply Kd.R_drewN | apply Kd.R_drew)); exact HO0.out)); (case aS => exact (below_size (by repeat (first | (with_reducible first | exact HB.out | apply below_alloc | apply pw_below_drewN | apply below_drew1) | exact HB.out)))); (case aL => have := LMc5.out; omega); intro v129 w7 ho hb hg hat; rw [← Ny128.out] at ho; have n0_ := Aside0.mk (hb); have n1_ := Aside0.mk (Kept.of_grown (S := (fun k_ => P0_ k_)) hg (by repeat (first | (with_reducible first | exact HK.out | apply Kept.alloc | apply Kept.drewN | apply Kept.drew) | exact HK.out)) (fun k_ e_ => (HO0.out.1 k_ e_))); have n2_ := Aside0.mk (ho); clear HB; clear HK; clear HO0; have HB := n0_; have HK := n1_; have HO130 := n2_; clear n0_ n1_ n2_; clear ho hb hg hat; obtain ⟨Ao8, co8, eo8⟩ := Kd.R_slice HO130.out; subst eo8) | ((with_reducible refine gate_callee (f := 30) rfl ?_); refine goesL_ (some 17) rfl rfl Try.func30 (by kernel_rfl) rfl #[.slice Ao8 y128.length co8, .int .u64 a2] rfl (by (try simp only [List.map_toArray, List.map_cons, List.map_nil]); first | done | rfl | (simp only [List.length_drop, List.length_take]; rfl)) ?_; (with_reducible refine (comettypes_putUvarint.calls k (fun k_ => some k_ = (.slice Ao8 y128.length co8 : Value).ownBlock) (.slice Ao8 y128.length co8) y128 a2 t131 w0 _ ?side1 ?side2 A6.out).mono ?_); (case side1 => repeat (first | (with_reducible first | exact HB.out | apply below_alloc | apply pw_below_drewN | apply below_drew1) | exact HB.out)); (case side2 => exact Kd.R_tight rfl HO130.out); rintro e w9 ⟨v132, rfl, ho0, hb, hkp⟩; refine ⟨_, rfl, ?_⟩; have n0_ := Aside0.mk (Kd.R_mono (ok' := fun k_ => (P0_ k_ ∨ w.heap.size ≤ k_)) ho0 (fun k_ hk_ => Or.elim hk_ (fun hs_ => (HO130.out.1 k_ (hs_).symm)) (fun hn_ => (.inr (Nat.le_trans (by first | exact HK.out.1 | exact (show Kept w _ (fun k_ => P0_ k_) from by repeat (first | (with_reducible first | exact HK.out | apply Kept.alloc | apply Kept.drewN | apply Kept.drew) | exact HK.out)).1) hn_))))); have n1_ := Aside0.mk (Kept.then_ (S := (fun k_ => P0_ k_)) (by repeat (first | (with_reducible first | exact HK.out | apply Kept.alloc | apply Kept.drewN | apply Kept.drew) | exact HK.out)) hkp (fun k_ hs_ => (fun e_ => (HO130.out.1 k_ e_.symm)) hs_)); have n2_ := Aside0.mk (hb); clear HK; clear HB; clear HO130; have HO133 := n0_; have HK := n1_; have HB := n2_; clear n0_ n1_ n2_; (try clear hb); (try clear hkp); (try clear ho0)))
      go_ret
      exact ⟨_, by first | rfl | (simp [errW_none, errW_some] <;> rfl) | (simp [*, errW_none, errW_some] <;> rfl), by (with_reducible repeat (first | apply Kd.R_alloc | apply Kd.R_drewN | apply Kd.R_drew)); exact HO133.out, by repeat (first | (with_reducible first | exact HB.out | apply below_alloc | apply pw_below_drewN | apply below_drew1) | exact HB.out), by repeat (first | (with_reducible first | exact HK.out | apply Kept.alloc | apply Kept.drewN | apply Kept.drew) | exact HK.out)⟩
    · rw [if_neg c5] at H
      exact absurd H (by simp)

/-! ### comettypes_putFixed: function 32 -/
def comettypes_putFixed.l0 : Nat → List Int → Int → Int → Option (List Int)
  | 0, _, _, _ => none
  | k + 1, x0, x2, x7 => if x7 < 8 then (if 0 ≤ (wrap64 (8 * x7)) then (if x0.length < 140737488355328 then (comettypes_putFixed.l0 k (x0 ++ [(shr .u64 (IntKind.u64.wrap (x2)) (wrap64 (8 * x7))) % 256]) x2 (wrap64 (x7 + 1))) else (none)) else (none)) else (some x0)
def comettypes_putFixed.f (k : Nat) (l0 : List Int) (a1 : Int) (a2 : Int) : Option (List Int) := if a2 = 0 then (some l0) else (if l0.length < 140737488355328 then (comettypes_putFixed.l0 k (l0 ++ [(Go.bits .or .i64 (wrap64 (a1 * 8)) 1) % 256]) a2 0) else (none))
theorem comettypes_putFixed.mono_l : ∀ k, (∀ y0 y1 y2, LeO (comettypes_putFixed.l0 k y0 y1 y2) (comettypes_putFixed.l0 (k + 1) y0 y1 y2))
  | 0 => fun _ _ _ r h => by simp [comettypes_putFixed.l0] at h
  | k + 1 => by
    have ih0 := comettypes_putFixed.mono_l k
    · intro y0 y1 y2
      unfold comettypes_putFixed.l0
      repeat' first
      | (with_reducible exact ih0 _ _ _)
      | (with_reducible exact LeO.refl _)
      | (with_reducible exact LeO.none _)
      | (with_reducible refine LeO.ite ?_ ?_)
      | (with_reducible refine LeO.bind ?_ (fun _ => ?_))
      | exact ih0 _ _ _
      | exact LeO.none _
      | refine LeO.ite ?_ ?_
      | refine LeO.bind ?_ (fun _ => ?_)
theorem comettypes_putFixed.mono : ∀ a0 a1 a2 k, LeO (comettypes_putFixed.f k a0 a1 a2) (comettypes_putFixed.f (k + 1) a0 a1 a2) := by
  intro a0 a1 a2 k
  have ih0 := comettypes_putFixed.mono_l k
  unfold comettypes_putFixed.f
  repeat' first
      | (with_reducible exact ih0 _ _ _)
      | (with_reducible exact LeO.refl _)
      | (with_reducible exact LeO.none _)
      | (with_reducible refine LeO.ite ?_ ?_)
      | (with_reducible refine LeO.bind ?_ (fun _ => ?_))
      | exact ih0 _ _ _
      | exact LeO.none _
      | refine LeO.ite ?_ ?_
      | refine LeO.bind ?_ (fun _ => ?_)
set_option maxHeartbeats 8000000 in
set_option maxRecDepth 100000 in
theorem comettypes_putFixed.calls (k : Nat) (P0_ : Nat → Prop) (u9000_ : Value) (l0 : List Int) (a1 : Int) (a2 : Int) (r : List Int) (w0 w : World) (hB : Below w0.heap.size w0 w) (ho0 : Kd.R (Kd.int .u8) 5 w w0.heap.size P0_ u9000_ l0) (h : comettypes_putFixed.f k l0 a1 a2 = some r) :
    Calls Try.prog 32 #[u9000_, .int .i64 a1, .int .i64 a2] w fun e w' => ∃ v0_ : Value, e = .returned (v0_) ∧ Kd.R (Kd.int .u8) 5 w' w0.heap.size (fun k_ => (P0_ k_ ∨ w.heap.size ≤ k_)) v0_ r ∧ Below w0.heap.size w0 w' ∧ Kept w w' (fun k_ => P0_ k_) := by
  have HO0 := Aside0.mk (show Kd.R (Kd.int .u8) 5 w w0.heap.size (fun k_ => (P0_ k_ ∨ w.heap.size ≤ k_)) u9000_ l0 from Kd.R_mono ho0 (fun k_ hk => (.inl hk)))
  have HK := Aside0.mk (Kept.refl w (fun k_ => P0_ k_))
  have HW0 := Aside0.mk hB.size
  have HB := Aside0.mk hB
  clear hB
  have H : (if a2 = 0 then (some l0) else (if l0.length < 140737488355328 then (comettypes_putFixed.l0 k (l0 ++ [(Go.bits .or .i64 (wrap64 (a1 * 8)) 1) % 256]) a2 0) else (none))) = some r := h
  clear h
  by_cases c4 : a2 = 0
  · rw [if_pos c4] at H
    have c4b0 : (a2 == 0) = true := beq_iff_eq.mpr c4
    have c4b1 : (a2 != 0) = false := bne_eq_false_iff_eq.mpr c4
    clear c4
    obtain rfl := Option.some.inj H
    go_enter Try.func32, Try.ntmps32
    go_wp2
    go_ret
    exact ⟨_, by first | rfl | (simp [errW_none, errW_some] <;> rfl) | (simp [*, errW_none, errW_some] <;> rfl), by (with_reducible repeat (first | apply Kd.R_alloc | apply Kd.R_drewN | apply Kd.R_drew)); exact HO0.out, by repeat (first | (with_reducible first | exact HB.out | apply below_alloc | apply pw_below_drewN | apply below_drew1) | exact HB.out), by repeat (first | (with_reducible first | exact HK.out | apply Kept.alloc | apply Kept.drewN | apply Kept.drew) | exact HK.out)⟩
  · rw [if_neg c4] at H
    have c4b0 : (a2 == 0) = false := beq_eq_false_iff_ne.mpr c4
    have c4b1 : (a2 != 0) = true := bne_iff_ne.mpr c4
    by_cases c5 : l0.length < 140737488355328
    · rw [if_pos c5] at H
      have LMc5 := Aside0.mk c5
      clear c5
      obtain ⟨y134, hy134⟩ : ∃ y_ : List Int, y_ = (l0 ++ [(Go.bits .or .i64 (wrap64 (a1 * 8)) 1) % 256]) := ⟨_, rfl⟩
      replace H : (comettypes_putFixed.l0 k y134 a2 0) = some r := by first | (rw [hy134]; with_reducible exact H) | (have H2_ := (Option.bind_some _ _).symm.trans H; rw [hy134]; with_reducible exact H2_) | (have H2_ := (Option.bind_some _ _).symm.trans H; with_reducible exact H2_) | with_reducible exact H | (rw [hy134]; exact H) | exact H
      have Ny134 := Aside0.mk hy134
      clear hy134
      have H' := Aside0.mk H
      clear H
      go_enter Try.func32, Try.ntmps32
      go_wp2_with (first | ((with_reducible refine gate_builtin (b := .append) (xs := #[.tmp 11, .tmp 16]) rfl ?_); at_builtin; refine Kd.R_append (Kd.int .u8) (w0 := w0) w0.heap.size rfl (.tmp 11) (.tmp 16) 25 5 (.int .u8 0) 1 rfl Try.underlying25 info5 rfl (by decide) (by omega) u9000_ l0 ((Go.bits .or .i64 (wrap64 (a1 * 8)) 1) % 256) [.int .u8 ((Go.bits .or .i64 (wrap64 (a1 * 8)) 1) % 256)] (fun k_ => (P0_ k_ ∨ w.heap.size ≤ k_)) (fun _ => False) rfl rfl ?aP (fun _ hk => hk.elim) ?aF ?aO ?aB ?aS ?aL ?_; (case aP => exact rfl); (case aB => exact (by repeat (first | (with_reducible first | exact HB.out | apply below_alloc | apply pw_below_drewN | apply below_drew1) | exact HB.out))); (case aF => exact (fun k_ hk => (.inr (Nat.le_trans (by first | exact HK.out.1 | exact (show Kept w _ (fun k_ => P0_ k_) from by repeat (first | (with_reducible first | exact HK.out | apply Kept.alloc | apply Kept.drewN | apply Kept.drew) | exact HK.out)).1) hk)))); (case aO => exact (by (with_reducible repeat (first | apply Kd.R_alloc | apply Kd.R_drewN | apply Kd.R_drew)); exact HO0.out)); (case aS => exact (below_size (by repeat (first | (with_reducible first | exact HB.out | apply below_alloc | apply pw_below_drewN | apply below_drew1) | exact HB.out)))); (case aL => have := LMc5.out; omega); intro v135 w6 ho hb hg hat; rw [← Ny134.out] at ho; have n0_ := Aside0.mk (hb); have n1_ := Aside0.mk (Kept.of_grown (S := (fun k_ => P0_ k_)) hg (by repeat (first | (with_reducible first | exact HK.out | apply Kept.alloc | apply Kept.drewN | apply Kept.drew) | exact HK.out)) (fun k_ e_ => (HO0.out.1 k_ e_))); have n2_ := Aside0.mk (ho); clear HB; clear HK; clear HO0; have HB := n0_; have HK := n1_; have HO136 := n2_; clear n0_ n1_ n2_; clear ho hb hg hat))
      go_loopg [0, 7] k (fun kq v0 v7 w' => ∃ (x0_1 : List Int) (x7_1 : Int), v7 = .int .i64 x7_1 ∧ Aside0 (comettypes_putFixed.l0 kq x0_1 a2 x7_1 = some r) ∧ Aside0 (kq ≤ k) ∧ Aside0 (Kd.R (Kd.int .u8) 5 w' w0.heap.size (fun k_ => (P0_ k_ ∨ w.heap.size ≤ k_)) v0 x0_1) ∧ Aside0 (Kept w w' (fun k_ => P0_ k_)) ∧ Aside0 (Below w0.heap.size w0 w'))
      case atStart => exact ⟨(y134), (0), (by first | rfl | (simp; done) | (simp [*]; done)), H', ⟨Nat.le_refl _⟩, ⟨by (with_reducible repeat (first | apply Kd.R_alloc | apply Kd.R_drewN | apply Kd.R_drew)); exact HO136.out⟩, ⟨by repeat (first | (with_reducible first | exact HK.out | apply Kept.alloc | apply Kept.drewN | apply Kept.drew) | exact HK.out)⟩, ⟨by repeat (first | (with_reducible first | exact HB.out | apply below_alloc | apply pw_below_drewN | apply below_drew1) | exact HB.out)⟩⟩
      case round =>
        clear H'
        try clear p2
        try clear c3
        try clear c4
        try clear c4b0
        try clear c4b1
        try clear c5
        try clear p6
        obtain ⟨x0_1, x7_1, rfl, HA, HK1, HO_0, HK, HB⟩ := hrel
        cases gk with
        | zero => exact absurd HA.out (by simp [comettypes_putFixed.l0])
        | succ k1 =>
          have H := HA.out
          clear HA
          simp only [comettypes_putFixed.l0] at H
          by_cases c7 : x7_1 < 8
          · rw [if_pos c7] at H
            have c7b0 : decide (x7_1 < 8) = true := decide_eq_true c7
            clear c7
            obtain ⟨ji8, hji8⟩ : ∃ j_ : Int, (wrap64 (8 * x7_1)) = j_ := ⟨_, rfl⟩
            replace H : (if 0 ≤ (ji8) then (if x0_1.length < 140737488355328 then (comettypes_putFixed.l0 k1 (x0_1 ++ [(shr .u64 (IntKind.u64.wrap (a2)) (ji8)) % 256]) a2 (wrap64 (x7_1 + 1))) else (none)) else (none)) = some r := by first | (rw [hji8] at H; exact H) | (simp only [hji8] at H ⊢; exact H)
            have hji8w : (IntKind.i64.wrap (8 * x7_1)) = ji8 := (i64_w _).trans hji8
            by_cases c9 : 0 ≤ (ji8)
            · rw [if_pos c9] at H
              have c9b0 := eq_true c9
              have c9b1 : decide (0 ≤ (ji8)) = true := decide_eq_true c9
              clear c9
              obtain ⟨ji10, hji10⟩ : ∃ j_ : Int, (shr .u64 (IntKind.u64.wrap (a2)) (ji8)) = j_ := ⟨_, rfl⟩
              replace H : (if x0_1.length < 140737488355328 then (comettypes_putFixed.l0 k1 (x0_1 ++ [(ji10) % 256]) a2 (wrap64 (x7_1 + 1))) else (none)) = some r := by first | (rw [hji10] at H; exact H) | (simp only [hji10] at H ⊢; exact H)
              have hji10_ : ((IntKind.u64.wrap (a2)) / 2 ^ min (ji8).toNat 64) = ji10 := hji10
              have hji10z : (ji8) ≤ 64 → ((IntKind.u64.wrap (a2)) / 2 ^ (ji8).toNat) = ji10 := shr_small hji10
              by_cases c11 : x0_1.length < 140737488355328
              · rw [if_pos c11] at H
                have LMc11 := Aside0.mk c11
                clear c11
                obtain ⟨y137, hy137⟩ : ∃ y_ : List Int, y_ = (x0_1 ++ [(ji10) % 256]) := ⟨_, rfl⟩
                replace H : (comettypes_putFixed.l0 k1 y137 a2 (wrap64 (x7_1 + 1))) = some r := by first | (rw [hy137]; with_reducible exact H) | (have H2_ := (Option.bind_some _ _).symm.trans H; rw [hy137]; with_reducible exact H2_) | (have H2_ := (Option.bind_some _ _).symm.trans H; with_reducible exact H2_) | with_reducible exact H | (rw [hy137]; exact H) | exact H
                have Ny137 := Aside0.mk hy137
                clear hy137
                have H' := Aside0.mk H
                clear H
                go_wp2_with (first | ((with_reducible refine gate_builtin (b := .append) (xs := #[.tmp 22, .tmp 29]) rfl ?_); at_builtin; refine Kd.R_append (Kd.int .u8) (w0 := w0) w0.heap.size rfl (.tmp 22) (.tmp 29) 25 5 (.int .u8 0) 1 rfl Try.underlying25 info5 rfl (by decide) (by omega) u0 x0_1 ((ji10) % 256) [.int .u8 ((ji10) % 256)] (fun k_ => (P0_ k_ ∨ w.heap.size ≤ k_)) (fun _ => False) rfl rfl ?aP (fun _ hk => hk.elim) ?aF ?aO ?aB ?aS ?aL ?_; (case aP => exact rfl); (case aB => exact (by repeat (first | (with_reducible first | exact HB.out | apply below_alloc | apply pw_below_drewN | apply below_drew1) | exact HB.out))); (case aF => exact (fun k_ hk => (.inr (Nat.le_trans (by first | exact HK.out.1 | exact (show Kept w _ (fun k_ => P0_ k_) from by repeat (first | (with_reducible first | exact HK.out | apply Kept.alloc | apply Kept.drewN | apply Kept.drew) | exact HK.out)).1) hk)))); (case aO => exact (by (with_reducible repeat (first | apply Kd.R_alloc | apply Kd.R_drewN | apply Kd.R_drew)); exact HO_0.out)); (case aS => exact (below_size (by repeat (first | (with_reducible first | exact HB.out | apply below_alloc | apply pw_below_drewN | apply below_drew1) | exact HB.out)))); (case aL => have := LMc11.out; omega); intro v138 w12 ho hb hg hat; rw [← Ny137.out] at ho; have n0_ := Aside0.mk (hb); have n1_ := Aside0.mk (Kept.of_grown (S := (fun k_ => P0_ k_)) hg (by repeat (first | (with_reducible first | exact HK.out | apply Kept.alloc | apply Kept.drewN | apply Kept.drew) | exact HK.out)) (fun k_ e_ => (HO_0.out.1 k_ e_))); have n2_ := Aside0.mk (ho); clear HB; clear HK; clear HO_0; have HB := n0_; have HK := n1_; have HO139 := n2_; clear n0_ n1_ n2_; clear ho hb hg hat))
                go_roundg k1
                case measure => have := HK1.out; omega
                case rel => exact ⟨(y137), (wrap64 (x7_1 + 1)), (by first | rfl | (simp; done) | (simp [*]; done)), H', ⟨by have := HK1.out; omega⟩, ⟨by (with_reducible repeat (first | apply Kd.R_alloc | apply Kd.R_drewN | apply Kd.R_drew)); exact HO139.out⟩, ⟨by repeat (first | (with_reducible first | exact HK.out | apply Kept.alloc | apply Kept.drewN | apply Kept.drew) | exact HK.out)⟩, ⟨by repeat (first | (with_reducible first | exact HB.out | apply below_alloc | apply pw_below_drewN | apply below_drew1) | exact HB.out)⟩⟩
              · rw [if_neg c11] at H
                exact absurd H (by simp)
            · rw [if_neg c9] at H
              exact absurd H (by simp)
          · rw [if_neg c7] at H
            have c7b0 : decide (x7_1 < 8) = false := decide_eq_false c7
            clear c7
            obtain rfl := Option.some.inj H
            go_wp2
            go_ret
            exact ⟨_, by first | rfl | (simp [errW_none, errW_some] <;> rfl) | (simp [*, errW_none, errW_some] <;> rfl), by (with_reducible repeat (first | apply Kd.R_alloc | apply Kd.R_drewN | apply Kd.R_drew)); exact HO_0.out, by repeat (first | (with_reducible first | exact HB.out | apply below_alloc | apply pw_below_drewN | apply below_drew1) | exact HB.out), by repeat (first | (with_reducible first | exact HK.out | apply Kept.alloc | apply Kept.drewN | apply Kept.drew) | exact HK.out)⟩
    · rw [if_neg c5] at H
      exact absurd H (by simp)

/-! ### comettypes_putMessage: function 33 -/
def comettypes_putMessage.f (k : Nat) (l0 : List Int) (a1 : Int) (l2 : List Int) : Option (List Int) := if l0.length < 140737488355328 then ((comettypes_putUvarint.f k (l0 ++ [(Go.bits .or .i64 (wrap64 (a1 * 8)) 2) % 256]) (IntKind.u64.wrap ((l2.length : Int)))).bind fun t143 => (if t143.length + l2.length < 140737488355328 then (some (t143 ++ l2)) else (none))) else (none)
theorem comettypes_putMessage.mono : ∀ a0 a1 a2 k, LeO (comettypes_putMessage.f k a0 a1 a2) (comettypes_putMessage.f (k + 1) a0 a1 a2) := by
  intro a0 a1 a2 k
  unfold comettypes_putMessage.f
  repeat' first
      | (with_reducible exact comettypes_putUvarint.mono _ _ _)
      | (with_reducible exact LeO.refl _)
      | (with_reducible exact LeO.none _)
      | (with_reducible refine LeO.ite ?_ ?_)
      | (with_reducible refine LeO.bind ?_ (fun _ => ?_))
      | exact comettypes_putUvarint.mono _ _ _
      | exact LeO.none _
      | refine LeO.ite ?_ ?_
      | refine LeO.bind ?_ (fun _ => ?_)
set_option maxHeartbeats 8000000 in
set_option maxRecDepth 100000 in
theorem comettypes_putMessage.calls (k : Nat) (P0_ : Nat → Prop) (u9000_ : Value) (l0 : List Int) (a1 : Int) (A2 : Option Addr) (c2 : Nat) (l2 : List Int) (r : List Int) (w0 w : World) (hB : Below w0.heap.size w0 w) (ho0 : Kd.R (Kd.int .u8) 5 w w0.heap.size P0_ u9000_ l0) (hr2 : ∀ W_, Kept w W_ (fun k_ => P0_ k_) → Kd.C (Kd.int .u8) W_ A2 l2.length l2) (hc2 : l2.length ≤ c2) (h : comettypes_putMessage.f k l0 a1 l2 = some r) :
    Calls Try.prog 33 #[u9000_, .int .i64 a1, .slice A2 l2.length c2] w fun e w' => ∃ v0_ : Value, e = .returned (v0_) ∧ Kd.R (Kd.int .u8) 5 w' w0.heap.size (fun k_ => (P0_ k_ ∨ w.heap.size ≤ k_)) v0_ r ∧ Below w0.heap.size w0 w' ∧ Kept w w' (fun k_ => P0_ k_) := by
  have HO0 := Aside0.mk (show Kd.R (Kd.int .u8) 5 w w0.heap.size (fun k_ => (P0_ k_ ∨ w.heap.size ≤ k_)) u9000_ l0 from Kd.R_mono ho0 (fun k_ hk => (.inl hk)))
  have HR2 := Aside0.mk hr2
  have HC2 := Aside0.mk hc2
  clear hr2 hc2
  have HK := Aside0.mk (Kept.refl w (fun k_ => P0_ k_))
  have HW0 := Aside0.mk hB.size
  have HB := Aside0.mk hB
  clear hB
  have H : (if l0.length < 140737488355328 then ((comettypes_putUvarint.f k (l0 ++ [(Go.bits .or .i64 (wrap64 (a1 * 8)) 2) % 256]) (IntKind.u64.wrap ((l2.length : Int)))).bind fun t143 => (if t143.length + l2.length < 140737488355328 then (some (t143 ++ l2)) else (none))) else (none)) = some r := h
  clear h
  by_cases c4 : l0.length < 140737488355328
  · rw [if_pos c4] at H
    have LMc4 := Aside0.mk c4
    clear c4
    obtain ⟨y140, hy140⟩ : ∃ y_ : List Int, y_ = (l0 ++ [(Go.bits .or .i64 (wrap64 (a1 * 8)) 2) % 256]) := ⟨_, rfl⟩
    replace H : ((comettypes_putUvarint.f k y140 (IntKind.u64.wrap ((l2.length : Int)))).bind fun t143 => (if t143.length + l2.length < 140737488355328 then (some (t143 ++ l2)) else (none))) = some r := by first | (rw [hy140]; with_reducible exact H) | (have H2_ := (Option.bind_some _ _).symm.trans H; rw [hy140]; with_reducible exact H2_) | (have H2_ := (Option.bind_some _ _).symm.trans H; with_reducible exact H2_) | with_reducible exact H | (rw [hy140]; exact H) | exact H
    have Ny140 := Aside0.mk hy140
    clear hy140
    replace H := Option.bind_eq_some_iff.mp H
    obtain ⟨t143, A50, H⟩ := H
    replace H : (if t143.length + l2.length < 140737488355328 then (some (t143 ++ l2)) else (none)) = some r := H
    have A5 := Aside0.mk A50
    clear A50
    by_cases c6 : t143.length + l2.length < 140737488355328
    · rw [if_pos c6] at H
      have LMc6 := Aside0.mk c6
      clear c6
      obtain ⟨y146, hy146⟩ : ∃ y_ : List Int, y_ = (t143 ++ l2) := ⟨_, rfl⟩
      replace H : (some y146) = some r := by first | (rw [hy146]; with_reducible exact H) | (have H2_ := (Option.bind_some _ _).symm.trans H; rw [hy146]; with_reducible exact H2_) | (have H2_ := (Option.bind_some _ _).symm.trans H; with_reducible exact H2_) | with_reducible exact H | (rw [hy146]; exact H) | exact H
      have Ny146 := Aside0.mk hy146
      clear hy146
      obtain rfl := Option.some.inj H
      go_enter Try.func33, Try.ntmps33
      go_wp2_with (first | ((with_reducible refine gate_builtin (b := .append) (xs := #[.tmp 7, .tmp 12]) rfl ?_); at_builtin; refine Kd.R_append (Kd.int .u8) (w0 := w0) w0.heap.size rfl (.tmp 7) (.tmp 12) 25 5 (.int .u8 0) 1 rfl Try.underlying25 info5 rfl (by decide) (by omega) u9000_ l0 ((Go.bits .or .i64 (wrap64 (a1 * 8)) 2) % 256) [.int .u8 ((Go.bits .or .i64 (wrap64 (a1 * 8)) 2) % 256)] (fun k_ => (P0_ k_ ∨ w.heap.size ≤ k_)) (fun _ => False) rfl rfl ?aP (fun _ hk => hk.elim) ?aF ?aO ?aB ?aS ?aL ?_; (case aP => exact rfl); (case aB => exact (by repeat (first | (with_reducible first | exact HB.out | apply below_alloc | apply pw_below_drewN | apply below_drew1) | exact HB.out))); (case aF => exact (fun k_ hk => (.inr (Nat.le_trans (by first | exact HK.out.1 | exact (show Kept w _ (fun k_ => P0_ k_) from by repeat (first | (with_reducible first | exact HK.out | apply Kept.alloc | apply Kept.drewN | apply Kept.drew) | exact HK.out)).1) hk)))); (case aO => exact (by (with_reducible repeat (first | apply Kd.R_alloc | apply Kd.R_drewN | apply Kd.R_drew)); exact HO0.out)); (case aS => exact (below_size (by repeat (first | (with_reducible first | exact HB.out | apply below_alloc | apply pw_below_drewN | apply below_drew1) | exact HB.out)))); (case aL => have := LMc4.out; omega); intro v141 w7 ho hb hg hat; rw [← Ny140.out] at ho; have n0_ := Aside0.mk (hb); have n1_ := Aside0.mk (Kept.of_grown (S := (fun k_ => P0_ k_)) hg (by repeat (first | (with_reducible first | exact HK.out | apply Kept.alloc | apply Kept.drewN | apply Kept.drew) | exact HK.out)) (fun k_ e_ => (HO0.out.1 k_ e_))); have n2_ := Aside0.mk (ho); clear HB; clear HK; clear HO0; have HB := n0_; have HK := n1_; have HO142 := n2_; clear n0_ n1_ n2_; clear ho hb hg hat; obtain ⟨Ao8, co8, eo8⟩ := Kd.R_slice HO142.out; subst eo8) | ((with_reducible refine gate_callee (f := 30) rfl ?_); refine goesL_ (some 17) rfl rfl Try.func30 (by kernel_rfl) rfl #[.slice Ao8 y140.length co8, .int .u64 (IntKind.u64.wrap ((l2.length : Int)))] rfl (by (try simp only [List.map_toArray, List.map_cons, List.map_nil]); first | done | rfl | (simp only [List.length_drop, List.length_take]; rfl)) ?_; (with_reducible refine (comettypes_putUvarint.calls k (fun k_ => some k_ = (.slice Ao8 y140.length co8 : Value).ownBlock) (.slice Ao8 y140.length co8) y140 (IntKind.u64.wrap ((l2.length : Int))) t143 w0 _ ?side1 ?side2 A5.out).mono ?_); (case side1 => repeat (first | (with_reducible first | exact HB.out | apply below_alloc | apply pw_below_drewN | apply below_drew1) | exact HB.out)); (case side2 => exact Kd.R_tight rfl HO142.out); rintro e w9 ⟨v144, rfl, ho0, hb, hkp⟩; refine ⟨_, rfl, ?_⟩; have n0_ := Aside0.mk (Kd.R_mono (ok' := fun k_ => (P0_ k_ ∨ w.heap.size ≤ k_)) ho0 (fun k_ hk_ => Or.elim hk_ (fun hs_ => (HO142.out.1 k_ (hs_).symm)) (fun hn_ => (.inr (Nat.le_trans (by first | exact HK.out.1 | exact (show Kept w _ (fun k_ => P0_ k_) from by repeat (first | (with_reducible first | exact HK.out | apply Kept.alloc | apply Kept.drewN | apply Kept.drew) | exact HK.out)).1) hn_))))); have n1_ := Aside0.mk (Kept.then_ (S := (fun k_ => P0_ k_)) (by repeat (first | (with_reducible first | exact HK.out | apply Kept.alloc | apply Kept.drewN | apply Kept.drew) | exact HK.out)) hkp (fun k_ hs_ => (fun e_ => (HO142.out.1 k_ e_.symm)) hs_)); have n2_ := Aside0.mk (hb); clear HK; clear HB; clear HO142; have HO145 := n0_; have HK := n1_; have HB := n2_; clear n0_ n1_ n2_; (try clear hb); (try clear hkp); (try clear ho0)) | ((with_reducible refine gate_builtin (b := .append) (xs := #[.tmp 18, .tmp 19]) rfl ?_); at_builtin; refine Kd.R_append_rows (Kd.int .u8) (w0 := w0) w0.heap.size rfl (.tmp 18) (.tmp 19) 25 5 (.int .u8 0) 1 rfl Try.underlying25 info5 rfl (by decide) (by omega) v144 t143 l2 _ _ _ (fun k_ => (P0_ k_ ∨ w.heap.size ≤ k_)) (fun _ => False) rfl rfl ?aO ?aR (fun _ _ h => h) (fun _ h => h.elim) ?aF ?aB ?aS ?aL ?_; (case aR => exact Kd.C_kept_now HR2.out (by repeat (first | (with_reducible first | exact HK.out | apply Kept.alloc | apply Kept.drewN | apply Kept.drew) | exact HK.out))); (case aB => exact (by repeat (first | (with_reducible first | exact HB.out | apply below_alloc | apply pw_below_drewN | apply below_drew1) | exact HB.out))); (case aF => exact (fun k_ hk => (.inr (Nat.le_trans (by first | exact HK.out.1 | exact (show Kept w _ (fun k_ => P0_ k_) from by repeat (first | (with_reducible first | exact HK.out | apply Kept.alloc | apply Kept.drewN | apply Kept.drew) | exact HK.out)).1) hk)))); (case aO => exact (by (with_reducible repeat (first | apply Kd.R_alloc | apply Kd.R_drewN | apply Kd.R_drew)); exact HO145.out)); (case aS => exact (below_size (by repeat (first | (with_reducible first | exact HB.out | apply below_alloc | apply pw_below_drewN | apply below_drew1) | exact HB.out)))); (case aL => have := LMc6.out; omega); intro v147 w10 ho hb hg hat; rw [← Ny146.out] at ho; have n0_ := Aside0.mk (hb); have n1_ := Aside0.mk (Kept.of_grown (S := (fun k_ => P0_ k_)) hg (by repeat (first | (with_reducible first | exact HK.out | apply Kept.alloc | apply Kept.drewN | apply Kept.drew) | exact HK.out)) (fun k_ e_ => (HO145.out.1 k_ e_))); have n2_ := Aside0.mk (ho); clear HB; clear HK; clear HO145; have HB := n0_; have HK := n1_; have HO148 := n2_; clear n0_ n1_ n2_; clear ho hb hg hat))
      go_ret
      exact ⟨_, by first | rfl | (simp [errW_none, errW_some] <;> rfl) | (simp [*, errW_none, errW_some] <;> rfl), by (with_reducible repeat (first | apply Kd.R_alloc | apply Kd.R_drewN | apply Kd.R_drew)); exact HO148.out, by repeat (first | (with_reducible first | exact HB.out | apply below_alloc | apply pw_below_drewN | apply below_drew1) | exact HB.out), by repeat (first | (with_reducible first | exact HK.out | apply Kept.alloc | apply Kept.drewN | apply Kept.drew) | exact HK.out)⟩
    · rw [if_neg c6] at H
      exact absurd H (by simp)
  · rw [if_neg c4] at H
    exact absurd H (by simp)

/-! ### comettypes_putText: function 36 -/
def comettypes_putText.f (k : Nat) (l0 : List Int) (a1 : Int) (l2 : List Int) : Option (List Int) := if (l2.length : Int) = 0 then (some l0) else ((comettypes_putMessage.f k l0 a1 l2).bind fun t149 => (some t149))
theorem comettypes_putText.mono : ∀ a0 a1 a2 k, LeO (comettypes_putText.f k a0 a1 a2) (comettypes_putText.f (k + 1) a0 a1 a2) := by
  intro a0 a1 a2 k
  unfold comettypes_putText.f
  repeat' first
      | (with_reducible exact comettypes_putMessage.mono _ _ _ _)
      | (with_reducible exact LeO.refl _)
      | (with_reducible exact LeO.none _)
      | (with_reducible refine LeO.ite ?_ ?_)
      | (with_reducible refine LeO.bind ?_ (fun _ => ?_))
      | exact comettypes_putMessage.mono _ _ _ _
      | exact LeO.none _
      | refine LeO.ite ?_ ?_
      | refine LeO.bind ?_ (fun _ => ?_)
set_option maxHeartbeats 8000000 in
set_option maxRecDepth 100000 in
theorem comettypes_putText.calls (k : Nat) (P0_ : Nat → Prop) (u9000_ : Value) (l0 : List Int) (a1 : Int) (A2 : Option Addr) (c2 : Nat) (l2 : List Int) (r : List Int) (w0 w : World) (hB : Below w0.heap.size w0 w) (ho0 : Kd.R (Kd.int .u8) 5 w w0.heap.size P0_ u9000_ l0) (hr2 : ∀ W_, Kept w W_ (fun k_ => P0_ k_) → Kd.C (Kd.int .u8) W_ A2 l2.length l2) (hc2 : l2.length ≤ c2) (h : comettypes_putText.f k l0 a1 l2 = some r) :
    Calls Try.prog 36 #[u9000_, .int .i64 a1, .slice A2 l2.length c2] w fun e w' => ∃ v0_ : Value, e = .returned (v0_) ∧ Kd.R (Kd.int .u8) 5 w' w0.heap.size (fun k_ => (P0_ k_ ∨ w.heap.size ≤ k_)) v0_ r ∧ Below w0.heap.size w0 w' ∧ Kept w w' (fun k_ => P0_ k_) := by
  have HO0 := Aside0.mk (show Kd.R (Kd.int .u8) 5 w w0.heap.size (fun k_ => (P0_ k_ ∨ w.heap.size ≤ k_)) u9000_ l0 from Kd.R_mono ho0 (fun k_ hk => (.inl hk)))
  have HR2 := Aside0.mk hr2
  have HC2 := Aside0.mk hc2
  clear hr2 hc2
  have HK := Aside0.mk (Kept.refl w (fun k_ => P0_ k_))
  have HW0 := Aside0.mk hB.size
  have HB := Aside0.mk hB
  clear hB
  have H : (if (l2.length : Int) = 0 then (some l0) else ((comettypes_putMessage.f k l0 a1 l2).bind fun t149 => (some t149))) = some r := h
  clear h
  by_cases c4 : (l2.length : Int) = 0
  · rw [if_pos c4] at H
    have c4b0 : ((l2.length : Int) == 0) = true := beq_iff_eq.mpr c4
    have c4b1 : ((l2.length : Int) != 0) = false := bne_eq_false_iff_eq.mpr c4
    clear c4
    obtain rfl := Option.some.inj H
    go_enter Try.func36, Try.ntmps36
    go_wp2
    go_ret
    exact ⟨_, by first | rfl | (simp [errW_none, errW_some] <;> rfl) | (simp [*, errW_none, errW_some] <;> rfl), by (with_reducible repeat (first | apply Kd.R_alloc | apply Kd.R_drewN | apply Kd.R_drew)); exact HO0.out, by repeat (first | (with_reducible first | exact HB.out | apply below_alloc | apply pw_below_drewN | apply below_drew1) | exact HB.out), by repeat (first | (with_reducible first | exact HK.out | apply Kept.alloc | apply Kept.drewN | apply Kept.drew) | exact HK.out)⟩
  · rw [if_neg c4] at H
    have c4b0 : ((l2.length : Int) == 0) = false := beq_eq_false_iff_ne.mpr c4
    have c4b1 : ((l2.length : Int) != 0) = true := bne_iff_ne.mpr c4
    have c4b2 : ¬ (l2 = []) := fun h_ => c4 (by rw [h_]; rfl)
    replace H := Option.bind_eq_some_iff.mp H
    obtain ⟨t149, A50, H⟩ := H
    replace H : (some t149) = some r := H
    have A5 := Aside0.mk A50
    clear A50
    obtain rfl := Option.some.inj H
    obtain ⟨Ao6, co6, eo6⟩ := Kd.R_slice HO0.out
    subst eo6
    go_enter Try.func36, Try.ntmps36
    go_wp2_with (first | ((with_reducible refine gate_callee (f := 33) rfl ?_); refine goesL_ (some 14) rfl rfl Try.func33 (by kernel_rfl) rfl #[.slice Ao6 l0.length co6, .int .i64 a1, .slice A2 l2.length c2] rfl (by (try simp only [List.map_toArray, List.map_cons, List.map_nil]); first | done | rfl | (simp only [List.length_drop, List.length_take]; rfl)) ?_; (with_reducible refine (comettypes_putMessage.calls k (fun k_ => some k_ = (.slice Ao6 l0.length co6 : Value).ownBlock) (.slice Ao6 l0.length co6) l0 a1 _ _ l2 t149 w0 _ ?side1 ?side2 ?side3 ?side4 A5.out).mono ?_); (case side1 => repeat (first | (with_reducible first | exact HB.out | apply below_alloc | apply pw_below_drewN | apply below_drew1) | exact HB.out)); (case side2 => exact Kd.R_tight rfl HO0.out); (case side3 => exact Kd.C_kept_call HR2.out (by repeat (first | (with_reducible first | exact HK.out | apply Kept.alloc | apply Kept.drewN | apply Kept.drew) | exact HK.out)) (fun k_ hs_ => (fun e_ => (HO0.out.1 k_ e_.symm)) hs_)); (case side4 => exact HC2.out); rintro e w7 ⟨v150, rfl, ho0, hb, hkp⟩; refine ⟨_, rfl, ?_⟩; have n0_ := Aside0.mk (Kd.R_mono (ok' := fun k_ => (P0_ k_ ∨ w.heap.size ≤ k_)) ho0 (fun k_ hk_ => Or.elim hk_ (fun hs_ => (HO0.out.1 k_ (hs_).symm)) (fun hn_ => (.inr (Nat.le_trans (by first | exact HK.out.1 | exact (show Kept w _ (fun k_ => P0_ k_) from by repeat (first | (with_reducible first | exact HK.out | apply Kept.alloc | apply Kept.drewN | apply Kept.drew) | exact HK.out)).1) hn_))))); have n1_ := Aside0.mk (Kept.then_ (S := (fun k_ => P0_ k_)) (by repeat (first | (with_reducible first | exact HK.out | apply Kept.alloc | apply Kept.drewN | apply Kept.drew) | exact HK.out)) hkp (fun k_ hs_ => (fun e_ => (HO0.out.1 k_ e_.symm)) hs_)); have n2_ := Aside0.mk (hb); clear HK; clear HB; clear HO0; have HO151 := n0_; have HK := n1_; have HB := n2_; clear n0_ n1_ n2_; (try clear hb); (try clear hkp); (try clear ho0)))
    go_ret
    exact ⟨_, by first | rfl | (simp [errW_none, errW_some] <;> rfl) | (simp [*, errW_none, errW_some] <;> rfl), by (with_reducible repeat (first | apply Kd.R_alloc | apply Kd.R_drewN | apply Kd.R_drew)); exact HO151.out, by repeat (first | (with_reducible first | exact HB.out | apply below_alloc | apply pw_below_drewN | apply below_drew1) | exact HB.out), by repeat (first | (with_reducible first | exact HK.out | apply Kept.alloc | apply Kept.drewN | apply Kept.drew) | exact HK.out)⟩

-- NOT PRINTED: function 34 (comettypes_CanonicalBlockID_Marshal)

/-! ### comettypes_Time_Unix: function 41 -/
def comettypes_Time_Unix.f (a0_0 : Int) (a0_1 : Int) : Option (Int) := some (wrap64 (a0_0 - 62135596800))
set_option maxHeartbeats 8000000 in
set_option maxRecDepth 100000 in
theorem comettypes_Time_Unix.calls (a0_0 : Int) (a0_1 : Int) (r : Int) (w : World) (h : comettypes_Time_Unix.f a0_0 a0_1 = some r) :
    Calls Try.prog 41 #[.agg #[.int .i64 a0_0, .int .i32 a0_1]] w fun e w' => e = .returned (.int .i64 r) ∧ Below w.heap.size w w' := by
  have hu61 := Try.underlying61
  have HB := Aside0.mk (Below.refl w.heap.size w)
  have H : (some (wrap64 (a0_0 - 62135596800))) = some r := h
  clear h
  obtain rfl := Option.some.inj H
  go_enter Try.func41, Try.ntmps41
  go_wp2_with (first | ((with_reducible refine gate_dst (N := 1) rfl ?_); refine box_event ?hg (N := 1) ?hd (cs := #[.int .i64 a0_0, .int .i32 a0_1]) (t := 61) ?hr ?_; (case hd => rfl); (case hg => rfl); (case hr => first | (go_simp; done) | (go_simp; rfl)); intro gb164 hg w2 hbox hb; have n0_ := Aside0.mk (below_step (by repeat (first | (with_reducible first | exact HB.out | apply below_alloc | apply pw_below_drewN | apply below_drew1) | exact HB.out)) hb); have n1_ := Aside0.mk (hbox); have n2_ := Aside0.mk ((by rw [hg]; exact (below_size (by repeat (first | (with_reducible first | exact HB.out | apply below_alloc | apply pw_below_drewN | apply below_drew1) | exact HB.out))) : w.heap.size ≤ gb164)); have n3_ := Aside0.mk ((by rw [hg]; exact (below_size (by repeat (first | (with_reducible first | exact HB.out | apply below_alloc | apply pw_below_drewN | apply below_drew1) | exact HB.out))) : w.heap.size ≤ gb164)); clear HB; have HB := n0_; have BK164 := n1_; have GW164 := n2_; have GE164 := n3_; clear n0_ n1_ n2_ n3_; clear hb hbox hg; have hcz3_0 : w2.cell? ⟨gb164, 0, none⟩ = some (.int .i64 a0_0) := (blk_cell BK164.out 0).trans rfl; have hcz3_1 : w2.cell? ⟨gb164, 1, none⟩ = some (.int .i32 a0_1) := (blk_cell BK164.out 1).trans rfl; have hfz3_0 := blk_frozen BK164.out 0; have hfz3_1 := blk_frozen BK164.out 1))
  go_ret
  exact ⟨by first | rfl | (simp [errW_none, errW_some] <;> rfl) | (simp [*, errW_none, errW_some] <;> rfl), by repeat (first | (with_reducible first | exact HB.out | apply below_alloc | apply pw_below_drewN | apply below_drew1 | refine below_set ?_ GE164.out) | exact HB.out)⟩

/-! ### comettypes_Time_Marshal: function 35 -/
def comettypes_Time_Marshal.f (k : Nat) (a0_0 : Int) (a0_1 : Int) : Option (List Int) := (comettypes_Time_Unix.f a0_0 a0_1).bind fun t166 => ((comettypes_putNumber.f k ([] : List Int) 1 (IntKind.u64.wrap (t166))).bind fun t167 => ((comettypes_putNumber.f k t167 2 (IntKind.u64.wrap (wrap64 (a0_1)))).bind fun t170 => (some t170)))
theorem comettypes_Time_Marshal.mono : ∀ a0 a1 k, LeO (comettypes_Time_Marshal.f k a0 a1) (comettypes_Time_Marshal.f (k + 1) a0 a1) := by
  intro a0 a1 k
  unfold comettypes_Time_Marshal.f
  repeat' first
      | (with_reducible exact comettypes_putNumber.mono _ _ _ _)
      | (with_reducible exact LeO.refl _)
      | (with_reducible exact LeO.none _)
      | (with_reducible refine LeO.ite ?_ ?_)
      | (with_reducible refine LeO.bind ?_ (fun _ => ?_))
      | exact comettypes_putNumber.mono _ _ _ _
      | exact LeO.none _
      | refine LeO.ite ?_ ?_
      | refine LeO.bind ?_ (fun _ => ?_)
def comettypes_Time_Marshal.T1 : Bool × List (List Nat × List Nat) := (true, [([], []), ([0], [0]), ([1], [1]), ([2, 1], [2]), ([], []), ([4], [4]), ([5], [5]), ([6], [6]), ([3, 7, 3], [3, 7]), ([8, 8, 0, 1, 2, 3, 4, 5, 6, 7, 8], [8])])
def comettypes_Time_Marshal.B1 : List Nat := [0, 1, 3, 7, 0, 16, 48, 112, 255, 511]
theorem comettypes_Time_Marshal.tab1 : rtab .any (opsOf Try.f35 1) = comettypes_Time_Marshal.T1 := by kernel_rfl
theorem comettypes_Time_Marshal.bits1 : waitsOk comettypes_Time_Marshal.T1.2 comettypes_Time_Marshal.B1 = true := by kernel_rfl
set_option maxHeartbeats 8000000 in
set_option maxRecDepth 100000 in
theorem comettypes_Time_Marshal.calls (k : Nat) (a0_0 : Int) (a0_1 : Int) (r : List Int) (w : World) (h : comettypes_Time_Marshal.f k a0_0 a0_1 = some r) :
    Calls Try.prog 35 #[.agg #[.int .i64 a0_0, .int .i32 a0_1]] w fun e w' => ∃ v0_ : Value, e = .returned (v0_) ∧ Kd.R (Kd.int .u8) 5 w' w.heap.size (fun _ => True) v0_ r ∧ Below w.heap.size w w' := by
  have hu61 := Try.underlying61
  have HB := Aside0.mk (Below.refl w.heap.size w)
  have H : ((comettypes_Time_Unix.f a0_0 a0_1).bind fun t166 => ((comettypes_putNumber.f k ([] : List Int) 1 (IntKind.u64.wrap (t166))).bind fun t167 => ((comettypes_putNumber.f k t167 2 (IntKind.u64.wrap (wrap64 (a0_1)))).bind fun t170 => (some t170)))) = some r := h
  clear h
  replace H := Option.bind_eq_some_iff.mp H
  obtain ⟨t166, A20, H⟩ := H
  replace H : ((comettypes_putNumber.f k ([] : List Int) 1 (IntKind.u64.wrap (t166))).bind fun t167 => ((comettypes_putNumber.f k t167 2 (IntKind.u64.wrap (wrap64 (a0_1)))).bind fun t170 => (some t170))) = some r := H
  have A2 := Aside0.mk A20
  clear A20
  replace H := Option.bind_eq_some_iff.mp H
  obtain ⟨t167, A30, H⟩ := H
  replace H : ((comettypes_putNumber.f k t167 2 (IntKind.u64.wrap (wrap64 (a0_1)))).bind fun t170 => (some t170)) = some r := H
  have A3 := Aside0.mk A30
  clear A30
  replace H := Option.bind_eq_some_iff.mp H
  obtain ⟨t170, A40, H⟩ := H
  replace H : (some t170) = some r := H
  have A4 := Aside0.mk A40
  clear A40
  obtain rfl := Option.some.inj H
  go_enter Try.func35, Try.ntmps35
  try go_wp2_with (first | ((with_reducible refine gate_dst (N := 1) rfl ?_); refine box_event ?hg (N := 1) ?hd (cs := #[.int .i64 a0_0, .int .i32 a0_1]) (t := 61) ?hr ?_; (case hd => rfl); (case hg => rfl); (case hr => first | (go_simp; done) | (go_simp; rfl)); intro gb165 hg w5 hbox hb; have n0_ := Aside0.mk (below_step (by repeat (first | (with_reducible first | exact HB.out | apply below_alloc | apply pw_below_drewN | apply below_drew1) | exact HB.out)) hb); have n1_ := Aside0.mk (hbox); have n2_ := Aside0.mk ((by rw [hg]; exact (below_size (by repeat (first | (with_reducible first | exact HB.out | apply below_alloc | apply pw_below_drewN | apply below_drew1) | exact HB.out))) : w.heap.size ≤ gb165)); have n3_ := Aside0.mk ((by rw [hg]; exact (below_size (by repeat (first | (with_reducible first | exact HB.out | apply below_alloc | apply pw_below_drewN | apply below_drew1) | exact HB.out))) : w.heap.size ≤ gb165)); clear HB; have HB := n0_; have BK165 := n1_; have GW165 := n2_; have GE165 := n3_; clear n0_ n1_ n2_ n3_; clear hb hbox hg))
  have n0_ := Aside0.mk (blk_drew BK165.out)
  have n1_ := Aside0.mk (below_drew1 HB.out)
  clear BK165
  clear HB
  have BK165 := n0_
  have HB := n1_
  clear n0_ n1_
  refine start_ (n := 10) (S := fun w' => w'.cell? ⟨gb165, 0, none⟩ = some (.int .i64 a0_0) ∧ w'.cell? ⟨gb165, 1, none⟩ = some (.int .i32 a0_1)) (ds := []) #[false, false, false, false, false, false, false, false, false, false] (by kernel_rfl) rfl rfl ⟨(blk_cell BK165.out 0).trans rfl, (blk_cell BK165.out 1).trans rfl⟩ (fun hHeld => ?_); refine with_tabW comettypes_Time_Marshal.tab1 comettypes_Time_Marshal.bits1 (fun HT_ HW_ => ?_)
  generalize w5.drew = w6 at BK165 HB hHeld ⊢
  refine pure_ (i := 4) (N := some 7) (v := ?_) (a' := ?_) #[false, false, false, false, true, false, false, false, false, false] rfl rfl (any_of HT_.out (by kernel_rfl)) (fun _ _ _ h => h) (Or.inl ⟨by rfl, ?_⟩) ?_ ?_
  rotate_left
  · intro w'
    go_simp
    with_reducible rfl
  rotate_left
  · simp only [Act.put, List.setIfInBounds_toArray, List.set_cons_zero, List.set_cons_succ, i64_w, i32_w]
    rfl
  refine take_ (i := 0) (N := some 3) (v := ?_) (a' := ?_) #[true, false, false, false, true, false, false, false, false, false] rfl rfl (take_ofW HT_.out HW_.out (by kernel_rfl)) (fun _ _ _ h => h) (Or.inl ⟨by rfl, ?_⟩) hHeld ?_ ?_
  rotate_left
  · rintro w' ⟨s0, s1⟩
    go_simp
    with_reducible rfl
  rotate_left
  · simp only [Act.put, List.setIfInBounds_toArray, List.set_cons_zero, List.set_cons_succ, i64_w, i32_w]
    rfl
  refine take_ (i := 5) (N := some 8) (v := ?_) (a' := ?_) #[true, false, false, false, true, true, false, false, false, false] rfl rfl (take_ofW HT_.out HW_.out (by kernel_rfl)) (fun _ _ _ h => h) (Or.inl ⟨by rfl, ?_⟩) hHeld ?_ ?_
  rotate_left
  · rintro w' ⟨s0, s1⟩
    go_simp
    with_reducible rfl
  rotate_left
  · simp only [Act.put, List.setIfInBounds_toArray, List.set_cons_zero, List.set_cons_succ, i64_w, i32_w]
    rfl
  refine pure_ (i := 6) (N := some 9) (v := ?_) (a' := ?_) #[true, false, false, false, true, true, true, false, false, false] rfl rfl (any_of HT_.out (by kernel_rfl)) (fun _ _ _ h => h) (Or.inl ⟨by rfl, ?_⟩) ?_ ?_
  rotate_left
  · intro w'
    go_simp
    with_reducible rfl
  rotate_left
  · simp only [Act.put, List.setIfInBounds_toArray, List.set_cons_zero, List.set_cons_succ, i64_w, i32_w]
    rfl
  refine pure_ (i := 7) (N := some 10) (v := ?_) (a' := ?_) #[true, false, false, false, true, true, true, true, false, false] rfl rfl (any_of HT_.out (by kernel_rfl)) (fun _ _ _ h => h) (Or.inl ⟨by rfl, ?_⟩) ?_ ?_
  rotate_left
  · intro w'
    go_simp
    with_reducible rfl
  rotate_left
  · simp only [Act.put, List.setIfInBounds_toArray, List.set_cons_zero, List.set_cons_succ, i64_w, i32_w]
    rfl
  refine one_ (i := 1) (N := some 4) #[true, true, false, false, true, true, true, true, false, false] rfl rfl (one_of HT_.out (by kernel_rfl)) (by decide) (fun K hK => ?_)
  refine goes_ Try.func41 (by kernel_rfl) rfl #[.agg #[.int .i64 a0_0, .int .i32 a0_1]] (by rfl) rfl rfl (by (try simp only [List.map_toArray, List.map_cons, List.map_nil]); first | done | rfl | (simp only [List.length_drop, List.length_take]; rfl)) ?_
  with_reducible refine (comettypes_Time_Unix.calls a0_0 a0_1 t166 _ A2.out).mono ?_
  rintro e w7 ⟨rfl, hb⟩
  refine ⟨_, rfl, ?_⟩
  have n0_ := Aside0.mk (blk_below (g := gb165) (o := .cells #[.int .i64 a0_0, .int .i32 a0_1] 61 (0, 0)) (by (with_reducible repeat (first | refine blk_drewN ?_ _ | refine blk_drew ?_ | refine blk_alloc ?_ _)); exact BK165.out) hb)
  have n1_ := Aside0.mk (below_step (by repeat (first | (with_reducible first | exact HB.out | apply below_alloc | apply pw_below_drewN | apply below_drew1 | refine below_set ?_ GE165.out) | exact HB.out)) hb)
  clear BK165
  clear HB
  have BK165 := n0_
  have HB := n1_
  clear n0_ n1_
  (try clear hb)
  (try clear hb2)
  (try clear hk)
  (try clear hi)
  refine hK.out _ _ ⟨(blk_cell BK165.out 0).trans rfl, (blk_cell BK165.out 1).trans rfl⟩ (fun hHeld => ?_)
  clear hK K
  refine norm_ (a' := ?_) ?_ ?_
  rotate_left
  · show Act.put _ (some 4) _ = _
    simp only [Act.put, List.setIfInBounds_toArray, List.set_cons_zero, List.set_cons_succ, i64_w, i32_w]
    rfl
  refine pure_ (i := 2) (N := some 5) (v := ?_) (a' := ?_) #[true, true, true, false, true, true, true, true, false, false] rfl rfl (any_of HT_.out (by kernel_rfl)) (fun _ _ _ h => h) (Or.inl ⟨by rfl, ?_⟩) ?_ ?_
  rotate_left
  · intro w'
    go_simp
    with_reducible rfl
  rotate_left
  · simp only [Act.put, List.setIfInBounds_toArray, List.set_cons_zero, List.set_cons_succ, i64_w, i32_w]
    rfl
  refine one_ (i := 3) (N := some 6) #[true, true, true, true, true, true, true, true, false, false] rfl rfl (one_of HT_.out (by kernel_rfl)) (by decide) (fun K hK => ?_)
  refine goes_ Try.func31 (by kernel_rfl) rfl #[.slice none 0 0, .int .i64 1, .int .u64 (IntKind.u64.wrap (t166))] (by rfl) rfl rfl (by (try simp only [List.map_toArray, List.map_cons, List.map_nil]); first | done | rfl | (simp only [List.length_drop, List.length_take]; rfl)) ?_
  refine (comettypes_putNumber.calls k (fun k_ => some k_ = (.slice none 0 0 : Value).ownBlock) (.slice none 0 0) ([] : List Int) 1 (IntKind.u64.wrap (t166)) t167 w _ ?side1 ?side2 A3.out).mono ?_
  (case side1 => repeat (first | (with_reducible first | exact HB.out | apply below_alloc | apply pw_below_drewN | apply below_drew1 | refine below_set ?_ GE165.out) | exact HB.out))
  (case side2 => exact Kd.R_nil _ _ _ _ _)
  rintro e w8 ⟨v168, rfl, ho0, hb, hkp⟩
  refine ⟨_, rfl, ?_⟩
  have n0_ := Aside0.mk (blk_kept (by (with_reducible repeat (first | refine blk_drewN ?_ _ | refine blk_drew ?_ | refine blk_alloc ?_ _)); exact BK165.out) hkp (fun hs_ => (fun e_ => by simp [Value.ownBlock] at e_) hs_))
  have n1_ := Aside0.mk (Kd.R_mono (ok' := fun k_ => True) ho0 (fun k_ hk_ => trivial))
  have n2_ := Aside0.mk (hb)
  clear BK165
  clear HB
  have BK165 := n0_
  have HO169 := n1_
  have HB := n2_
  clear n0_ n1_ n2_
  (try clear hb)
  (try clear hkp)
  (try clear ho0)
  obtain ⟨Ao9, co9, eo9⟩ := Kd.R_slice HO169.out
  (first | subst eo9 | (injection eo9 with f1_ f2_ f3_; have f4_ := f1_.symm; have f5_ := f3_.symm; clear f1_ f2_ f3_; subst f4_; subst f5_))
  refine hK.out _ _ ⟨(blk_cell BK165.out 0).trans rfl, (blk_cell BK165.out 1).trans rfl⟩ (fun hHeld => ?_)
  clear hK K
  refine norm_ (a' := ?_) ?_ ?_
  rotate_left
  · show Act.put _ (some 6) _ = _
    simp only [Act.put, List.setIfInBounds_toArray, List.set_cons_zero, List.set_cons_succ, i64_w, i32_w]
    rfl
  refine one_ (i := 8) (N := some 11) #[true, true, true, true, true, true, true, true, true, false] rfl rfl (one_of HT_.out (by kernel_rfl)) (by decide) (fun K hK => ?_)
  refine goes_ Try.func31 (by kernel_rfl) rfl #[.slice Ao9 t167.length co9, .int .i64 2, .int .u64 (IntKind.u64.wrap (wrap64 (a0_1)))] (by rfl) rfl rfl (by (try simp only [List.map_toArray, List.map_cons, List.map_nil]); first | done | rfl | (simp only [List.length_drop, List.length_take]; rfl)) ?_
  with_reducible refine (comettypes_putNumber.calls k (fun k_ => some k_ = (.slice Ao9 t167.length co9 : Value).ownBlock) (.slice Ao9 t167.length co9) t167 2 (IntKind.u64.wrap (wrap64 (a0_1))) t170 w _ ?side1 ?side2 A4.out).mono ?_
  (case side1 => repeat (first | (with_reducible first | exact HB.out | apply below_alloc | apply pw_below_drewN | apply below_drew1 | refine below_set ?_ GE165.out) | exact HB.out))
  (case side2 => exact Kd.R_tight rfl HO169.out)
  rintro e w10 ⟨v171, rfl, ho0, hb, hkp⟩
  refine ⟨_, rfl, ?_⟩
  have n0_ := Aside0.mk (blk_kept (by (with_reducible repeat (first | refine blk_drewN ?_ _ | refine blk_drew ?_ | refine blk_alloc ?_ _)); exact BK165.out) hkp (fun hs_ => (fun e_ => (Kd.R_ne HO169.out BK165.out (by decide)) e_) hs_))
  have n1_ := Aside0.mk (Kd.R_mono (ok' := fun k_ => True) ho0 (fun k_ hk_ => trivial))
  have n2_ := Aside0.mk (hb)
  clear BK165
  clear HB
  clear HO169
  have BK165 := n0_
  have HO172 := n1_
  have HB := n2_
  clear n0_ n1_ n2_
  (try clear hb)
  (try clear hkp)
  (try clear ho0)
  refine hK.out _ _ ⟨(blk_cell BK165.out 0).trans rfl, (blk_cell BK165.out 1).trans rfl⟩ (fun hHeld => ?_)
  clear hK K
  refine norm_ (a' := ?_) ?_ ?_
  rotate_left
  · show Act.put _ (some 11) _ = _
    simp only [Act.put, List.setIfInBounds_toArray, List.set_cons_zero, List.set_cons_succ, i64_w, i32_w]
    rfl
  refine pure_ (i := 9) (N := some 2) (v := ?_) (a' := ?_) #[true, true, true, true, true, true, true, true, true, true] rfl rfl (any_of HT_.out (by kernel_rfl)) (fun _ _ _ h => h) (Or.inl ⟨by rfl, ?_⟩) ?_ ?_
  rotate_left
  · intro w'
    go_simp
    with_reducible rfl
  rotate_left
  · simp only [Act.put, List.setIfInBounds_toArray, List.set_cons_zero, List.set_cons_succ, i64_w, i32_w]
    rfl
  refine done_ (done_of HT_.out (by kernel_rfl)) ?_
  try go_wp2
  go_ret
  exact ⟨_, by first | rfl | (simp [errW_none, errW_some] <;> rfl) | (simp [*, errW_none, errW_some] <;> rfl), by (with_reducible repeat (first | apply Kd.R_alloc | apply Kd.R_drewN | apply Kd.R_drew)); exact HO172.out, by repeat (first | (with_reducible first | exact HB.out | apply below_alloc | apply pw_below_drewN | apply below_drew1 | refine below_set ?_ GE165.out) | exact HB.out)⟩

-- NOT PRINTED: function 26 (comettypes_CanonicalVote_Marshal)

-- NOT PRINTED: function 10 (comettypes_VoteSignBytes)

/-! ### impl_block: function 27 -/
def impl_block.f (l0_0 : List Int) (a0_1 : Int) (l0_2 : List Int) : Option (List Int × Int × List Int) := some (l0_0, (a0_1) % 4294967296, l0_2)
set_option maxHeartbeats 8000000 in
set_option maxRecDepth 100000 in
theorem impl_block.calls (P0_0_ : Nat → Prop) (u9000_ : Value) (l0_0 : List Int) (a0_1 : Int) (P0_2_ : Nat → Prop) (u9001_ : Value) (l0_2 : List Int) (r1 : List Int) (r2 : Int) (r3 : List Int) (w0 w : World) (hB : Below w0.heap.size w0 w) (ho0_0 : Kd.R (Kd.int .u8) 5 w w0.heap.size P0_0_ u9000_ l0_0) (hp0_0_0_2 : ∀ k_, P0_0_ k_ → ¬ P0_2_ k_) (ho0_2 : Kd.R (Kd.int .u8) 5 w w0.heap.size P0_2_ u9001_ l0_2) (hp0_2_0_0 : ∀ k_, P0_2_ k_ → ¬ P0_0_ k_) (h : impl_block.f l0_0 a0_1 l0_2 = some (r1, r2, r3)) :
    Calls Try.prog 27 #[.agg #[u9000_, .int .i64 a0_1, u9001_]] w fun e w' => ∃ v0_ v2_ : Value, e = .returned (.agg #[v0_, .int .u32 r2, v2_]) ∧ Kd.R (Kd.int .u8) 5 w' w0.heap.size (fun k_ => ((P0_0_ k_ ∨ P0_2_ k_) ∨ w.heap.size ≤ k_) ∧ some k_ ≠ (v2_ : Value).ownBlock) v0_ r1 ∧ Kd.R (Kd.int .u8) 5 w' w0.heap.size (fun k_ => ((P0_0_ k_ ∨ P0_2_ k_) ∨ w.heap.size ≤ k_) ∧ some k_ ≠ (v0_ : Value).ownBlock) v2_ r3 ∧ Below w0.heap.size w0 w' ∧ Kept w w' (fun k_ => P0_0_ k_ ∨ P0_2_ k_) := by
  have hu27 := Try.underlying27
  have hu69 := Try.underlying69
  have hu67 := Try.underlying67
  have HO0_0 := Aside0.mk (show Kd.R (Kd.int .u8) 5 w w0.heap.size (fun k_ => ((P0_0_ k_ ∨ P0_2_ k_) ∨ w.heap.size ≤ k_) ∧ some k_ ≠ (u9001_ : Value).ownBlock) u9000_ l0_0 from Kd.R_mono ho0_0 (fun k_ hk => ⟨(.inl (.inl hk)), fun e_ => hp0_0_0_2 k_ hk (ho0_2.1 k_ e_.symm)⟩))
  have HO0_2 := Aside0.mk (show Kd.R (Kd.int .u8) 5 w w0.heap.size (fun k_ => ((P0_0_ k_ ∨ P0_2_ k_) ∨ w.heap.size ≤ k_) ∧ some k_ ≠ (u9000_ : Value).ownBlock) u9001_ l0_2 from Kd.R_mono ho0_2 (fun k_ hk => ⟨(.inl (.inr hk)), fun e_ => hp0_2_0_0 k_ hk (ho0_0.1 k_ e_.symm)⟩))
  have HK := Aside0.mk (Kept.refl w (fun k_ => P0_0_ k_ ∨ P0_2_ k_))
  have HW0 := Aside0.mk hB.size
  have HB := Aside0.mk hB
  clear hB
  have H : (some (l0_0, (a0_1) % 4294967296, l0_2)) = some (r1, r2, r3) := h
  clear h
  simp only [Option.some.injEq, Prod.mk.injEq] at H
  obtain ⟨rfl, rfl, rfl⟩ := H
  obtain ⟨Ao2, co2, eo2⟩ := Kd.R_slice HO0_0.out
  subst eo2
  obtain ⟨Ao3, co3, eo3⟩ := Kd.R_slice HO0_2.out
  subst eo3
  go_enter Try.func27, Try.ntmps27
  go_wp2_with (first | ((with_reducible refine gate_dst (N := 1) rfl ?_); refine box_event ?hg (N := 1) ?hd (cs := #[.slice Ao2 l0_0.length co2, .int .i64 a0_1, .slice Ao3 l0_2.length co3]) (t := 27) ?hr ?_; (case hd => rfl); (case hg => rfl); (case hr => first | (go_simp; done) | (go_simp; rfl)); intro gb173 hg w4 hbox hb; have n0_ := Aside0.mk (Kd.R_below (by (with_reducible repeat (first | apply Kd.R_alloc | apply Kd.R_drewN | apply Kd.R_drew)); exact HO0_0.out) hb); have n1_ := Aside0.mk (Kd.R_below (by (with_reducible repeat (first | apply Kd.R_alloc | apply Kd.R_drewN | apply Kd.R_drew)); exact HO0_2.out) hb); have n2_ := Aside0.mk (Kept.below (S := (fun k_ => P0_0_ k_ ∨ P0_2_ k_)) (by repeat (first | (with_reducible first | exact HK.out | apply Kept.alloc | apply Kept.drewN | apply Kept.drew) | exact HK.out)) hb); have n3_ := Aside0.mk (below_step (by repeat (first | (with_reducible first | exact HB.out | apply below_alloc | apply pw_below_drewN | apply below_drew1) | exact HB.out)) hb); have n4_ := Aside0.mk (hbox); have n5_ := Aside0.mk ((by rw [hg]; exact (by first | exact HK.out.1 | exact (show Kept w _ (fun k_ => P0_0_ k_ ∨ P0_2_ k_) from by repeat (first | (with_reducible first | exact HK.out | apply Kept.alloc | apply Kept.drewN | apply Kept.drew) | exact HK.out)).1) : w.heap.size ≤ gb173)); have n6_ := Aside0.mk ((by rw [hg]; exact (below_size (by repeat (first | (with_reducible first | exact HB.out | apply below_alloc | apply pw_below_drewN | apply below_drew1) | exact HB.out))) : w0.heap.size ≤ gb173)); clear HO0_0; clear HO0_2; clear HK; clear HB; have HO0_0 := n0_; have HO0_2 := n1_; have HK := n2_; have HB := n3_; have BK173 := n4_; have GW173 := n5_; have GE173 := n6_; clear n0_ n1_ n2_ n3_ n4_ n5_ n6_; clear hb hbox hg) | ((with_reducible refine gate_dst (N := 2) rfl ?_); refine box_event ?hg (N := 2) ?hd (cs := #[.slice none 0 0, .int .u32 0, .slice none 0 0]) (t := 69) ?hr ?_; (case hd => rfl); (case hg => rfl); (case hr => first | (go_simp; done) | (go_simp; rfl)); intro gb174 hg w5 hbox hb; have n0_ := Aside0.mk (Kd.R_below (by (with_reducible repeat (first | apply Kd.R_alloc | apply Kd.R_drewN | apply Kd.R_drew)); exact HO0_0.out) hb); have n1_ := Aside0.mk (Kd.R_below (by (with_reducible repeat (first | apply Kd.R_alloc | apply Kd.R_drewN | apply Kd.R_drew)); exact HO0_2.out) hb); have n2_ := Aside0.mk (blk_below (g := gb173) (o := .cells #[.slice Ao2 l0_0.length co2, .int .i64 a0_1, .slice Ao3 l0_2.length co3] 27 (0, 0)) (by (with_reducible repeat (first | refine blk_drewN ?_ _ | refine blk_drew ?_ | refine blk_alloc ?_ _)); exact BK173.out) hb); have n3_ := Aside0.mk (Kept.below (S := (fun k_ => P0_0_ k_ ∨ P0_2_ k_)) (by repeat (first | (with_reducible first | exact HK.out | apply Kept.alloc | apply Kept.drewN | apply Kept.drew | refine Kept.setCell ?_ (.inr GW173.out) _) | exact HK.out)) hb); have n4_ := Aside0.mk (below_step (by repeat (first | (with_reducible first | exact HB.out | apply below_alloc | apply pw_below_drewN | apply below_drew1 | refine below_set ?_ GE173.out) | exact HB.out)) hb); have n5_ := Aside0.mk (hbox); have n6_ := Aside0.mk ((by rw [hg]; exact (by first | exact HK.out.1 | exact (show Kept w _ (fun k_ => P0_0_ k_ ∨ P0_2_ k_) from by repeat (first | (with_reducible first | exact HK.out | apply Kept.alloc | apply Kept.drewN | apply Kept.drew | refine Kept.setCell ?_ (.inr GW173.out) _) | exact HK.out)).1) : w.heap.size ≤ gb174)); have n7_ := Aside0.mk ((by rw [hg]; exact (below_size (by repeat (first | (with_reducible first | exact HB.out | apply below_alloc | apply pw_below_drewN | apply below_drew1 | refine below_set ?_ GE173.out) | exact HB.out))) : w0.heap.size ≤ gb174)); have n8_ := Aside0.mk ((by rw [hg]; exact Nat.ne_of_lt (blk_lt (g := gb173) (o := .cells #[.slice Ao2 l0_0.length co2, .int .i64 a0_1, .slice Ao3 l0_2.length co3] 27 (0, 0)) (by (with_reducible repeat (first | refine blk_drewN ?_ _ | refine blk_drew ?_ | refine blk_alloc ?_ _)); exact BK173.out)) : gb173 ≠ gb174)); have n9_ := Aside0.mk ((by rw [hg]; exact Nat.ne_of_gt (blk_lt (g := gb173) (o := .cells #[.slice Ao2 l0_0.length co2, .int .i64 a0_1, .slice Ao3 l0_2.length co3] 27 (0, 0)) (by (with_reducible repeat (first | refine blk_drewN ?_ _ | refine blk_drew ?_ | refine blk_alloc ?_ _)); exact BK173.out)) : gb174 ≠ gb173)); clear HO0_0; clear HO0_2; clear BK173; clear HK; clear HB; have HO0_0 := n0_; have HO0_2 := n1_; have BK173 := n2_; have HK := n3_; have HB := n4_; have BK174 := n5_; have GW174 := n6_; have GE174 := n7_; have NB173_174 := n8_; have NB174_173 := n9_; clear n0_ n1_ n2_ n3_ n4_ n5_ n6_ n7_ n8_ n9_; clear hb hbox hg; have hnb6 := NB173_174.out; have hnc6 := NB174_173.out; have hcz7_0 : w5.cell? ⟨gb173, 0, none⟩ = some (.slice Ao2 l0_0.length co2) := (blk_cell BK173.out 0).trans rfl; have hcz7_1 : w5.cell? ⟨gb173, 1, none⟩ = some (.int .i64 a0_1) := (blk_cell BK173.out 1).trans rfl; have hcz7_2 : w5.cell? ⟨gb173, 2, none⟩ = some (.slice Ao3 l0_2.length co3) := (blk_cell BK173.out 2).trans rfl; have hfz7_0 := blk_frozen BK173.out 0; have hfz7_1 := blk_frozen BK173.out 1; have hfz7_2 := blk_frozen BK173.out 2; have hcz8_0 : w5.cell? ⟨gb174, 0, none⟩ = some (.slice none 0 0) := (blk_cell BK174.out 0).trans rfl; have hcz8_1 : w5.cell? ⟨gb174, 1, none⟩ = some (.int .u32 0) := (blk_cell BK174.out 1).trans rfl; have hcz8_2 : w5.cell? ⟨gb174, 2, none⟩ = some (.slice none 0 0) := (blk_cell BK174.out 2).trans rfl; have hfz8_0 := blk_frozen BK174.out 0; have hfz8_1 := blk_frozen BK174.out 1; have hfz8_2 := blk_frozen BK174.out 2))
  refine bodyPost_ret (results_cell_row rfl _ _ gb174 69 #[.slice Ao2 l0_0.length co2, .int .u32 ((a0_1) % 4294967296), .slice Ao3 l0_2.length co3] (0, 0) _ rfl (by (with_reducible repeat (first | refine blk_drewN ?_ _ | refine blk_drew ?_ | refine blk_alloc ?_ _)); refine blk_put (cs := #[.slice Ao2 l0_0.length co2, .int .u32 ((a0_1) % 4294967296), .slice none 0 0]) ?_ 2 _ rfl; (with_reducible repeat (first | refine blk_drewN ?_ _ | refine blk_drew ?_ | refine blk_alloc ?_ _)); refine blk_put (cs := #[.slice Ao2 l0_0.length co2, .int .u32 0, .slice none 0 0]) ?_ 1 _ rfl; (with_reducible repeat (first | refine blk_drewN ?_ _ | refine blk_drew ?_ | refine blk_alloc ?_ _)); refine blk_put (cs := #[.slice none 0 0, .int .u32 0, .slice none 0 0]) ?_ 0 _ rfl; (with_reducible repeat (first | refine blk_drewN ?_ _ | refine blk_drew ?_ | refine blk_alloc ?_ _)); exact BK174.out) Try.underlying69 rfl (by kernel_rfl)) rfl ?_
  exact ⟨_, _, by first | rfl | (simp [errW_none, errW_some] <;> rfl) | (simp [*, errW_none, errW_some] <;> rfl), by (with_reducible repeat (first | apply Kd.R_alloc | apply Kd.R_drewN | apply Kd.R_drew)); exact Kd.R_mono (Kd.R_far (p := ⟨gb174, 2, none⟩) (Kd.R_far (p := ⟨gb174, 1, none⟩) (Kd.R_far (p := ⟨gb174, 0, none⟩) (Kd.R_types HO0_0.out BK174.out (by decide)) (fun _ hk => hk.2) (.slice Ao2 l0_0.length co2)) (fun _ hk => hk.2) (.int .u32 ((a0_1) % 4294967296))) (fun _ hk => hk.2) (.slice Ao3 l0_2.length co3)) (fun _ hk => ⟨hk.1.1, hk.1.2⟩), by (with_reducible repeat (first | apply Kd.R_alloc | apply Kd.R_drewN | apply Kd.R_drew)); exact Kd.R_mono (Kd.R_far (p := ⟨gb174, 2, none⟩) (Kd.R_far (p := ⟨gb174, 1, none⟩) (Kd.R_far (p := ⟨gb174, 0, none⟩) (Kd.R_types HO0_2.out BK174.out (by decide)) (fun _ hk => hk.2) (.slice Ao2 l0_0.length co2)) (fun _ hk => hk.2) (.int .u32 ((a0_1) % 4294967296))) (fun _ hk => hk.2) (.slice Ao3 l0_2.length co3)) (fun _ hk => ⟨hk.1.1, hk.1.2⟩), by repeat (first | (with_reducible first | exact HB.out | apply below_alloc | apply pw_below_drewN | apply below_drew1 | refine below_set ?_ GE173.out | refine below_set ?_ GE174.out) | exact HB.out), by repeat (first | (with_reducible first | exact HK.out | apply Kept.alloc | apply Kept.drewN | apply Kept.drew | refine Kept.setCell ?_ (.inr GW173.out) _ | refine Kept.setCell ?_ (.inr GW174.out) _) | exact HK.out)⟩

/-! ### comettypes_UnixTime: function 37 -/
def comettypes_UnixTime.f (a0 : Int) (a1 : Int) : Option (Int × Int) := some (wrap64 (a0 + 62135596800), a1)
set_option maxHeartbeats 8000000 in
set_option maxRecDepth 100000 in
theorem comettypes_UnixTime.calls (a0 : Int) (a1 : Int) (r1 : Int) (r2 : Int) (w : World) (h : comettypes_UnixTime.f a0 a1 = some (r1, r2)) :
    Calls Try.prog 37 #[.int .i64 a0, .int .i32 a1] w fun e w' => e = .returned (.agg #[.int .i64 r1, .int .i32 r2]) ∧ Below w.heap.size w w' := by
  have hu61 := Try.underlying61
  have HB := Aside0.mk (Below.refl w.heap.size w)
  have H : (some (wrap64 (a0 + 62135596800), a1)) = some (r1, r2) := h
  clear h
  simp only [Option.some.injEq, Prod.mk.injEq] at H
  obtain ⟨rfl, rfl⟩ := H
  go_enter Try.func37, Try.ntmps37
  go_wp2_with (first | ((with_reducible refine gate_dst (N := 4) rfl ?_); refine box_event ?hg (N := 4) ?hd (cs := #[.int .i64 0, .int .i32 0]) (t := 61) ?hr ?_; (case hd => rfl); (case hg => rfl); (case hr => first | (go_simp; done) | (go_simp; rfl)); intro gb175 hg w3 hbox hb; have n0_ := Aside0.mk (below_step (by repeat (first | (with_reducible first | exact HB.out | apply below_alloc | apply pw_below_drewN | apply below_drew1) | exact HB.out)) hb); have n1_ := Aside0.mk (hbox); have n2_ := Aside0.mk ((by rw [hg]; exact (below_size (by repeat (first | (with_reducible first | exact HB.out | apply below_alloc | apply pw_below_drewN | apply below_drew1) | exact HB.out))) : w.heap.size ≤ gb175)); have n3_ := Aside0.mk ((by rw [hg]; exact (below_size (by repeat (first | (with_reducible first | exact HB.out | apply below_alloc | apply pw_below_drewN | apply below_drew1) | exact HB.out))) : w.heap.size ≤ gb175)); clear HB; have HB := n0_; have BK175 := n1_; have GW175 := n2_; have GE175 := n3_; clear n0_ n1_ n2_ n3_; clear hb hbox hg; have hcz4_0 : w3.cell? ⟨gb175, 0, none⟩ = some (.int .i64 0) := (blk_cell BK175.out 0).trans rfl; have hcz4_1 : w3.cell? ⟨gb175, 1, none⟩ = some (.int .i32 0) := (blk_cell BK175.out 1).trans rfl; have hfz4_0 := blk_frozen BK175.out 0; have hfz4_1 := blk_frozen BK175.out 1))
  refine bodyPost_ret (results_cell_row rfl _ _ gb175 61 #[.int .i64 (wrap64 (a0 + 62135596800)), .int .i32 a1] (0, 0) _ rfl (by (with_reducible repeat (first | refine blk_drewN ?_ _ | refine blk_drew ?_ | refine blk_alloc ?_ _)); refine blk_put (cs := #[.int .i64 (wrap64 (a0 + 62135596800)), .int .i32 0]) ?_ 1 _ rfl; (with_reducible repeat (first | refine blk_drewN ?_ _ | refine blk_drew ?_ | refine blk_alloc ?_ _)); refine blk_put (cs := #[.int .i64 0, .int .i32 0]) ?_ 0 _ rfl; (with_reducible repeat (first | refine blk_drewN ?_ _ | refine blk_drew ?_ | refine blk_alloc ?_ _)); exact BK175.out) Try.underlying61 rfl (by kernel_rfl)) rfl ?_
  exact ⟨by first | rfl | (simp [errW_none, errW_some] <;> rfl) | (simp [*, errW_none, errW_some] <;> rfl), by repeat (first | (with_reducible first | exact HB.out | apply below_alloc | apply pw_below_drewN | apply below_drew1 | refine below_set ?_ GE175.out) | exact HB.out)⟩

/-! ### impl_moment: function 28 -/
def impl_moment.f (a0_0 : Int) (a0_1 : Int) : Option (Int × Int) := (comettypes_UnixTime.f a0_0 (wrap32 (a0_1))).bind fun bt178 => (some (bt178.1, bt178.2))
set_option maxHeartbeats 8000000 in
set_option maxRecDepth 100000 in
theorem impl_moment.calls (a0_0 : Int) (a0_1 : Int) (r1 : Int) (r2 : Int) (w : World) (h : impl_moment.f a0_0 a0_1 = some (r1, r2)) :
    Calls Try.prog 28 #[.agg #[.int .i64 a0_0, .int .i64 a0_1]] w fun e w' => e = .returned (.agg #[.int .i64 r1, .int .i32 r2]) ∧ Below w.heap.size w w' := by
  have hu23 := Try.underlying23
  have hu61 := Try.underlying61
  have HB := Aside0.mk (Below.refl w.heap.size w)
  have H : ((comettypes_UnixTime.f a0_0 (wrap32 (a0_1))).bind fun bt178 => (some (bt178.1, bt178.2))) = some (r1, r2) := h
  clear h
  replace H := Option.bind_eq_some_iff.mp H
  obtain ⟨⟨t178, t179⟩, A20, H⟩ := H
  replace H : (some (t178, t179)) = some (r1, r2) := H
  have A2 := Aside0.mk A20
  clear A20
  simp only [Option.some.injEq, Prod.mk.injEq] at H
  obtain ⟨rfl, rfl⟩ := H
  go_enter Try.func28, Try.ntmps28
  go_wp2_with (first | ((with_reducible refine gate_dst (N := 1) rfl ?_); refine box_event ?hg (N := 1) ?hd (cs := #[.int .i64 a0_0, .int .i64 a0_1]) (t := 23) ?hr ?_; (case hd => rfl); (case hg => rfl); (case hr => first | (go_simp; done) | (go_simp; rfl)); intro gb176 hg w3 hbox hb; have n0_ := Aside0.mk (below_step (by repeat (first | (with_reducible first | exact HB.out | apply below_alloc | apply pw_below_drewN | apply below_drew1) | exact HB.out)) hb); have n1_ := Aside0.mk (hbox); have n2_ := Aside0.mk ((by rw [hg]; exact (below_size (by repeat (first | (with_reducible first | exact HB.out | apply below_alloc | apply pw_below_drewN | apply below_drew1) | exact HB.out))) : w.heap.size ≤ gb176)); have n3_ := Aside0.mk ((by rw [hg]; exact (below_size (by repeat (first | (with_reducible first | exact HB.out | apply below_alloc | apply pw_below_drewN | apply below_drew1) | exact HB.out))) : w.heap.size ≤ gb176)); clear HB; have HB := n0_; have BK176 := n1_; have GW176 := n2_; have GE176 := n3_; clear n0_ n1_ n2_ n3_; clear hb hbox hg) | ((with_reducible refine gate_dst (N := 2) rfl ?_); refine box_event ?hg (N := 2) ?hd (cs := #[.int .i64 0, .int .i32 0]) (t := 61) ?hr ?_; (case hd => rfl); (case hg => rfl); (case hr => first | (go_simp; done) | (go_simp; rfl)); intro gb177 hg w4 hbox hb; have n0_ := Aside0.mk (blk_below (g := gb176) (o := .cells #[.int .i64 a0_0, .int .i64 a0_1] 23 (0, 0)) (by (with_reducible repeat (first | refine blk_drewN ?_ _ | refine blk_drew ?_ | refine blk_alloc ?_ _)); exact BK176.out) hb); have n1_ := Aside0.mk (below_step (by repeat (first | (with_reducible first | exact HB.out | apply below_alloc | apply pw_below_drewN | apply below_drew1 | refine below_set ?_ GE176.out) | exact HB.out)) hb); have n2_ := Aside0.mk (hbox); have n3_ := Aside0.mk ((by rw [hg]; exact (below_size (by repeat (first | (with_reducible first | exact HB.out | apply below_alloc | apply pw_below_drewN | apply below_drew1 | refine below_set ?_ GE176.out) | exact HB.out))) : w.heap.size ≤ gb177)); have n4_ := Aside0.mk ((by rw [hg]; exact (below_size (by repeat (first | (with_reducible first | exact HB.out | apply below_alloc | apply pw_below_drewN | apply below_drew1 | refine below_set ?_ GE176.out) | exact HB.out))) : w.heap.size ≤ gb177)); have n5_ := Aside0.mk ((by rw [hg]; exact Nat.ne_of_lt (blk_lt (g := gb176) (o := .cells #[.int .i64 a0_0, .int .i64 a0_1] 23 (0, 0)) (by (with_reducible repeat (first | refine blk_drewN ?_ _ | refine blk_drew ?_ | refine blk_alloc ?_ _)); exact BK176.out)) : gb176 ≠ gb177)); have n6_ := Aside0.mk ((by rw [hg]; exact Nat.ne_of_gt (blk_lt (g := gb176) (o := .cells #[.int .i64 a0_0, .int .i64 a0_1] 23 (0, 0)) (by (with_reducible repeat (first | refine blk_drewN ?_ _ | refine blk_drew ?_ | refine blk_alloc ?_ _)); exact BK176.out)) : gb177 ≠ gb176)); clear BK176; clear HB; have BK176 := n0_; have HB := n1_; have BK177 := n2_; have GW177 := n3_; have GE177 := n4_; have NB176_177 := n5_; have NB177_176 := n6_; clear n0_ n1_ n2_ n3_ n4_ n5_ n6_; clear hb hbox hg; have hnb5 := NB176_177.out; have hnc5 := NB177_176.out; have hcz6_0 : w4.cell? ⟨gb176, 0, none⟩ = some (.int .i64 a0_0) := (blk_cell BK176.out 0).trans rfl; have hcz6_1 : w4.cell? ⟨gb176, 1, none⟩ = some (.int .i64 a0_1) := (blk_cell BK176.out 1).trans rfl; have hfz6_0 := blk_frozen BK176.out 0; have hfz6_1 := blk_frozen BK176.out 1) | ((with_reducible refine gate_callee (f := 37) rfl ?_); refine goesL_ (some 8) rfl rfl Try.func37 (by kernel_rfl) rfl #[.int .i64 a0_0, .int .i32 (wrap32 (a0_1))] rfl (by (try simp only [List.map_toArray, List.map_cons, List.map_nil]); first | done | rfl | (simp only [List.length_drop, List.length_take]; rfl)) ?_; (with_reducible refine (comettypes_UnixTime.calls a0_0 (wrap32 (a0_1)) t178 t179 _ A2.out).mono ?_); rintro e w7 ⟨rfl, hb⟩; refine ⟨_, rfl, ?_⟩; have n0_ := Aside0.mk (blk_below (g := gb176) (o := .cells #[.int .i64 a0_0, .int .i64 a0_1] 23 (0, 0)) (by (with_reducible repeat (first | refine blk_drewN ?_ _ | refine blk_drew ?_ | refine blk_alloc ?_ _)); exact BK176.out) hb); have n1_ := Aside0.mk (blk_below (g := gb177) (o := .cells #[.int .i64 0, .int .i32 0] 61 (0, 0)) (by (with_reducible repeat (first | refine blk_drewN ?_ _ | refine blk_drew ?_ | refine blk_alloc ?_ _)); exact BK177.out) hb); have n2_ := Aside0.mk (below_step (by repeat (first | (with_reducible first | exact HB.out | apply below_alloc | apply pw_below_drewN | apply below_drew1 | refine below_set ?_ GE176.out | refine below_set ?_ GE177.out) | exact HB.out)) hb); clear BK176; clear BK177; clear HB; have BK176 := n0_; have BK177 := n1_; have HB := n2_; clear n0_ n1_ n2_; (try clear hb); (try clear hb2); (try clear hk); (try clear hi); have hcz8_0 : w7.cell? ⟨gb177, 0, none⟩ = some (.int .i64 0) := (blk_cell BK177.out 0).trans rfl; have hcz8_1 : w7.cell? ⟨gb177, 1, none⟩ = some (.int .i32 0) := (blk_cell BK177.out 1).trans rfl; have hfz8_0 := blk_frozen BK177.out 0; have hfz8_1 := blk_frozen BK177.out 1))
  refine bodyPost_ret (results_cell_row rfl _ _ gb177 61 #[.int .i64 t178, .int .i32 t179] (0, 0) _ rfl (by (with_reducible repeat (first | refine blk_drewN ?_ _ | refine blk_drew ?_ | refine blk_alloc ?_ _)); refine blk_put (cs := #[.int .i64 t178, .int .i32 0]) ?_ 1 _ rfl; (with_reducible repeat (first | refine blk_drewN ?_ _ | refine blk_drew ?_ | refine blk_alloc ?_ _)); refine blk_put (cs := #[.int .i64 0, .int .i32 0]) ?_ 0 _ rfl; (with_reducible repeat (first | refine blk_drewN ?_ _ | refine blk_drew ?_ | refine blk_alloc ?_ _)); exact BK177.out) Try.underlying61 rfl (by kernel_rfl)) rfl ?_
  exact ⟨by first | rfl | (simp [errW_none, errW_some] <;> rfl) | (simp [*, errW_none, errW_some] <;> rfl), by repeat (first | (with_reducible first | exact HB.out | apply below_alloc | apply pw_below_drewN | apply below_drew1 | refine below_set ?_ GE176.out | refine below_set ?_ GE177.out) | exact HB.out)⟩

-- NOT PRINTED: function 11 (impl_vote)

-- NOT PRINTED: function 6 (impl_Message)

/-! ### laws_vote: function 7 -/
def laws_vote.f (a0_0 : Int) (a0_1 : Int) (a0_2 : Int) (a0_3 : Int) (a0_4 : ByteArray) (l0_5 : List Int) (a0_6 : Int) (l0_7 : List Int) (a0_8 : Int) (a0_9 : Int) (l0_10 : List Int) : Option (Int × Int × Int × Int × ByteArray × List Int × Int × List Int × Int × Int × List Int) := some (a0_0, a0_1, a0_2, a0_3, a0_4, l0_5, a0_6, l0_7, a0_8, a0_9, l0_10)
set_option maxHeartbeats 8000000 in
set_option maxRecDepth 100000 in
theorem laws_vote.calls (a0_0 : Int) (a0_1 : Int) (a0_2 : Int) (a0_3 : Int) (a0_4 : ByteArray) (P0_5_ : Nat → Prop) (u9000_ : Value) (l0_5 : List Int) (a0_6 : Int) (P0_7_ : Nat → Prop) (u9001_ : Value) (l0_7 : List Int) (a0_8 : Int) (a0_9 : Int) (P0_10_ : Nat → Prop) (u9002_ : Value) (l0_10 : List Int) (r1 : Int) (r2 : Int) (r3 : Int) (r4 : Int) (r5 : ByteArray) (r6 : List Int) (r7 : Int) (r8 : List Int) (r9 : Int) (r10 : Int) (r11 : List Int) (w0 w : World) (hB : Below w0.heap.size w0 w) (ho0_5 : Kd.R (Kd.int .u8) 5 w w0.heap.size P0_5_ u9000_ l0_5) (hp0_5_0_7 : ∀ k_, P0_5_ k_ → ¬ P0_7_ k_) (hp0_5_0_10 : ∀ k_, P0_5_ k_ → ¬ P0_10_ k_) (ho0_7 : Kd.R (Kd.int .u8) 5 w w0.heap.size P0_7_ u9001_ l0_7) (hp0_7_0_5 : ∀ k_, P0_7_ k_ → ¬ P0_5_ k_) (hp0_7_0_10 : ∀ k_, P0_7_ k_ → ¬ P0_10_ k_) (ho0_10 : Kd.R (Kd.int .u8) 5 w w0.heap.size P0_10_ u9002_ l0_10) (hp0_10_0_5 : ∀ k_, P0_10_ k_ → ¬ P0_5_ k_) (hp0_10_0_7 : ∀ k_, P0_10_ k_ → ¬ P0_7_ k_) (h : laws_vote.f a0_0 a0_1 a0_2 a0_3 a0_4 l0_5 a0_6 l0_7 a0_8 a0_9 l0_10 = some (r1, r2, r3, r4, r5, r6, r7, r8, r9, r10, r11)) :
    Calls Try.prog 7 #[.agg #[.int .i64 a0_0, .int .i64 a0_1, .int .i64 a0_2, .int .i64 a0_3, .string a0_4, u9000_, .int .i64 a0_6, u9001_, .int .i64 a0_8, .int .i64 a0_9, u9002_]] w fun e w' => ∃ v5_ v7_ v10_ : Value, e = .returned (.agg #[.int .i64 r1, .int .i64 r2, .int .i64 r3, .int .i64 r4, .string r5, v5_, .int .i64 r7, v7_, .int .i64 r9, .int .i64 r10, v10_]) ∧ Kd.R (Kd.int .u8) 5 w' w0.heap.size (fun k_ => ((P0_5_ k_ ∨ P0_7_ k_ ∨ P0_10_ k_) ∨ w.heap.size ≤ k_) ∧ some k_ ≠ (v7_ : Value).ownBlock ∧ some k_ ≠ (v10_ : Value).ownBlock) v5_ r6 ∧ Kd.R (Kd.int .u8) 5 w' w0.heap.size (fun k_ => ((P0_5_ k_ ∨ P0_7_ k_ ∨ P0_10_ k_) ∨ w.heap.size ≤ k_) ∧ some k_ ≠ (v5_ : Value).ownBlock ∧ some k_ ≠ (v10_ : Value).ownBlock) v7_ r8 ∧ Kd.R (Kd.int .u8) 5 w' w0.heap.size (fun k_ => ((P0_5_ k_ ∨ P0_7_ k_ ∨ P0_10_ k_) ∨ w.heap.size ≤ k_) ∧ some k_ ≠ (v5_ : Value).ownBlock ∧ some k_ ≠ (v7_ : Value).ownBlock) v10_ r11 ∧ Below w0.heap.size w0 w' ∧ Kept w w' (fun k_ => P0_5_ k_ ∨ P0_7_ k_ ∨ P0_10_ k_) := by
  have hu31 := Try.underlying31
  have hu36 := Try.underlying36
  have hu27 := Try.underlying27
  have hu23 := Try.underlying23
  have HO0_5 := Aside0.mk (show Kd.R (Kd.int .u8) 5 w w0.heap.size (fun k_ => ((P0_5_ k_ ∨ P0_7_ k_ ∨ P0_10_ k_) ∨ w.heap.size ≤ k_) ∧ some k_ ≠ (u9001_ : Value).ownBlock ∧ some k_ ≠ (u9002_ : Value).ownBlock) u9000_ l0_5 from Kd.R_mono ho0_5 (fun k_ hk => ⟨(.inl (.inl hk)), fun e_ => hp0_5_0_7 k_ hk (ho0_7.1 k_ e_.symm), fun e_ => hp0_5_0_10 k_ hk (ho0_10.1 k_ e_.symm)⟩))
  have HO0_7 := Aside0.mk (show Kd.R (Kd.int .u8) 5 w w0.heap.size (fun k_ => ((P0_5_ k_ ∨ P0_7_ k_ ∨ P0_10_ k_) ∨ w.heap.size ≤ k_) ∧ some k_ ≠ (u9000_ : Value).ownBlock ∧ some k_ ≠ (u9002_ : Value).ownBlock) u9001_ l0_7 from Kd.R_mono ho0_7 (fun k_ hk => ⟨(.inl (.inr (.inl hk))), fun e_ => hp0_7_0_5 k_ hk (ho0_5.1 k_ e_.symm), fun e_ => hp0_7_0_10 k_ hk (ho0_10.1 k_ e_.symm)⟩))
  have HO0_10 := Aside0.mk (show Kd.R (Kd.int .u8) 5 w w0.heap.size (fun k_ => ((P0_5_ k_ ∨ P0_7_ k_ ∨ P0_10_ k_) ∨ w.heap.size ≤ k_) ∧ some k_ ≠ (u9000_ : Value).ownBlock ∧ some k_ ≠ (u9001_ : Value).ownBlock) u9002_ l0_10 from Kd.R_mono ho0_10 (fun k_ hk => ⟨(.inl (.inr (.inr hk))), fun e_ => hp0_10_0_5 k_ hk (ho0_5.1 k_ e_.symm), fun e_ => hp0_10_0_7 k_ hk (ho0_7.1 k_ e_.symm)⟩))
  have HK := Aside0.mk (Kept.refl w (fun k_ => P0_5_ k_ ∨ P0_7_ k_ ∨ P0_10_ k_))
  have HW0 := Aside0.mk hB.size
  have HB := Aside0.mk hB
  clear hB
  have H : (some (a0_0, a0_1, a0_2, a0_3, a0_4, l0_5, a0_6, l0_7, a0_8, a0_9, l0_10)) = some (r1, r2, r3, r4, r5, r6, r7, r8, r9, r10, r11) := h
  clear h
  simp only [Option.some.injEq, Prod.mk.injEq] at H
  obtain ⟨rfl, rfl, rfl, rfl, rfl, rfl, rfl, rfl, rfl, rfl, rfl⟩ := H
  obtain ⟨Ao2, co2, eo2⟩ := Kd.R_slice HO0_5.out
  subst eo2
  obtain ⟨Ao3, co3, eo3⟩ := Kd.R_slice HO0_7.out
  subst eo3
  obtain ⟨Ao4, co4, eo4⟩ := Kd.R_slice HO0_10.out
  subst eo4
  go_enter Try.func7, Try.ntmps7
  go_wp2_with (first | ((with_reducible refine gate_dst (N := 1) rfl ?_); refine box_event ?hg (N := 1) ?hd (cs := #[.int .i64 a0_0, .int .i64 a0_1, .int .i64 a0_2, .int .i64 a0_3, .string a0_4, .slice Ao2 l0_5.length co2, .int .i64 a0_6, .slice Ao3 l0_7.length co3, .int .i64 a0_8, .int .i64 a0_9, .slice Ao4 l0_10.length co4]) (t := 31) ?hr ?_; (case hd => rfl); (case hg => rfl); (case hr => first | (go_simp; done) | (go_simp; rfl)); intro gb182 hg w5 hbox hb; have n0_ := Aside0.mk (Kd.R_below (by (with_reducible repeat (first | apply Kd.R_alloc | apply Kd.R_drewN | apply Kd.R_drew)); exact HO0_5.out) hb); have n1_ := Aside0.mk (Kd.R_below (by (with_reducible repeat (first | apply Kd.R_alloc | apply Kd.R_drewN | apply Kd.R_drew)); exact HO0_7.out) hb); have n2_ := Aside0.mk (Kd.R_below (by (with_reducible repeat (first | apply Kd.R_alloc | apply Kd.R_drewN | apply Kd.R_drew)); exact HO0_10.out) hb); have n3_ := Aside0.mk (Kept.below (S := (fun k_ => P0_5_ k_ ∨ P0_7_ k_ ∨ P0_10_ k_)) (by repeat (first | (with_reducible first | exact HK.out | apply Kept.alloc | apply Kept.drewN | apply Kept.drew) | exact HK.out)) hb); have n4_ := Aside0.mk (below_step (by repeat (first | (with_reducible first | exact HB.out | apply below_alloc | apply pw_below_drewN | apply below_drew1) | exact HB.out)) hb); have n5_ := Aside0.mk (hbox); have n6_ := Aside0.mk ((by rw [hg]; exact (by first | exact HK.out.1 | exact (show Kept w _ (fun k_ => P0_5_ k_ ∨ P0_7_ k_ ∨ P0_10_ k_) from by repeat (first | (with_reducible first | exact HK.out | apply Kept.alloc | apply Kept.drewN | apply Kept.drew) | exact HK.out)).1) : w.heap.size ≤ gb182)); have n7_ := Aside0.mk ((by rw [hg]; exact (below_size (by repeat (first | (with_reducible first | exact HB.out | apply below_alloc | apply pw_below_drewN | apply below_drew1) | exact HB.out))) : w0.heap.size ≤ gb182)); clear HO0_5; clear HO0_7; clear HO0_10; clear HK; clear HB; have HO0_5 := n0_; have HO0_7 := n1_; have HO0_10 := n2_; have HK := n3_; have HB := n4_; have BK182 := n5_; have GW182 := n6_; have GE182 := n7_; clear n0_ n1_ n2_ n3_ n4_ n5_ n6_ n7_; clear hb hbox hg) | ((with_reducible refine gate_dst (N := 2) rfl ?_); refine box_event ?hg (N := 2) ?hd (cs := #[.int .i64 0, .int .i64 0, .int .i64 0, .int .i64 0, .string (⟨#[]⟩ : ByteArray), .slice none 0 0, .int .i64 0, .slice none 0 0, .int .i64 0, .int .i64 0, .slice none 0 0]) (t := 36) ?hr ?_; (case hd => rfl); (case hg => rfl); (case hr => first | (go_simp; done) | (go_simp; rfl)); intro gb183 hg w6 hbox hb; have n0_ := Aside0.mk (Kd.R_below (by (with_reducible repeat (first | apply Kd.R_alloc | apply Kd.R_drewN | apply Kd.R_drew)); exact HO0_5.out) hb); have n1_ := Aside0.mk (Kd.R_below (by (with_reducible repeat (first | apply Kd.R_alloc | apply Kd.R_drewN | apply Kd.R_drew)); exact HO0_7.out) hb); have n2_ := Aside0.mk (Kd.R_below (by (with_reducible repeat (first | apply Kd.R_alloc | apply Kd.R_drewN | apply Kd.R_drew)); exact HO0_10.out) hb); have n3_ := Aside0.mk (blk_below (g := gb182) (o := .cells #[.int .i64 a0_0, .int .i64 a0_1, .int .i64 a0_2, .int .i64 a0_3, .string a0_4, .slice Ao2 l0_5.length co2, .int .i64 a0_6, .slice Ao3 l0_7.length co3, .int .i64 a0_8, .int .i64 a0_9, .slice Ao4 l0_10.length co4] 31 (0, 0)) (by (with_reducible repeat (first | refine blk_drewN ?_ _ | refine blk_drew ?_ | refine blk_alloc ?_ _)); exact BK182.out) hb); have n4_ := Aside0.mk (Kept.below (S := (fun k_ => P0_5_ k_ ∨ P0_7_ k_ ∨ P0_10_ k_)) (by repeat (first | (with_reducible first | exact HK.out | apply Kept.alloc | apply Kept.drewN | apply Kept.drew | refine Kept.setCell ?_ (.inr GW182.out) _) | exact HK.out)) hb); have n5_ := Aside0.mk (below_step (by repeat (first | (with_reducible first | exact HB.out | apply below_alloc | apply pw_below_drewN | apply below_drew1 | refine below_set ?_ GE182.out) | exact HB.out)) hb); have n6_ := Aside0.mk (hbox); have n7_ := Aside0.mk ((by rw [hg]; exact (by first | exact HK.out.1 | exact (show Kept w _ (fun k_ => P0_5_ k_ ∨ P0_7_ k_ ∨ P0_10_ k_) from by repeat (first | (with_reducible first | exact HK.out | apply Kept.alloc | apply Kept.drewN | apply Kept.drew | refine Kept.setCell ?_ (.inr GW182.out) _) | exact HK.out)).1) : w.heap.size ≤ gb183)); have n8_ := Aside0.mk ((by rw [hg]; exact (below_size (by repeat (first | (with_reducible first | exact HB.out | apply below_alloc | apply pw_below_drewN | apply below_drew1 | refine below_set ?_ GE182.out) | exact HB.out))) : w0.heap.size ≤ gb183)); have n9_ := Aside0.mk ((by rw [hg]; exact Nat.ne_of_lt (blk_lt (g := gb182) (o := .cells #[.int .i64 a0_0, .int .i64 a0_1, .int .i64 a0_2, .int .i64 a0_3, .string a0_4, .slice Ao2 l0_5.length co2, .int .i64 a0_6, .slice Ao3 l0_7.length co3, .int .i64 a0_8, .int .i64 a0_9, .slice Ao4 l0_10.length co4] 31 (0, 0)) (by (with_reducible repeat (first | refine blk_drewN ?_ _ | refine blk_drew ?_ | refine blk_alloc ?_ _)); exact BK182.out)) : gb182 ≠ gb183)); have n10_ := Aside0.mk ((by rw [hg]; exact Nat.ne_of_gt (blk_lt (g := gb182) (o := .cells #[.int .i64 a0_0, .int .i64 a0_1, .int .i64 a0_2, .int .i64 a0_3, .string a0_4, .slice Ao2 l0_5.length co2, .int .i64 a0_6, .slice Ao3 l0_7.length co3, .int .i64 a0_8, .int .i64 a0_9, .slice Ao4 l0_10.length co4] 31 (0, 0)) (by (with_reducible repeat (first | refine blk_drewN ?_ _ | refine blk_drew ?_ | refine blk_alloc ?_ _)); exact BK182.out)) : gb183 ≠ gb182)); clear HO0_5; clear HO0_7; clear HO0_10; clear BK182; clear HK; clear HB; have HO0_5 := n0_; have HO0_7 := n1_; have HO0_10 := n2_; have BK182 := n3_; have HK := n4_; have HB := n5_; have BK183 := n6_; have GW183 := n7_; have GE183 := n8_; have NB182_183 := n9_; have NB183_182 := n10_; clear n0_ n1_ n2_ n3_ n4_ n5_ n6_ n7_ n8_ n9_ n10_; clear hb hbox hg; have hnb7 := NB182_183.out; have hnc7 := NB183_182.out; have hcz8_0 : w6.cell? ⟨gb182, 0, none⟩ = some (.int .i64 a0_0) := (blk_cell BK182.out 0).trans rfl; have hcz8_1 : w6.cell? ⟨gb182, 1, none⟩ = some (.int .i64 a0_1) := (blk_cell BK182.out 1).trans rfl; have hcz8_2 : w6.cell? ⟨gb182, 2, none⟩ = some (.int .i64 a0_2) := (blk_cell BK182.out 2).trans rfl; have hcz8_3 : w6.cell? ⟨gb182, 3, none⟩ = some (.int .i64 a0_3) := (blk_cell BK182.out 3).trans rfl; have hcz8_4 : w6.cell? ⟨gb182, 4, none⟩ = some (.string a0_4) := (blk_cell BK182.out 4).trans rfl; have hcz8_5 : w6.cell? ⟨gb182, 5, none⟩ = some (.slice Ao2 l0_5.length co2) := (blk_cell BK182.out 5).trans rfl; have hcz8_6 : w6.cell? ⟨gb182, 6, none⟩ = some (.int .i64 a0_6) := (blk_cell BK182.out 6).trans rfl; have hcz8_7 : w6.cell? ⟨gb182, 7, none⟩ = some (.slice Ao3 l0_7.length co3) := (blk_cell BK182.out 7).trans rfl; have hcz8_8 : w6.cell? ⟨gb182, 8, none⟩ = some (.int .i64 a0_8) := (blk_cell BK182.out 8).trans rfl; have hcz8_9 : w6.cell? ⟨gb182, 9, none⟩ = some (.int .i64 a0_9) := (blk_cell BK182.out 9).trans rfl; have hcz8_10 : w6.cell? ⟨gb182, 10, none⟩ = some (.slice Ao4 l0_10.length co4) := (blk_cell BK182.out 10).trans rfl; have hfz8_0 := blk_frozen BK182.out 0; have hfz8_1 := blk_frozen BK182.out 1; have hfz8_2 := blk_frozen BK182.out 2; have hfz8_3 := blk_frozen BK182.out 3; have hfz8_4 := blk_frozen BK182.out 4; have hfz8_5 := blk_frozen BK182.out 5; have hfz8_6 := blk_frozen BK182.out 6; have hfz8_7 := blk_frozen BK182.out 7; have hfz8_8 := blk_frozen BK182.out 8; have hfz8_9 := blk_frozen BK182.out 9; have hfz8_10 := blk_frozen BK182.out 10; have hcz9_0 : w6.cell? ⟨gb183, 0, none⟩ = some (.int .i64 0) := (blk_cell BK183.out 0).trans rfl; have hcz9_1 : w6.cell? ⟨gb183, 1, none⟩ = some (.int .i64 0) := (blk_cell BK183.out 1).trans rfl; have hcz9_2 : w6.cell? ⟨gb183, 2, none⟩ = some (.int .i64 0) := (blk_cell BK183.out 2).trans rfl; have hcz9_3 : w6.cell? ⟨gb183, 3, none⟩ = some (.int .i64 0) := (blk_cell BK183.out 3).trans rfl; have hcz9_4 : w6.cell? ⟨gb183, 4, none⟩ = some (.string (⟨#[]⟩ : ByteArray)) := (blk_cell BK183.out 4).trans rfl; have hcz9_5 : w6.cell? ⟨gb183, 5, none⟩ = some (.slice none 0 0) := (blk_cell BK183.out 5).trans rfl; have hcz9_6 : w6.cell? ⟨gb183, 6, none⟩ = some (.int .i64 0) := (blk_cell BK183.out 6).trans rfl; have hcz9_7 : w6.cell? ⟨gb183, 7, none⟩ = some (.slice none 0 0) := (blk_cell BK183.out 7).trans rfl; have hcz9_8 : w6.cell? ⟨gb183, 8, none⟩ = some (.int .i64 0) := (blk_cell BK183.out 8).trans rfl; have hcz9_9 : w6.cell? ⟨gb183, 9, none⟩ = some (.int .i64 0) := (blk_cell BK183.out 9).trans rfl; have hcz9_10 : w6.cell? ⟨gb183, 10, none⟩ = some (.slice none 0 0) := (blk_cell BK183.out 10).trans rfl; have hfz9_0 := blk_frozen BK183.out 0; have hfz9_1 := blk_frozen BK183.out 1; have hfz9_2 := blk_frozen BK183.out 2; have hfz9_3 := blk_frozen BK183.out 3; have hfz9_4 := blk_frozen BK183.out 4; have hfz9_5 := blk_frozen BK183.out 5; have hfz9_6 := blk_frozen BK183.out 6; have hfz9_7 := blk_frozen BK183.out 7; have hfz9_8 := blk_frozen BK183.out 8; have hfz9_9 := blk_frozen BK183.out 9; have hfz9_10 := blk_frozen BK183.out 10))
  refine bodyPost_ret (results_cell_row rfl _ _ gb183 36 #[.int .i64 a0_0, .int .i64 a0_1, .int .i64 a0_2, .int .i64 a0_3, .string a0_4, .slice Ao2 l0_5.length co2, .int .i64 a0_6, .slice Ao3 l0_7.length co3, .int .i64 a0_8, .int .i64 a0_9, .slice Ao4 l0_10.length co4] (0, 0) _ rfl (by (with_reducible repeat (first | refine blk_drewN ?_ _ | refine blk_drew ?_ | refine blk_alloc ?_ _)); refine blk_put (cs := #[.int .i64 a0_0, .int .i64 a0_1, .int .i64 a0_2, .int .i64 a0_3, .string a0_4, .slice Ao2 l0_5.length co2, .int .i64 a0_6, .slice Ao3 l0_7.length co3, .int .i64 a0_8, .int .i64 a0_9, .slice none 0 0]) ?_ 10 _ rfl; (with_reducible repeat (first | refine blk_drewN ?_ _ | refine blk_drew ?_ | refine blk_alloc ?_ _)); refine blk_put (cs := #[.int .i64 a0_0, .int .i64 a0_1, .int .i64 a0_2, .int .i64 a0_3, .string a0_4, .slice Ao2 l0_5.length co2, .int .i64 a0_6, .slice Ao3 l0_7.length co3, .int .i64 a0_8, .int .i64 0, .slice none 0 0]) ?_ 9 _ rfl; (with_reducible repeat (first | refine blk_drewN ?_ _ | refine blk_drew ?_ | refine blk_alloc ?_ _)); refine blk_put (cs := #[.int .i64 a0_0, .int .i64 a0_1, .int .i64 a0_2, .int .i64 a0_3, .string a0_4, .slice Ao2 l0_5.length co2, .int .i64 a0_6, .slice Ao3 l0_7.length co3, .int .i64 0, .int .i64 0, .slice none 0 0]) ?_ 8 _ rfl; (with_reducible repeat (first | refine blk_drewN ?_ _ | refine blk_drew ?_ | refine blk_alloc ?_ _)); refine blk_put (cs := #[.int .i64 a0_0, .int .i64 a0_1, .int .i64 a0_2, .int .i64 a0_3, .string a0_4, .slice Ao2 l0_5.length co2, .int .i64 a0_6, .slice none 0 0, .int .i64 0, .int .i64 0, .slice none 0 0]) ?_ 7 _ rfl; (with_reducible repeat (first | refine blk_drewN ?_ _ | refine blk_drew ?_ | refine blk_alloc ?_ _)); refine blk_put (cs := #[.int .i64 a0_0, .int .i64 a0_1, .int .i64 a0_2, .int .i64 a0_3, .string a0_4, .slice Ao2 l0_5.length co2, .int .i64 0, .slice none 0 0, .int .i64 0, .int .i64 0, .slice none 0 0]) ?_ 6 _ rfl; (with_reducible repeat (first | refine blk_drewN ?_ _ | refine blk_drew ?_ | refine blk_alloc ?_ _)); refine blk_put (cs := #[.int .i64 a0_0, .int .i64 a0_1, .int .i64 a0_2, .int .i64 a0_3, .string a0_4, .slice none 0 0, .int .i64 0, .slice none 0 0, .int .i64 0, .int .i64 0, .slice none 0 0]) ?_ 5 _ rfl; (with_reducible repeat (first | refine blk_drewN ?_ _ | refine blk_drew ?_ | refine blk_alloc ?_ _)); refine blk_put (cs := #[.int .i64 a0_0, .int .i64 a0_1, .int .i64 a0_2, .int .i64 a0_3, .string (⟨#[]⟩ : ByteArray), .slice none 0 0, .int .i64 0, .slice none 0 0, .int .i64 0, .int .i64 0, .slice none 0 0]) ?_ 4 _ rfl; (with_reducible repeat (first | refine blk_drewN ?_ _ | refine blk_drew ?_ | refine blk_alloc ?_ _)); refine blk_put (cs := #[.int .i64 a0_0, .int .i64 a0_1, .int .i64 a0_2, .int .i64 0, .string (⟨#[]⟩ : ByteArray), .slice none 0 0, .int .i64 0, .slice none 0 0, .int .i64 0, .int .i64 0, .slice none 0 0]) ?_ 3 _ rfl; (with_reducible repeat (first | refine blk_drewN ?_ _ | refine blk_drew ?_ | refine blk_alloc ?_ _)); refine blk_put (cs := #[.int .i64 a0_0, .int .i64 a0_1, .int .i64 0, .int .i64 0, .string (⟨#[]⟩ : ByteArray), .slice none 0 0, .int .i64 0, .slice none 0 0, .int .i64 0, .int .i64 0, .slice none 0 0]) ?_ 2 _ rfl; (with_reducible repeat (first | refine blk_drewN ?_ _ | refine blk_drew ?_ | refine blk_alloc ?_ _)); refine blk_put (cs := #[.int .i64 a0_0, .int .i64 0, .int .i64 0, .int .i64 0, .string (⟨#[]⟩ : ByteArray), .slice none 0 0, .int .i64 0, .slice none 0 0, .int .i64 0, .int .i64 0, .slice none 0 0]) ?_ 1 _ rfl; (with_reducible repeat (first | refine blk_drewN ?_ _ | refine blk_drew ?_ | refine blk_alloc ?_ _)); refine blk_put (cs := #[.int .i64 0, .int .i64 0, .int .i64 0, .int .i64 0, .string (⟨#[]⟩ : ByteArray), .slice none 0 0, .int .i64 0, .slice none 0 0, .int .i64 0, .int .i64 0, .slice none 0 0]) ?_ 0 _ rfl; (with_reducible repeat (first | refine blk_drewN ?_ _ | refine blk_drew ?_ | refine blk_alloc ?_ _)); exact BK183.out) Try.underlying36 rfl (by kernel_rfl)) rfl ?_
  exact ⟨_, _, _, by first | rfl | (simp [errW_none, errW_some] <;> rfl) | (simp [*, errW_none, errW_some] <;> rfl), by (with_reducible repeat (first | apply Kd.R_alloc | apply Kd.R_drewN | apply Kd.R_drew)); exact Kd.R_mono (Kd.R_far (p := ⟨gb183, 10, none⟩) (Kd.R_far (p := ⟨gb183, 9, none⟩) (Kd.R_far (p := ⟨gb183, 8, none⟩) (Kd.R_far (p := ⟨gb183, 7, none⟩) (Kd.R_far (p := ⟨gb183, 6, none⟩) (Kd.R_far (p := ⟨gb183, 5, none⟩) (Kd.R_far (p := ⟨gb183, 4, none⟩) (Kd.R_far (p := ⟨gb183, 3, none⟩) (Kd.R_far (p := ⟨gb183, 2, none⟩) (Kd.R_far (p := ⟨gb183, 1, none⟩) (Kd.R_far (p := ⟨gb183, 0, none⟩) (Kd.R_types HO0_5.out BK183.out (by decide)) (fun _ hk => hk.2) (.int .i64 a0_0)) (fun _ hk => hk.2) (.int .i64 a0_1)) (fun _ hk => hk.2) (.int .i64 a0_2)) (fun _ hk => hk.2) (.int .i64 a0_3)) (fun _ hk => hk.2) (.string a0_4)) (fun _ hk => hk.2) (.slice Ao2 l0_5.length co2)) (fun _ hk => hk.2) (.int .i64 a0_6)) (fun _ hk => hk.2) (.slice Ao3 l0_7.length co3)) (fun _ hk => hk.2) (.int .i64 a0_8)) (fun _ hk => hk.2) (.int .i64 a0_9)) (fun _ hk => hk.2) (.slice Ao4 l0_10.length co4)) (fun _ hk => ⟨hk.1.1, ⟨hk.1.2.1, hk.1.2.2⟩⟩), by (with_reducible repeat (first | apply Kd.R_alloc | apply Kd.R_drewN | apply Kd.R_drew)); exact Kd.R_mono (Kd.R_far (p := ⟨gb183, 10, none⟩) (Kd.R_far (p := ⟨gb183, 9, none⟩) (Kd.R_far (p := ⟨gb183, 8, none⟩) (Kd.R_far (p := ⟨gb183, 7, none⟩) (Kd.R_far (p := ⟨gb183, 6, none⟩) (Kd.R_far (p := ⟨gb183, 5, none⟩) (Kd.R_far (p := ⟨gb183, 4, none⟩) (Kd.R_far (p := ⟨gb183, 3, none⟩) (Kd.R_far (p := ⟨gb183, 2, none⟩) (Kd.R_far (p := ⟨gb183, 1, none⟩) (Kd.R_far (p := ⟨gb183, 0, none⟩) (Kd.R_types HO0_7.out BK183.out (by decide)) (fun _ hk => hk.2) (.int .i64 a0_0)) (fun _ hk => hk.2) (.int .i64 a0_1)) (fun _ hk => hk.2) (.int .i64 a0_2)) (fun _ hk => hk.2) (.int .i64 a0_3)) (fun _ hk => hk.2) (.string a0_4)) (fun _ hk => hk.2) (.slice Ao2 l0_5.length co2)) (fun _ hk => hk.2) (.int .i64 a0_6)) (fun _ hk => hk.2) (.slice Ao3 l0_7.length co3)) (fun _ hk => hk.2) (.int .i64 a0_8)) (fun _ hk => hk.2) (.int .i64 a0_9)) (fun _ hk => hk.2) (.slice Ao4 l0_10.length co4)) (fun _ hk => ⟨hk.1.1, ⟨hk.1.2.1, hk.1.2.2⟩⟩), by (with_reducible repeat (first | apply Kd.R_alloc | apply Kd.R_drewN | apply Kd.R_drew)); exact Kd.R_mono (Kd.R_far (p := ⟨gb183, 10, none⟩) (Kd.R_far (p := ⟨gb183, 9, none⟩) (Kd.R_far (p := ⟨gb183, 8, none⟩) (Kd.R_far (p := ⟨gb183, 7, none⟩) (Kd.R_far (p := ⟨gb183, 6, none⟩) (Kd.R_far (p := ⟨gb183, 5, none⟩) (Kd.R_far (p := ⟨gb183, 4, none⟩) (Kd.R_far (p := ⟨gb183, 3, none⟩) (Kd.R_far (p := ⟨gb183, 2, none⟩) (Kd.R_far (p := ⟨gb183, 1, none⟩) (Kd.R_far (p := ⟨gb183, 0, none⟩) (Kd.R_types HO0_10.out BK183.out (by decide)) (fun _ hk => hk.2) (.int .i64 a0_0)) (fun _ hk => hk.2) (.int .i64 a0_1)) (fun _ hk => hk.2) (.int .i64 a0_2)) (fun _ hk => hk.2) (.int .i64 a0_3)) (fun _ hk => hk.2) (.string a0_4)) (fun _ hk => hk.2) (.slice Ao2 l0_5.length co2)) (fun _ hk => hk.2) (.int .i64 a0_6)) (fun _ hk => hk.2) (.slice Ao3 l0_7.length co3)) (fun _ hk => hk.2) (.int .i64 a0_8)) (fun _ hk => hk.2) (.int .i64 a0_9)) (fun _ hk => hk.2) (.slice Ao4 l0_10.length co4)) (fun _ hk => ⟨hk.1.1, ⟨hk.1.2.1, hk.1.2.2⟩⟩), by repeat (first | (with_reducible first | exact HB.out | apply below_alloc | apply pw_below_drewN | apply below_drew1 | refine below_set ?_ GE182.out | refine below_set ?_ GE183.out) | exact HB.out), by repeat (first | (with_reducible first | exact HK.out | apply Kept.alloc | apply Kept.drewN | apply Kept.drew | refine Kept.setCell ?_ (.inr GW182.out) _ | refine Kept.setCell ?_ (.inr GW183.out) _) | exact HK.out)⟩

end Go.Proofs.Ytlnknihjccdgkaa.PFnMessage
