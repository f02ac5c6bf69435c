/- The reference's SHA-256: the block's sum into the state. -/
import Derived.Test.YtlnknihjccdgkaaS4
namespace Go.Proofs.Ytlnknihjccdgkaa.M
open Go.RowKit Go.Proofs.YtlnknihjccdgkaaW.PrintWords Go.Proofs.YtlnknihjccdgkaaW.PrintLast Go.Proofs.YtlnknihjccdgkaaW.PrintMore Go.Proofs.Ytlnknihjccdgkaa.PFnMessage
set_option linter.unusedVariables false
set_option linter.unusedSimpArgs false

set_option maxHeartbeats 8000000 in
set_option maxRecDepth 1000000 in
theorem su_add (C : Code) (hC : C = at_ [1, 1, 1, 1, 1, 1, 1, 1, 0, 1, 0, 0, 1, 0, 0, 1, 1, 1, 1, 1] (Try.f9.body.getD .skip)) (Q : Exit → Act → World → Prop) (T0_ : Array Value) (w wr : World) (gh gk gw gv cv : Nat) (u : Value) (at_ : Int) (m hs ws xs : List Int)
    (hsT0_ : T0_.size = 300) (fT0__3 : T0_[3]? = some (.pointer (some ⟨gh, 0, none⟩))) (fT0__4 : T0_[4]? = some (.pointer (some ⟨gk, 0, none⟩))) (fT0__6 : T0_[6]? = some u) (fT0__8 : T0_[8]? = some (.func (.func 23) #[] #[])) (fT0__9 : T0_[9]? = some (.int .i64 at_)) (fT0__16 : T0_[16]? = some (.slice (some ⟨gv, 0, none⟩) 8 cv))
    (HS3 : Aside0 (St w wr gh gk gw u m hs ws)) (HV3 : Aside0 (V8 wr gv xs)) (hhs : hs.length = 8)
    (hQ : ∀ (T : Array Value) (W : World), T.size = 300 → T[3]? = some (.pointer (some ⟨gh, 0, none⟩)) → T[4]? = some (.pointer (some ⟨gk, 0, none⟩)) → T[6]? = some u → T[8]? = some (.func (.func 23) #[] #[]) → T[9]? = some (.int .i64 at_) → Aside0 (St w W gh gk gw u m (adI hs xs 8) ws) → Q .normal ⟨T, []⟩ W) :
    Code.wp Try.prog C Q ⟨T0_, []⟩ wr := by
  subst hC
  conv => arg 2; whnf
  have HH8 := Aside0.mk hhs
  have HQ := Aside0.mk hQ
  clear hhs hQ
  have tT0__3 := gat hsT0_ (by decide) fT0__3
  have tT0__4 := gat hsT0_ (by decide) fT0__4
  have tT0__6 := gat hsT0_ (by decide) fT0__6
  have tT0__8 := gat hsT0_ (by decide) fT0__8
  have tT0__9 := gat hsT0_ (by decide) fT0__9
  have tT0__16 := gat hsT0_ (by decide) fT0__16
  refine wp_seq_k (fun K1 hK1 => ?_)
  refine wp_region_lit ?_
  refine wpList_plain rfl (fun K hK => ?_); go_simp; refine hK _ _ ?_; clear hK K
  refine wpList_nil ?_
  refine hK1 _ _ ?_
  clear hK1 K1
  refine absR (fun T1_ hT => ?_)
  have hsT1_ : T1_.size = 300 := by rw [hT]; simp only [Array.size_setIfInBounds]; exact hsT0_
  have fT1__3 : T1_[3]? = _ := (congrArg (fun X_ : Array Value => X_[3]?) hT).trans (gq_ne (d := 267) (by decide) (fT0__3))
  have fT1__4 : T1_[4]? = _ := (congrArg (fun X_ : Array Value => X_[4]?) hT).trans (gq_ne (d := 267) (by decide) (fT0__4))
  have fT1__6 : T1_[6]? = _ := (congrArg (fun X_ : Array Value => X_[6]?) hT).trans (gq_ne (d := 267) (by decide) (fT0__6))
  have fT1__8 : T1_[8]? = _ := (congrArg (fun X_ : Array Value => X_[8]?) hT).trans (gq_ne (d := 267) (by decide) (fT0__8))
  have fT1__9 : T1_[9]? = _ := (congrArg (fun X_ : Array Value => X_[9]?) hT).trans (gq_ne (d := 267) (by decide) (fT0__9))
  have fT1__16 : T1_[16]? = _ := (congrArg (fun X_ : Array Value => X_[16]?) hT).trans (gq_ne (d := 267) (by decide) (fT0__16))
  have fT1__267 : T1_[267]? = _ := (congrArg (fun X_ : Array Value => X_[267]?) hT).trans (gq_eq (i := 267) (by simp only [Array.size_setIfInBounds, hsT0_]; decide))
  clear hT
  clear fT0__3 tT0__3 fT0__4 tT0__4 fT0__6 tT0__6 fT0__8 tT0__8 fT0__9 tT0__9 fT0__16 tT0__16 hsT0_
  have tT1__3 := gat hsT1_ (by decide) fT1__3
  have tT1__4 := gat hsT1_ (by decide) fT1__4
  have tT1__6 := gat hsT1_ (by decide) fT1__6
  have tT1__8 := gat hsT1_ (by decide) fT1__8
  have tT1__9 := gat hsT1_ (by decide) fT1__9
  have tT1__16 := gat hsT1_ (by decide) fT1__16
  have tT1__267 := gat hsT1_ (by decide) fT1__267
  refine wp_block ?_
  refine wp_loop (fun a W => ∃ (T : Array Value) (k : Nat), a = ⟨T, []⟩ ∧ T.size = 300 ∧ T[3]? = some (.pointer (some ⟨gh, 0, none⟩)) ∧ T[4]? = some (.pointer (some ⟨gk, 0, none⟩)) ∧ T[6]? = some (u) ∧ T[8]? = some (.func (.func 23) #[] #[]) ∧ T[9]? = some (.int .i64 at_) ∧ T[16]? = some (.slice (some ⟨gv, 0, none⟩) 8 cv) ∧ T[267]? = some (.int .i64 (k : Int)) ∧ k ≤ 8 ∧ Aside0 (St w W gh gk gw u m (adI hs xs k) ws) ∧ Aside0 (V8 W gv xs)) (fun a W => 8 - (intOf (a.tmps[267]?.getD undef)).toNat) ?_ ?_
  · exact ⟨_, 0, rfl, hsT1_, fT1__3, fT1__4, fT1__6, fT1__8, fT1__9, fT1__16, fT1__267, by omega, HS3, HV3⟩
  · rintro _ wr ⟨T2_, k, rfl, hsT2_, fT2__3, fT2__4, fT2__6, fT2__8, fT2__9, fT2__16, fT2__267, hk, HS4, HV4⟩
    have tT2__3 := gat hsT2_ (by decide) fT2__3
    have tT2__4 := gat hsT2_ (by decide) fT2__4
    have tT2__6 := gat hsT2_ (by decide) fT2__6
    have tT2__8 := gat hsT2_ (by decide) fT2__8
    have tT2__9 := gat hsT2_ (by decide) fT2__9
    have tT2__16 := gat hsT2_ (by decide) fT2__16
    have tT2__267 := gat hsT2_ (by decide) fT2__267
    clear HS3 HV3
    by_cases hk2 : k < 8
    · skip
      obtain ⟨x_, hx⟩ : ∃ x_, x_ = (adI hs xs k).getD k 0 := ⟨_, rfl⟩
      obtain ⟨y_, hy⟩ : ∃ y_, y_ = xs.getD k 0 := ⟨_, rfl⟩
      have HXX := Aside0.mk hx
      have HYY := Aside0.mk hy
      clear hx hy
      have hk3 : (k : Int) < 8 := by omega
      have hL := Aside0.mk (adI_len hs xs k)
      refine wp_seq_k (fun K2 hK2 => ?_)
      refine wp_region_lit ?_
      refine wpList_plain rfl (fun K hK => ?_); go_simp; refine hK _ _ ?_; clear hK K
      refine wpList_nil ?_
      refine hK2 _ _ ?_
      clear hK2 K2
      refine absR (fun T3_ hT => ?_)
      have hsT3_ : T3_.size = 300 := by rw [hT]; simp only [Array.size_setIfInBounds]; exact hsT2_
      have fT3__3 : T3_[3]? = _ := (congrArg (fun X_ : Array Value => X_[3]?) hT).trans (gq_ne (d := 268) (by decide) (fT2__3))
      have fT3__4 : T3_[4]? = _ := (congrArg (fun X_ : Array Value => X_[4]?) hT).trans (gq_ne (d := 268) (by decide) (fT2__4))
      have fT3__6 : T3_[6]? = _ := (congrArg (fun X_ : Array Value => X_[6]?) hT).trans (gq_ne (d := 268) (by decide) (fT2__6))
      have fT3__8 : T3_[8]? = _ := (congrArg (fun X_ : Array Value => X_[8]?) hT).trans (gq_ne (d := 268) (by decide) (fT2__8))
      have fT3__9 : T3_[9]? = _ := (congrArg (fun X_ : Array Value => X_[9]?) hT).trans (gq_ne (d := 268) (by decide) (fT2__9))
      have fT3__16 : T3_[16]? = _ := (congrArg (fun X_ : Array Value => X_[16]?) hT).trans (gq_ne (d := 268) (by decide) (fT2__16))
      have fT3__267 : T3_[267]? = _ := (congrArg (fun X_ : Array Value => X_[267]?) hT).trans (gq_ne (d := 268) (by decide) (fT2__267))
      have fT3__268 : T3_[268]? = _ := (congrArg (fun X_ : Array Value => X_[268]?) hT).trans (gq_eq (i := 268) (by simp only [Array.size_setIfInBounds, hsT2_]; decide))
      clear hT
      clear tT2__3 tT2__4 tT2__6 tT2__8 tT2__9 tT2__16 tT2__267
      have tT3__3 := gat hsT3_ (by decide) fT3__3
      have tT3__4 := gat hsT3_ (by decide) fT3__4
      have tT3__6 := gat hsT3_ (by decide) fT3__6
      have tT3__8 := gat hsT3_ (by decide) fT3__8
      have tT3__9 := gat hsT3_ (by decide) fT3__9
      have tT3__16 := gat hsT3_ (by decide) fT3__16
      have tT3__267 := gat hsT3_ (by decide) fT3__267
      have tT3__268 := gat hsT3_ (by decide) fT3__268
      refine wp_seq_k (fun K3 hK3 => ?_)
      refine wp_cond_true ((gev fT3__268).trans (congrArg Value.bool (by first | rfl | (simp; omega) | (simp; done)))) ?_
      refine wp_skip ?_
      refine hK3 _ _ ?_
      clear hK3 K3
      refine wp_seq_k (fun K4 hK4 => ?_)
      refine wp_block ?_
      refine wp_seq_k (fun K5 hK5 => ?_)
      refine wp_region_lit ?_
      refine wpList_plain rfl (fun K hK => ?_); go_simp; refine hK _ _ ?_; clear hK K
      refine wpList_plain rfl (fun K hK => ?_); go_simp; refine hK _ _ ?_; clear hK K
      refine wpList_nil ?_
      refine hK5 _ _ ?_
      clear hK5 K5
      refine absR (fun T4_ hT => ?_)
      have hsT4_ : T4_.size = 300 := by rw [hT]; simp only [Array.size_setIfInBounds]; exact hsT3_
      have fT4__3 : T4_[3]? = _ := (congrArg (fun X_ : Array Value => X_[3]?) hT).trans (gq_ne (d := 23) (by decide) (gq_ne (d := 269) (by decide) (fT3__3)))
      have fT4__4 : T4_[4]? = _ := (congrArg (fun X_ : Array Value => X_[4]?) hT).trans (gq_ne (d := 23) (by decide) (gq_ne (d := 269) (by decide) (fT3__4)))
      have fT4__6 : T4_[6]? = _ := (congrArg (fun X_ : Array Value => X_[6]?) hT).trans (gq_ne (d := 23) (by decide) (gq_ne (d := 269) (by decide) (fT3__6)))
      have fT4__8 : T4_[8]? = _ := (congrArg (fun X_ : Array Value => X_[8]?) hT).trans (gq_ne (d := 23) (by decide) (gq_ne (d := 269) (by decide) (fT3__8)))
      have fT4__9 : T4_[9]? = _ := (congrArg (fun X_ : Array Value => X_[9]?) hT).trans (gq_ne (d := 23) (by decide) (gq_ne (d := 269) (by decide) (fT3__9)))
      have fT4__16 : T4_[16]? = _ := (congrArg (fun X_ : Array Value => X_[16]?) hT).trans (gq_ne (d := 23) (by decide) (gq_ne (d := 269) (by decide) (fT3__16)))
      have fT4__267 : T4_[267]? = _ := (congrArg (fun X_ : Array Value => X_[267]?) hT).trans (gq_ne (d := 23) (by decide) (gq_ne (d := 269) (by decide) (fT3__267)))
      have fT4__23 : T4_[23]? = _ := (congrArg (fun X_ : Array Value => X_[23]?) hT).trans (gq_eq (i := 23) (by simp only [Array.size_setIfInBounds, hsT3_]; decide))
      clear hT
      clear fT3__3 tT3__3 fT3__4 tT3__4 fT3__6 tT3__6 fT3__8 tT3__8 fT3__9 tT3__9 fT3__16 tT3__16 fT3__267 tT3__267 fT3__268 tT3__268 hsT3_
      have tT4__3 := gat hsT4_ (by decide) fT4__3
      have tT4__4 := gat hsT4_ (by decide) fT4__4
      have tT4__6 := gat hsT4_ (by decide) fT4__6
      have tT4__8 := gat hsT4_ (by decide) fT4__8
      have tT4__9 := gat hsT4_ (by decide) fT4__9
      have tT4__16 := gat hsT4_ (by decide) fT4__16
      have tT4__267 := gat hsT4_ (by decide) fT4__267
      have tT4__23 := gat hsT4_ (by decide) fT4__23
      have HW := Aside0.mk (HS4.out.step (below_drew (Below.refl _ _)))
      have HX := Aside0.mk (HV4.out.step (below_drew (Below.refl _ _)))
      refine hideQ (fun QQ hQQ => ?_)
      refine start_ (n := 10) (S := fun w' => w'.cell? ⟨gh, k, none⟩ = some (.int .u32 x_) ∧ w'.cell? ⟨gv, k, none⟩ = some (.int .u32 y_)) (ds := [9]) #[false, false, false, false, false, false, false, false, false, false] (by kernel_rfl) rfl rfl ⟨HXX.out ▸ HW.out.h k (by rw [hL.out, HH8.out]; omega), HYY.out ▸ HX.out.get k (by omega)⟩ (fun hHeld => ?_)
      refine with_tabW su46.tab su46.bits (fun HT_ HW_ => ?_)
      have fz : (World.drew _).frozen? ⟨gh, k, none⟩ = false := blk_frozen HW.out.kh k
      have fc : (World.drew _).cell? ⟨gh, k, none⟩ = some _ := HW.out.h k (by rw [hL.out, HH8.out]; omega)
      refine pure_ (i := 0) (N := some 270) (v := ?_) (a' := ?_) #[true, false, false, false, false, false, false, false, false, false] rfl rfl (any_of HT_.out (by kernel_rfl)) (fun _ _ _ h => h) (Or.inl ⟨by rfl, ?_⟩) ?_ ?_
      rotate_left
      · intro w'
        go_simp
        with_reducible rfl
      rotate_left
      · simp only [Act.put, qA, q0, qS, i64_w, i32_w]
        rfl
      refine pure_ (i := 1) (N := some 271) (v := ?_) (a' := ?_) #[true, true, false, false, false, false, false, false, false, false] rfl rfl (any_of HT_.out (by kernel_rfl)) (fun _ _ _ h => h) (Or.inl ⟨by rfl, ?_⟩) ?_ ?_
      rotate_left
      · intro w'
        go_simp
        with_reducible rfl
      rotate_left
      · simp only [Act.put, qA, q0, qS, i64_w, i32_w]
        rfl
      refine pure_ (i := 3) (N := some 273) (v := ?_) (a' := ?_) #[true, true, false, true, false, false, false, false, false, false] rfl rfl (any_of HT_.out (by kernel_rfl)) (fun _ _ _ h => h) (Or.inl ⟨by rfl, ?_⟩) ?_ ?_
      rotate_left
      · intro w'
        go_simp
        with_reducible rfl
      rotate_left
      · simp only [Act.put, qA, q0, qS, i64_w, i32_w]
        rfl
      refine pure_ (i := 4) (N := some 274) (v := ?_) (a' := ?_) #[true, true, false, true, true, false, false, false, false, false] rfl rfl (any_of HT_.out (by kernel_rfl)) (fun _ _ _ h => h) (Or.inl ⟨by rfl, ?_⟩) ?_ ?_
      rotate_left
      · intro w'
        go_simp
        with_reducible rfl
      rotate_left
      · simp only [Act.put, qA, q0, qS, i64_w, i32_w]
        rfl
      refine pure_ (i := 5) (N := some 275) (v := ?_) (a' := ?_) #[true, true, false, true, true, true, false, false, false, false] rfl rfl (any_of HT_.out (by kernel_rfl)) (fun _ _ _ h => h) (Or.inl ⟨by rfl, ?_⟩) ?_ ?_
      rotate_left
      · intro w'
        go_simp
        with_reducible rfl
      rotate_left
      · simp only [Act.put, qA, q0, qS, i64_w, i32_w]
        rfl
      refine take_ (i := 2) (N := some 272) (v := ?_) (a' := ?_) #[true, true, true, true, true, true, false, false, false, false] rfl rfl (take_ofW HT_.out HW_.out (by kernel_rfl)) (fun _ _ _ h => h) (Or.inl ⟨by rfl, ?_⟩) hHeld ?_ ?_
      rotate_left
      · rintro w' ⟨s0, s1⟩
        go_simp
        with_reducible rfl
      rotate_left
      · simp only [Act.put, qA, q0, qS, i64_w, i32_w]
        rfl
      refine take_ (i := 6) (N := some 276) (v := ?_) (a' := ?_) #[true, true, true, true, true, true, true, false, false, false] rfl rfl (take_ofW HT_.out HW_.out (by kernel_rfl)) (fun _ _ _ h => h) (Or.inl ⟨by rfl, ?_⟩) hHeld ?_ ?_
      rotate_left
      · rintro w' ⟨s0, s1⟩
        go_simp
        with_reducible rfl
      rotate_left
      · simp only [Act.put, qA, q0, qS, i64_w, i32_w]
        rfl
      refine pure_ (i := 7) (N := some 277) (v := ?_) (a' := ?_) #[true, true, true, true, true, true, true, true, false, false] rfl rfl (any_of HT_.out (by kernel_rfl)) (fun _ _ _ h => h) (Or.inl ⟨by rfl, ?_⟩) ?_ ?_
      rotate_left
      · intro w'
        go_simp
        with_reducible rfl
      rotate_left
      · simp only [Act.put, qA, q0, qS, i64_w, i32_w]
        rfl
      refine pure_ (i := 8) (N := some 278) (v := ?_) (a' := ?_) #[true, true, true, true, true, true, true, true, true, false] rfl rfl (any_of HT_.out (by kernel_rfl)) (fun _ _ _ h => h) (Or.inl ⟨by rfl, ?_⟩) ?_ ?_
      rotate_left
      · intro w'
        go_simp
        with_reducible rfl
      rotate_left
      · simp only [Act.put, qA, q0, qS, i64_w, i32_w]
        rfl
      refine last_store (w1 := ?_) (i := 9) #[true, true, true, true, true, true, true, true, true, true] rfl rfl (one_of HT_.out (by kernel_rfl)) (by decide) (by rfl) ?_ ?_
      rotate_left
      · go_simp
        rfl
      refine done_ (done_of HT_.out (by kernel_rfl)) ?_
      refine hQQ _ _ ?_
      clear hQQ QQ
      refine hK4 _ _ ?_
      clear hK4 K4
      clear fz fc hk3
      have qk : IntKind.i64.wrap ((k : Int) + 1) = ((k + 1 : Nat) : Int) := by rw [IntKind.wrap_i64]; omega
      refine wp_region_lit ?_
      refine wpList_plain rfl (fun K hK => ?_); go_simp; refine hK _ _ ?_; clear hK K
      refine wpList_plain rfl (fun K hK => ?_); go_simp; refine hK _ _ ?_; clear hK K
      refine wpList_nil ?_
      refine absG (R := Exit.then _ _ Exit.normal) (fun T5_ hT => ?_)
      have hsT5_ : T5_.size = 300 := by rw [hT]; simp only [Array.size_setIfInBounds]; exact hsT4_
      have fT5__3 : T5_[3]? = _ := (congrArg (fun X_ : Array Value => X_[3]?) hT).trans (gq_ne (d := 267) (by decide) (gq_ne (d := 279) (by decide) (gq_ne (d := 278) (by decide) (gq_ne (d := 277) (by decide) (gq_ne (d := 276) (by decide) (gq_ne (d := 272) (by decide) (gq_ne (d := 275) (by decide) (gq_ne (d := 274) (by decide) (gq_ne (d := 273) (by decide) (gq_ne (d := 271) (by decide) (gq_ne (d := 270) (by decide) (fT4__3))))))))))))
      have fT5__4 : T5_[4]? = _ := (congrArg (fun X_ : Array Value => X_[4]?) hT).trans (gq_ne (d := 267) (by decide) (gq_ne (d := 279) (by decide) (gq_ne (d := 278) (by decide) (gq_ne (d := 277) (by decide) (gq_ne (d := 276) (by decide) (gq_ne (d := 272) (by decide) (gq_ne (d := 275) (by decide) (gq_ne (d := 274) (by decide) (gq_ne (d := 273) (by decide) (gq_ne (d := 271) (by decide) (gq_ne (d := 270) (by decide) (fT4__4))))))))))))
      have fT5__6 : T5_[6]? = _ := (congrArg (fun X_ : Array Value => X_[6]?) hT).trans (gq_ne (d := 267) (by decide) (gq_ne (d := 279) (by decide) (gq_ne (d := 278) (by decide) (gq_ne (d := 277) (by decide) (gq_ne (d := 276) (by decide) (gq_ne (d := 272) (by decide) (gq_ne (d := 275) (by decide) (gq_ne (d := 274) (by decide) (gq_ne (d := 273) (by decide) (gq_ne (d := 271) (by decide) (gq_ne (d := 270) (by decide) (fT4__6))))))))))))
      have fT5__8 : T5_[8]? = _ := (congrArg (fun X_ : Array Value => X_[8]?) hT).trans (gq_ne (d := 267) (by decide) (gq_ne (d := 279) (by decide) (gq_ne (d := 278) (by decide) (gq_ne (d := 277) (by decide) (gq_ne (d := 276) (by decide) (gq_ne (d := 272) (by decide) (gq_ne (d := 275) (by decide) (gq_ne (d := 274) (by decide) (gq_ne (d := 273) (by decide) (gq_ne (d := 271) (by decide) (gq_ne (d := 270) (by decide) (fT4__8))))))))))))
      have fT5__9 : T5_[9]? = _ := (congrArg (fun X_ : Array Value => X_[9]?) hT).trans (gq_ne (d := 267) (by decide) (gq_ne (d := 279) (by decide) (gq_ne (d := 278) (by decide) (gq_ne (d := 277) (by decide) (gq_ne (d := 276) (by decide) (gq_ne (d := 272) (by decide) (gq_ne (d := 275) (by decide) (gq_ne (d := 274) (by decide) (gq_ne (d := 273) (by decide) (gq_ne (d := 271) (by decide) (gq_ne (d := 270) (by decide) (fT4__9))))))))))))
      have fT5__16 : T5_[16]? = _ := (congrArg (fun X_ : Array Value => X_[16]?) hT).trans (gq_ne (d := 267) (by decide) (gq_ne (d := 279) (by decide) (gq_ne (d := 278) (by decide) (gq_ne (d := 277) (by decide) (gq_ne (d := 276) (by decide) (gq_ne (d := 272) (by decide) (gq_ne (d := 275) (by decide) (gq_ne (d := 274) (by decide) (gq_ne (d := 273) (by decide) (gq_ne (d := 271) (by decide) (gq_ne (d := 270) (by decide) (fT4__16))))))))))))
      have fT5__267 : T5_[267]? = _ := (congrArg (fun X_ : Array Value => X_[267]?) hT).trans (gq_eq (i := 267) (by simp only [Array.size_setIfInBounds, hsT4_]; decide))
      clear hT
      clear fT4__3 tT4__3 fT4__4 tT4__4 fT4__6 tT4__6 fT4__8 tT4__8 fT4__9 tT4__9 fT4__16 tT4__16 fT4__267 tT4__267 fT4__23 tT4__23 hsT4_
      have tT5__3 := gat hsT5_ (by decide) fT5__3
      have tT5__4 := gat hsT5_ (by decide) fT5__4
      have tT5__6 := gat hsT5_ (by decide) fT5__6
      have tT5__8 := gat hsT5_ (by decide) fT5__8
      have tT5__9 := gat hsT5_ (by decide) fT5__9
      have tT5__16 := gat hsT5_ (by decide) fT5__16
      have tT5__267 := gat hsT5_ (by decide) fT5__267
      have HWX := (HS4.out.setH k (IntKind.u32.wrap (x_ + y_))).step (below_drew (Below.refl _ _))
      have HVX := (HV4.out.set (g' := gh) (j := k) (u := .int .u32 (IntKind.u32.wrap (x_ + y_))) HS4.out.kh (by decide)).step (below_drew (Below.refl _ _))
      refine ⟨⟨_, k + 1, rfl, hsT5_, fT5__3, fT5__4, fT5__6, fT5__8, fT5__9, fT5__16, fT5__267, by omega, ⟨by rw [adI, adS, ← HXX.out, ← HYY.out]; exact HWX⟩, ⟨HVX⟩⟩, by show _ - (intOf (T5_[267]?.getD undef)).toNat < _ - (intOf (T2_[267]?.getD undef)).toNat; rw [fT5__267, fT2__267]; simp [intOf]; omega⟩
    · obtain rfl : k = 8 := by omega
      refine wp_seq_k (fun K6 hK6 => ?_)
      refine wp_region_lit ?_
      refine wpList_plain rfl (fun K hK => ?_); go_simp; refine hK _ _ ?_; clear hK K
      refine wpList_nil ?_
      refine hK6 _ _ ?_
      clear hK6 K6
      refine absR (fun T6_ hT => ?_)
      have hsT6_ : T6_.size = 300 := by rw [hT]; simp only [Array.size_setIfInBounds]; exact hsT2_
      have fT6__3 : T6_[3]? = _ := (congrArg (fun X_ : Array Value => X_[3]?) hT).trans (gq_ne (d := 268) (by decide) (fT2__3))
      have fT6__4 : T6_[4]? = _ := (congrArg (fun X_ : Array Value => X_[4]?) hT).trans (gq_ne (d := 268) (by decide) (fT2__4))
      have fT6__6 : T6_[6]? = _ := (congrArg (fun X_ : Array Value => X_[6]?) hT).trans (gq_ne (d := 268) (by decide) (fT2__6))
      have fT6__8 : T6_[8]? = _ := (congrArg (fun X_ : Array Value => X_[8]?) hT).trans (gq_ne (d := 268) (by decide) (fT2__8))
      have fT6__9 : T6_[9]? = _ := (congrArg (fun X_ : Array Value => X_[9]?) hT).trans (gq_ne (d := 268) (by decide) (fT2__9))
      have fT6__268 : T6_[268]? = _ := (congrArg (fun X_ : Array Value => X_[268]?) hT).trans (gq_eq (i := 268) (by simp only [Array.size_setIfInBounds, hsT2_]; decide))
      clear hT
      clear tT2__3 tT2__4 tT2__6 tT2__8 tT2__9 tT2__16 tT2__267
      have tT6__3 := gat hsT6_ (by decide) fT6__3
      have tT6__4 := gat hsT6_ (by decide) fT6__4
      have tT6__6 := gat hsT6_ (by decide) fT6__6
      have tT6__8 := gat hsT6_ (by decide) fT6__8
      have tT6__9 := gat hsT6_ (by decide) fT6__9
      have tT6__268 := gat hsT6_ (by decide) fT6__268
      refine wp_seq_k (fun K7 hK7 => ?_)
      refine wp_cond_false ((gev fT6__268).trans (congrArg Value.bool (by first | rfl | (simp; omega) | (simp; done)))) ?_
      refine wp_exit ?_
      exact HQ.out _ _ hsT6_ fT6__3 fT6__4 fT6__6 fT6__8 fT6__9 HS4
end Go.Proofs.Ytlnknihjccdgkaa.M
