/- The reference's SHA-256: what is handed back. -/
import Derived.Test.YtlnknihjccdgkaaS5
namespace Go.Proofs.Ytlnknihjccdgkaa.M
open Go.RowKit Go.Proofs.YtlnknihjccdgkaaW.PrintWords Go.Proofs.YtlnknihjccdgkaaW.PrintLast Go.Proofs.YtlnknihjccdgkaaW.PrintMore Go.Proofs.Ytlnknihjccdgkaa.PFnMessage
set_option linter.unusedVariables false
set_option linter.unusedSimpArgs false

theorem rd4 (W : World) (a b c d : Int) : RdB (W.alloc (.cells #[.int .u8 a, .int .u8 b, .int .u8 c, .int .u8 d] 5)) (.slice (some ⟨W.heap.size, 0, none⟩) 4 4) [a, b, c, d] := by
  refine ⟨_, _, rfl, Nat.le_refl _, C_of_ints ⟨rfl, by show (4 : Nat) ≤ _; decide, fun _ => ⟨_, rfl, ?_⟩⟩⟩
  intro j hj
  have e : Addr.add ⟨W.heap.size, 0, none⟩ j = ⟨W.heap.size, j, none⟩ := by simp [Addr.add]; intro h; exact h.symm
  rw [e, blk_cell (blk_new _ _)]
  match j, hj with
  | 0, _ => rfl
  | 1, _ => rfl
  | 2, _ => rfl
  | 3, _ => rfl
theorem index8 {cs : Array Value} {x : Int} {k : Nat} (w : World) (hk : k < 8) (h : cs[k]? = some (.int .u32 x)) : (Instr.index 51 (.agg cs) (.int .i64 k)).run Try.prog w = .ok (.int .u32 x) w := by
  have h1 : (k : Int) < 8 := by omega
  simp [Instr.index, run_underlying Try.underlying51, asIntOf, h1, go_sem]
  rw [if_pos hk, h]
  rfl
def out4 (x : Int) : List Int := [IntKind.u8.wrap (x / 16777216), IntKind.u8.wrap (x / 65536), IntKind.u8.wrap (x / 256), IntKind.u8.wrap x]
def outL (hs : List Int) : Nat → List Int
  | 0 => []
  | k + 1 => outL hs k ++ out4 (hs.getD k 0)
theorem outL_len (hs : List Int) : ∀ k, (outL hs k).length = 4 * k
  | 0 => rfl
  | k + 1 => by rw [outL, List.length_append, outL_len]; simp [out4]; omega

set_option maxHeartbeats 8000000 in
set_option maxRecDepth 1000000 in
theorem su_out (C : Code) (hC : C = at_ [1, 1, 1, 1, 1, 1, 1, 1, 1, 1, 0] (Try.f9.body.getD .skip)) (Q : Exit → Act → World → Prop) (T0_ : Array Value) (w wr : World) (gh : Nat) (hs : List Int)
    (hsT0_ : T0_.size = 300) (fT0__3 : T0_[3]? = some (.pointer (some ⟨gh, 0, none⟩))) (fT0__24 : T0_[24]? = some (.slice none 0 0))
    (HO3 : Aside0 (Own w wr (.slice none 0 0) [])) (KH3 : Aside0 (wr.heap[gh]? = some (.cells (nums .u32 hs).toArray 51 (0, 0)))) (hhs : hs.length = 8)
    (hQ : ∀ (T : Array Value) (W : World) (v : Value), T.size = 300 → T[24]? = some v → Aside0 (Own w W v (outL hs 8)) → Q .normal ⟨T, []⟩ W) :
    Code.wp Try.prog C Q ⟨T0_, []⟩ wr := by
  subst hC
  conv => arg 2; whnf
  have HH8 := Aside0.mk hhs
  have HQ := Aside0.mk hQ
  clear hhs hQ
  have tT0__3 := gat hsT0_ (by decide) fT0__3
  have tT0__24 := gat hsT0_ (by decide) fT0__24
  refine wp_seq_k (fun K1 hK1 => ?_)
  refine wp_region_lit ?_
  refine wpList_load_row rfl 51 (.tmp 3) rfl gh (gev fT0__3) 51 (nums .u32 hs).toArray (0, 0) _ KH3.out Try.underlying51 rfl (by rw [show (nums .u32 hs).toArray.size = 8 from by simp [nums, HH8.out]]; kernel_rfl) ?_
  refine wpList_plain rfl (fun K hK => ?_); go_simp; refine hK _ _ ?_; clear hK K
  refine wpList_nil ?_
  refine hK1 _ _ ?_
  clear hK1 K1
  refine absR (fun T1_ hT => ?_)
  have hsT1_ : T1_.size = 300 := by rw [hT]; simp only [Array.size_setIfInBounds]; exact hsT0_
  have fT1__24 : T1_[24]? = _ := (congrArg (fun X_ : Array Value => X_[24]?) hT).trans (gq_ne (d := 281) (by decide) (gq_ne (d := 280) (by decide) (fT0__24)))
  have fT1__280 : T1_[280]? = _ := (congrArg (fun X_ : Array Value => X_[280]?) hT).trans (gq_ne (d := 281) (by decide) (gq_eq (i := 280) (by simp only [Array.size_setIfInBounds, hsT0_]; decide)))
  have fT1__281 : T1_[281]? = _ := (congrArg (fun X_ : Array Value => X_[281]?) hT).trans (gq_eq (i := 281) (by simp only [Array.size_setIfInBounds, hsT0_]; decide))
  clear hT
  clear fT0__3 tT0__3 fT0__24 tT0__24 hsT0_
  have tT1__24 := gat hsT1_ (by decide) fT1__24
  have tT1__280 := gat hsT1_ (by decide) fT1__280
  have tT1__281 := gat hsT1_ (by decide) fT1__281
  refine wp_block ?_
  refine wp_loop (fun a W => ∃ (T : Array Value) (k : Nat) (v : Value), a = ⟨T, []⟩ ∧ T.size = 300 ∧ T[24]? = some (v) ∧ T[280]? = some (.agg (nums .u32 hs).toArray) ∧ T[281]? = some (.int .i64 (k : Int)) ∧ k ≤ 8 ∧ Aside0 (Own w W v (outL hs k))) (fun a W => 8 - (intOf (a.tmps[281]?.getD undef)).toNat) ?_ ?_
  · exact ⟨_, 0, _, rfl, hsT1_, fT1__24, fT1__280, fT1__281, by omega, HO3⟩
  · rintro _ wr ⟨T2_, k, v, rfl, hsT2_, fT2__24, fT2__280, fT2__281, hk, HO4⟩
    have tT2__24 := gat hsT2_ (by decide) fT2__24
    have tT2__280 := gat hsT2_ (by decide) fT2__280
    have tT2__281 := gat hsT2_ (by decide) fT2__281
    clear HO3 KH3
    by_cases hk2 : k < 8
    · skip
      obtain ⟨x_, hx⟩ : ∃ x_, x_ = hs.getD k 0 := ⟨_, rfl⟩
      have HXX := Aside0.mk hx
      clear hx
      have hk3 : (k : Int) < 8 := by omega
      have hL := Aside0.mk (outL_len hs k)
      have hix : (nums .u32 hs).toArray[k]? = some (.int .u32 x_) := HXX.out ▸ nums_get (by rw [HH8.out]; omega)
      have hsz8 : (nums .u32 hs).toArray.size = 8 := by simp [nums, HH8.out]
      refine wp_seq_k (fun K2 hK2 => ?_)
      refine wp_region_lit ?_
      refine wpList_plain rfl (fun K hK => ?_); go_simp; refine hK _ _ ?_; clear hK K
      refine wpList_nil ?_
      refine hK2 _ _ ?_
      clear hK2 K2
      refine absR (fun T3_ hT => ?_)
      have hsT3_ : T3_.size = 300 := by rw [hT]; simp only [Array.size_setIfInBounds]; exact hsT2_
      have fT3__24 : T3_[24]? = _ := (congrArg (fun X_ : Array Value => X_[24]?) hT).trans (gq_ne (d := 282) (by decide) (fT2__24))
      have fT3__280 : T3_[280]? = _ := (congrArg (fun X_ : Array Value => X_[280]?) hT).trans (gq_ne (d := 282) (by decide) (fT2__280))
      have fT3__281 : T3_[281]? = _ := (congrArg (fun X_ : Array Value => X_[281]?) hT).trans (gq_ne (d := 282) (by decide) (fT2__281))
      have fT3__282 : T3_[282]? = _ := (congrArg (fun X_ : Array Value => X_[282]?) hT).trans (gq_eq (i := 282) (by simp only [Array.size_setIfInBounds, hsT2_]; decide))
      clear hT
      clear tT2__24 tT2__280 tT2__281
      have tT3__24 := gat hsT3_ (by decide) fT3__24
      have tT3__280 := gat hsT3_ (by decide) fT3__280
      have tT3__281 := gat hsT3_ (by decide) fT3__281
      have tT3__282 := gat hsT3_ (by decide) fT3__282
      refine wp_seq_k (fun K3 hK3 => ?_)
      refine wp_cond_true ((gev fT3__282).trans (congrArg Value.bool (by first | rfl | (simp; omega) | (simp; done)))) ?_
      refine wp_skip ?_
      refine hK3 _ _ ?_
      clear hK3 K3
      refine wp_seq_k (fun K4 hK4 => ?_)
      refine wp_block ?_
      refine wp_seq_k (fun K5 hK5 => ?_)
      refine wp_region_lit ?_
      refine wpList_plain rfl (fun K hK => ?_); go_simp; rw [index8 _ hk2 hix]; go_simp; refine hK _ _ ?_; clear hK K
      refine wpList_plain rfl (fun K hK => ?_); go_simp; refine hK _ _ ?_; clear hK K
      refine wpList_nil ?_
      refine hK5 _ _ ?_
      clear hK5 K5
      refine absR (fun T4_ hT => ?_)
      have hsT4_ : T4_.size = 300 := by rw [hT]; simp only [Array.size_setIfInBounds]; exact hsT3_
      have fT4__24 : T4_[24]? = _ := (congrArg (fun X_ : Array Value => X_[24]?) hT).trans (gq_ne (d := 26) (by decide) (gq_ne (d := 283) (by decide) (fT3__24)))
      have fT4__280 : T4_[280]? = _ := (congrArg (fun X_ : Array Value => X_[280]?) hT).trans (gq_ne (d := 26) (by decide) (gq_ne (d := 283) (by decide) (fT3__280)))
      have fT4__281 : T4_[281]? = _ := (congrArg (fun X_ : Array Value => X_[281]?) hT).trans (gq_ne (d := 26) (by decide) (gq_ne (d := 283) (by decide) (fT3__281)))
      have fT4__26 : T4_[26]? = _ := (congrArg (fun X_ : Array Value => X_[26]?) hT).trans (gq_eq (i := 26) (by simp only [Array.size_setIfInBounds, hsT3_]; decide))
      clear hT
      clear fT3__24 tT3__24 fT3__280 tT3__280 fT3__281 tT3__281 fT3__282 tT3__282 hsT3_
      have tT4__24 := gat hsT4_ (by decide) fT4__24
      have tT4__280 := gat hsT4_ (by decide) fT4__280
      have tT4__281 := gat hsT4_ (by decide) fT4__281
      have tT4__26 := gat hsT4_ (by decide) fT4__26
      clear hix hsz8
      refine wp_region_lit ?_
      refine wpList_plain rfl (fun K hK => ?_); go_simp; refine hK _ _ ?_; clear hK K
      refine wpList_plain rfl (fun K hK => ?_); go_simp; refine hK _ _ ?_; clear hK K
      refine wpList_plain rfl (fun K hK => ?_); go_simp; refine hK _ _ ?_; clear hK K
      refine wpList_plain rfl (fun K hK => ?_); go_simp; refine hK _ _ ?_; clear hK K
      refine wpList_plain rfl (fun K hK => ?_); go_simp; refine hK _ _ ?_; clear hK K
      refine wpList_plain rfl (fun K hK => ?_); go_simp; refine hK _ _ ?_; clear hK K
      refine wpList_plain rfl (fun K hK => ?_); go_simp; refine hK _ _ ?_; clear hK K
      refine wpList_plain rfl (fun K hK => ?_); go_simp; refine hK _ _ ?_; clear hK K
      refine wpList_plain rfl (fun K hK => ?_); go_simp; refine hK _ _ ?_; clear hK K
      refine wpList_plain rfl (fun K hK => ?_); go_simp; refine hK _ _ ?_; clear hK K
      refine wpList_plain rfl (fun K hK => ?_); go_simp; refine hK _ _ ?_; clear hK K
      refine wpList_plain rfl (fun K hK => ?_); go_simp; refine hK _ _ ?_; clear hK K
      refine wpList_plain rfl (fun K hK => ?_); go_simp; refine hK _ _ ?_; clear hK K
      refine own_appendN (w0 := w) rfl (.tmp 284) (.tmp 296) rfl v (.slice (some ⟨wr.heap.size, 0, none⟩) 4 4) (outL hs k) (out4 x_) (by go_simp) (by go_simp) (HO4.out.step (below_alloc (Below.refl _ _) _)) (rd4 _ _ _ _ _) (by rw [hL.out]; simp only [out4, List.length_cons, List.length_nil]; omega) ?_
      intro v1 w1 ho hoth
      have HO5 := Aside0.mk ho
      clear ho hoth
      simp only [Act.put]
      refine wpList_plain rfl (fun K hK => ?_); go_simp; refine hK _ _ ?_; clear hK K
      refine wpList_nil ?_
      refine hK4 _ _ ?_
      clear hK4 K4
      refine absR (fun T5_ hT => ?_)
      have hsT5_ : T5_.size = 300 := by rw [hT]; simp only [Array.size_setIfInBounds]; exact hsT4_
      have fT5__24 : T5_[24]? = _ := (congrArg (fun X_ : Array Value => X_[24]?) hT).trans (gq_eq (i := 24) (by simp only [Array.size_setIfInBounds, hsT4_]; decide))
      have fT5__280 : T5_[280]? = _ := (congrArg (fun X_ : Array Value => X_[280]?) hT).trans (gq_ne (d := 24) (by decide) (gq_ne (d := 297) (by decide) (gq_ne (d := 296) (by decide) (gq_ne (d := 295) (by decide) (gq_ne (d := 294) (by decide) (gq_ne (d := 293) (by decide) (gq_ne (d := 292) (by decide) (gq_ne (d := 291) (by decide) (gq_ne (d := 290) (by decide) (gq_ne (d := 289) (by decide) (gq_ne (d := 288) (by decide) (gq_ne (d := 287) (by decide) (gq_ne (d := 286) (by decide) (gq_ne (d := 285) (by decide) (gq_ne (d := 284) (by decide) (fT4__280))))))))))))))))
      have fT5__281 : T5_[281]? = _ := (congrArg (fun X_ : Array Value => X_[281]?) hT).trans (gq_ne (d := 24) (by decide) (gq_ne (d := 297) (by decide) (gq_ne (d := 296) (by decide) (gq_ne (d := 295) (by decide) (gq_ne (d := 294) (by decide) (gq_ne (d := 293) (by decide) (gq_ne (d := 292) (by decide) (gq_ne (d := 291) (by decide) (gq_ne (d := 290) (by decide) (gq_ne (d := 289) (by decide) (gq_ne (d := 288) (by decide) (gq_ne (d := 287) (by decide) (gq_ne (d := 286) (by decide) (gq_ne (d := 285) (by decide) (gq_ne (d := 284) (by decide) (fT4__281))))))))))))))))
      clear hT
      clear fT4__24 tT4__24 fT4__280 tT4__280 fT4__281 tT4__281 fT4__26 tT4__26 hsT4_
      have tT5__24 := gat hsT5_ (by decide) fT5__24
      have tT5__280 := gat hsT5_ (by decide) fT5__280
      have tT5__281 := gat hsT5_ (by decide) fT5__281
      have qk : IntKind.i64.wrap ((k : Int) + 1) = ((k + 1 : Nat) : Int) := by rw [IntKind.wrap_i64]; omega
      clear hk3
      refine wp_region_lit ?_
      refine wpList_plain rfl (fun K hK => ?_); go_simp; refine hK _ _ ?_; clear hK K
      refine wpList_plain rfl (fun K hK => ?_); go_simp; refine hK _ _ ?_; clear hK K
      refine wpList_nil ?_
      refine absG (R := Exit.then _ _ Exit.normal) (fun T6_ hT => ?_)
      have hsT6_ : T6_.size = 300 := by rw [hT]; simp only [Array.size_setIfInBounds]; exact hsT5_
      have fT6__24 : T6_[24]? = _ := (congrArg (fun X_ : Array Value => X_[24]?) hT).trans (gq_ne (d := 281) (by decide) (gq_ne (d := 298) (by decide) (fT5__24)))
      have fT6__280 : T6_[280]? = _ := (congrArg (fun X_ : Array Value => X_[280]?) hT).trans (gq_ne (d := 281) (by decide) (gq_ne (d := 298) (by decide) (fT5__280)))
      have fT6__281 : T6_[281]? = _ := (congrArg (fun X_ : Array Value => X_[281]?) hT).trans (gq_eq (i := 281) (by simp only [Array.size_setIfInBounds, hsT5_]; decide))
      clear hT
      clear fT5__24 tT5__24 fT5__280 tT5__280 fT5__281 tT5__281 hsT5_
      have tT6__24 := gat hsT6_ (by decide) fT6__24
      have tT6__280 := gat hsT6_ (by decide) fT6__280
      have tT6__281 := gat hsT6_ (by decide) fT6__281
      refine ⟨⟨_, k + 1, _, rfl, hsT6_, fT6__24, fT6__280, fT6__281, by omega, ⟨by rw [outL, ← HXX.out]; exact HO5.out⟩⟩, by show _ - (intOf (T6_[281]?.getD undef)).toNat < _ - (intOf (T2_[281]?.getD undef)).toNat; rw [fT6__281, fT2__281]; simp [intOf]; omega⟩
    · obtain rfl : k = 8 := by omega
      refine wp_seq_k (fun K6 hK6 => ?_)
      refine wp_region_lit ?_
      refine wpList_plain rfl (fun K hK => ?_); go_simp; refine hK _ _ ?_; clear hK K
      refine wpList_nil ?_
      refine hK6 _ _ ?_
      clear hK6 K6
      refine absR (fun T7_ hT => ?_)
      have hsT7_ : T7_.size = 300 := by rw [hT]; simp only [Array.size_setIfInBounds]; exact hsT2_
      have fT7__24 : T7_[24]? = _ := (congrArg (fun X_ : Array Value => X_[24]?) hT).trans (gq_ne (d := 282) (by decide) (fT2__24))
      have fT7__282 : T7_[282]? = _ := (congrArg (fun X_ : Array Value => X_[282]?) hT).trans (gq_eq (i := 282) (by simp only [Array.size_setIfInBounds, hsT2_]; decide))
      clear hT
      clear tT2__24 tT2__280 tT2__281
      have tT7__24 := gat hsT7_ (by decide) fT7__24
      have tT7__282 := gat hsT7_ (by decide) fT7__282
      refine wp_seq_k (fun K7 hK7 => ?_)
      refine wp_cond_false ((gev fT7__282).trans (congrArg Value.bool (by first | rfl | (simp; omega) | (simp; done)))) ?_
      refine wp_exit ?_
      exact HQ.out _ _ _ hsT7_ fT7__24 HO4
end Go.Proofs.Ytlnknihjccdgkaa.M
