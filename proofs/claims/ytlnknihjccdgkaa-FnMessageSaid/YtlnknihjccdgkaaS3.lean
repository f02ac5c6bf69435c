/- The reference's SHA-256: the plain functions, and the walk of the words from 16 on. -/
import Derived.Test.YtlnknihjccdgkaaS1
namespace Go.Proofs.Ytlnknihjccdgkaa.M
open Go.RowKit Go.Proofs.YtlnknihjccdgkaaW.PrintWords Go.Proofs.YtlnknihjccdgkaaW.PrintLast Go.Proofs.YtlnknihjccdgkaaW.PrintMore Go.Proofs.Ytlnknihjccdgkaa.PFnMessage
set_option linter.unusedVariables false
set_option linter.unusedSimpArgs false

/-- A block's words: one byte more, a word more. -/
def ldS (m : List Int) (at_ : Nat) (ws : List Int) (i c : Nat) : List Int := ws.set i (bits .or .u32 (IntKind.u32.wrap (ws.getD i 0 * 256)) (IntKind.u32.wrap (m.getD (at_ + 4 * i + c) 0)))
def ldC (m : List Int) (at_ : Nat) (ws : List Int) (i : Nat) : Nat → List Int
  | 0 => ws
  | c + 1 => ldS m at_ (ldC m at_ ws i c) i c
def ldI (m : List Int) (at_ : Nat) : Nat → List Int
  | 0 => List.replicate 64 0
  | i + 1 => ldC m at_ (ldI m at_ i) i 4
theorem ldC_len (m : List Int) (at_ : Nat) (ws : List Int) (i : Nat) : ∀ c, (ldC m at_ ws i c).length = ws.length
  | 0 => rfl
  | c + 1 => by rw [ldC, ldS, List.length_set, ldC_len]
theorem ldI_len (m : List Int) (at_ : Nat) : ∀ i, (ldI m at_ i).length = 64
  | 0 => by simp [ldI]
  | i + 1 => by rw [ldI, ldC_len, ldI_len]
def g0 (x : Int) : Int := bits .xor .u32 (bits .xor .u32 (tn x 7) (tn x 18)) (x / 8)
def g1 (x : Int) : Int := bits .xor .u32 (bits .xor .u32 (tn x 17) (tn x 19)) (x / 1024)
def exS (ws : List Int) (i : Nat) : List Int := ws.set i (IntKind.u32.wrap (IntKind.u32.wrap (IntKind.u32.wrap (ws.getD (i - 16) 0 + g0 (ws.getD (i - 15) 0)) + ws.getD (i - 7) 0) + g1 (ws.getD (i - 2) 0)))
def exI (ws : List Int) : Nat → List Int
  | 0 => ws
  | k + 1 => exS (exI ws k) (16 + k)
theorem exI_len (ws : List Int) : ∀ k, (exI ws k).length = ws.length
  | 0 => rfl
  | k + 1 => by rw [exI, exS, List.length_set, exI_len]

def su29.T : Bool × List (List Nat × List Nat) := (true, [([], []), ([], []), ([1], [1]), ([2], [2]), ([3], [3]), ([0, 4], [0, 4]), ([], []), ([], []), ([7], [7]), ([8], [8]), ([9], [9]), ([6, 10, 5], [6, 10]), ([5, 11], [5, 11]), ([], []), ([13], [13]), ([14], [14]), ([15], [15]), ([16], [16]), ([12, 17], [12, 17]), ([18, 11, 0, 1, 2, 3, 4, 5, 6, 7, 8, 9, 10, 11, 12, 13, 14, 15, 16, 17, 18], [18])])
def su29.B : List Nat := [0, 0, 2, 6, 14, 31, 0, 0, 128, 384, 896, 2047, 4095, 0, 8192, 24576, 57344, 122880, 262143, 524287]
theorem su29.tab : rtab .any (opsOf Try.f9 29) = su29.T := by kernel_rfl
theorem su29.bits : waitsOk su29.T.2 su29.B = true := by kernel_rfl
def su30.T : Bool × List (List Nat × List Nat) := (true, [([], []), ([], []), ([1], [1]), ([2], [2]), ([3], [3]), ([0, 4], [0, 4]), ([], []), ([], []), ([7], [7]), ([8], [8]), ([9], [9]), ([6, 10, 5], [6, 10]), ([5, 11], [5, 11]), ([], []), ([13], [13]), ([14], [14]), ([15], [15]), ([16], [16]), ([12, 17], [12, 17]), ([18, 11, 0, 1, 2, 3, 4, 5, 6, 7, 8, 9, 10, 11, 12, 13, 14, 15, 16, 17, 18], [18])])
def su30.B : List Nat := [0, 0, 2, 6, 14, 31, 0, 0, 128, 384, 896, 2047, 4095, 0, 8192, 24576, 57344, 122880, 262143, 524287]
theorem su30.tab : rtab .any (opsOf Try.f9 30) = su30.T := by kernel_rfl
theorem su30.bits : waitsOk su30.T.2 su30.B = true := by kernel_rfl
def su31.T : Bool × List (List Nat × List Nat) := (true, [([], []), ([], []), ([1], [1]), ([2], [2]), ([3], [3]), ([], []), ([4, 5], [4, 5]), ([], []), ([7], [7]), ([8], [8]), ([9], [9]), ([6, 10], [6, 10]), ([], []), ([11, 12], [11, 12]), ([0, 0, 1, 2, 3, 4, 5, 6, 7, 8, 9, 10, 11, 12, 13], [0]), ([14, 13, 0, 1, 2, 3, 4, 5, 6, 7, 8, 9, 10, 11, 12, 13], [13, 14])])
def su31.B : List Nat := [0, 0, 2, 6, 14, 0, 62, 0, 128, 384, 896, 2046, 0, 8190, 16383, 32767]
theorem su31.tab : rtab .any (opsOf Try.f9 31) = su31.T := by kernel_rfl
theorem su31.bits : waitsOk su31.T.2 su31.B = true := by kernel_rfl

set_option maxHeartbeats 8000000 in
set_option maxRecDepth 1000000 in
theorem su_words (C : Code) (hC : C = at_ [1, 1, 1, 1, 1, 1, 1, 1, 0, 1, 0, 0, 1, 0, 0, 1, 1, 0] (Try.f9.body.getD .skip)) (Q : Exit → Act → World → Prop) (T0_ : Array Value) (w wr : World) (gh gk gw : Nat) (u : Value) (at_ : Int) (m hs ws : List Int)
    (hsT0_ : T0_.size = 300) (fT0__3 : T0_[3]? = some (.pointer (some ⟨gh, 0, none⟩))) (fT0__4 : T0_[4]? = some (.pointer (some ⟨gk, 0, none⟩))) (fT0__6 : T0_[6]? = some u) (fT0__8 : T0_[8]? = some (.func (.func 23) #[] #[])) (fT0__9 : T0_[9]? = some (.int .i64 at_)) (fT0__10 : T0_[10]? = some (.pointer (some ⟨gw, 0, none⟩)))
    (HS3 : Aside0 (St w wr gh gk gw u m hs ws)) (hws : ws.length = 64)
    (hQ : ∀ (T : Array Value) (W : World), T.size = 300 → T[3]? = some (.pointer (some ⟨gh, 0, none⟩)) → T[4]? = some (.pointer (some ⟨gk, 0, none⟩)) → T[6]? = some u → T[8]? = some (.func (.func 23) #[] #[]) → T[9]? = some (.int .i64 at_) → T[10]? = some (.pointer (some ⟨gw, 0, none⟩)) → Aside0 (St w W gh gk gw u m hs (exI ws 48)) → Q .normal ⟨T, []⟩ W) :
    Code.wp Try.prog C Q ⟨T0_, []⟩ wr := by
  subst hC
  conv => arg 2; whnf
  have HW64 := Aside0.mk hws
  have HQ := Aside0.mk hQ
  clear hws hQ
  have tT0__3 := gat hsT0_ (by decide) fT0__3
  have tT0__4 := gat hsT0_ (by decide) fT0__4
  have tT0__6 := gat hsT0_ (by decide) fT0__6
  have tT0__8 := gat hsT0_ (by decide) fT0__8
  have tT0__9 := gat hsT0_ (by decide) fT0__9
  have tT0__10 := gat hsT0_ (by decide) fT0__10
  refine wp_seq_k (fun K1 hK1 => ?_)
  refine wp_region_lit ?_
  refine wpList_plain rfl (fun K hK => ?_); go_simp; refine hK _ _ ?_; clear hK K
  refine wpList_nil ?_
  refine hK1 _ _ ?_
  clear hK1 K1
  refine absR (fun T1_ hT => ?_)
  have hsT1_ : T1_.size = 300 := by rw [hT]; simp only [Array.size_setIfInBounds]; exact hsT0_
  have fT1__3 : T1_[3]? = _ := (congrArg (fun X_ : Array Value => X_[3]?) hT).trans (gq_ne (d := 13) (by decide) (fT0__3))
  have fT1__4 : T1_[4]? = _ := (congrArg (fun X_ : Array Value => X_[4]?) hT).trans (gq_ne (d := 13) (by decide) (fT0__4))
  have fT1__6 : T1_[6]? = _ := (congrArg (fun X_ : Array Value => X_[6]?) hT).trans (gq_ne (d := 13) (by decide) (fT0__6))
  have fT1__8 : T1_[8]? = _ := (congrArg (fun X_ : Array Value => X_[8]?) hT).trans (gq_ne (d := 13) (by decide) (fT0__8))
  have fT1__9 : T1_[9]? = _ := (congrArg (fun X_ : Array Value => X_[9]?) hT).trans (gq_ne (d := 13) (by decide) (fT0__9))
  have fT1__10 : T1_[10]? = _ := (congrArg (fun X_ : Array Value => X_[10]?) hT).trans (gq_ne (d := 13) (by decide) (fT0__10))
  have fT1__13 : T1_[13]? = _ := (congrArg (fun X_ : Array Value => X_[13]?) hT).trans (gq_eq (i := 13) (by simp only [Array.size_setIfInBounds, hsT0_]; decide))
  clear hT
  clear fT0__3 tT0__3 fT0__4 tT0__4 fT0__6 tT0__6 fT0__8 tT0__8 fT0__9 tT0__9 fT0__10 tT0__10 hsT0_
  have tT1__3 := gat hsT1_ (by decide) fT1__3
  have tT1__4 := gat hsT1_ (by decide) fT1__4
  have tT1__6 := gat hsT1_ (by decide) fT1__6
  have tT1__8 := gat hsT1_ (by decide) fT1__8
  have tT1__9 := gat hsT1_ (by decide) fT1__9
  have tT1__10 := gat hsT1_ (by decide) fT1__10
  have tT1__13 := gat hsT1_ (by decide) fT1__13
  refine wp_block ?_
  refine wp_loop (fun a W => ∃ (T : Array Value) (k : Nat), a = ⟨T, []⟩ ∧ T.size = 300 ∧ T[3]? = some (.pointer (some ⟨gh, 0, none⟩)) ∧ T[4]? = some (.pointer (some ⟨gk, 0, none⟩)) ∧ T[6]? = some (u) ∧ T[8]? = some (.func (.func 23) #[] #[]) ∧ T[9]? = some (.int .i64 at_) ∧ T[10]? = some (.pointer (some ⟨gw, 0, none⟩)) ∧ T[13]? = some (.int .i64 ((16 + k : Nat) : Int)) ∧ k ≤ 48 ∧ Aside0 (St w W gh gk gw u m hs (exI ws k))) (fun a W => 64 - (intOf (a.tmps[13]?.getD undef)).toNat) ?_ ?_
  · exact ⟨_, 0, rfl, hsT1_, fT1__3, fT1__4, fT1__6, fT1__8, fT1__9, fT1__10, fT1__13, by omega, HS3⟩
  · rintro _ wr ⟨T2_, k, rfl, hsT2_, fT2__3, fT2__4, fT2__6, fT2__8, fT2__9, fT2__10, fT2__13, hk, HS4⟩
    have tT2__3 := gat hsT2_ (by decide) fT2__3
    have tT2__4 := gat hsT2_ (by decide) fT2__4
    have tT2__6 := gat hsT2_ (by decide) fT2__6
    have tT2__8 := gat hsT2_ (by decide) fT2__8
    have tT2__9 := gat hsT2_ (by decide) fT2__9
    have tT2__10 := gat hsT2_ (by decide) fT2__10
    have tT2__13 := gat hsT2_ (by decide) fT2__13
    clear HS3
    obtain ⟨i, hi⟩ : ∃ i, i = 16 + k := ⟨_, rfl⟩
    rw [← hi] at fT2__13 tT2__13
    have HI := Aside0.mk hi
    have hi0 : 16 ≤ i := by omega
    by_cases hk2 : k < 48
    · skip
      have hi1 : i < 64 := by omega
      clear hi
      refine wp_seq_k (fun K2 hK2 => ?_)
      refine wp_seq_k (fun K3 hK3 => ?_)
      refine wp_region_lit ?_
      refine wpList_plain rfl (fun K hK => ?_); go_simp; refine hK _ _ ?_; clear hK K
      refine wpList_plain rfl (fun K hK => ?_); go_simp; refine hK _ _ ?_; clear hK K
      refine wpList_nil ?_
      refine hK3 _ _ ?_
      clear hK3 K3
      refine absR (fun T3_ hT => ?_)
      have hsT3_ : T3_.size = 300 := by rw [hT]; simp only [Array.size_setIfInBounds]; exact hsT2_
      have fT3__3 : T3_[3]? = _ := (congrArg (fun X_ : Array Value => X_[3]?) hT).trans (gq_ne (d := 88) (by decide) (gq_ne (d := 87) (by decide) (fT2__3)))
      have fT3__4 : T3_[4]? = _ := (congrArg (fun X_ : Array Value => X_[4]?) hT).trans (gq_ne (d := 88) (by decide) (gq_ne (d := 87) (by decide) (fT2__4)))
      have fT3__6 : T3_[6]? = _ := (congrArg (fun X_ : Array Value => X_[6]?) hT).trans (gq_ne (d := 88) (by decide) (gq_ne (d := 87) (by decide) (fT2__6)))
      have fT3__8 : T3_[8]? = _ := (congrArg (fun X_ : Array Value => X_[8]?) hT).trans (gq_ne (d := 88) (by decide) (gq_ne (d := 87) (by decide) (fT2__8)))
      have fT3__9 : T3_[9]? = _ := (congrArg (fun X_ : Array Value => X_[9]?) hT).trans (gq_ne (d := 88) (by decide) (gq_ne (d := 87) (by decide) (fT2__9)))
      have fT3__10 : T3_[10]? = _ := (congrArg (fun X_ : Array Value => X_[10]?) hT).trans (gq_ne (d := 88) (by decide) (gq_ne (d := 87) (by decide) (fT2__10)))
      have fT3__13 : T3_[13]? = _ := (congrArg (fun X_ : Array Value => X_[13]?) hT).trans (gq_ne (d := 88) (by decide) (gq_ne (d := 87) (by decide) (fT2__13)))
      have fT3__88 : T3_[88]? = _ := (congrArg (fun X_ : Array Value => X_[88]?) hT).trans (gq_eq (i := 88) (by simp only [Array.size_setIfInBounds, hsT2_]; decide))
      clear hT
      clear tT2__3 tT2__4 tT2__6 tT2__8 tT2__9 tT2__10 tT2__13
      have tT3__3 := gat hsT3_ (by decide) fT3__3
      have tT3__4 := gat hsT3_ (by decide) fT3__4
      have tT3__6 := gat hsT3_ (by decide) fT3__6
      have tT3__8 := gat hsT3_ (by decide) fT3__8
      have tT3__9 := gat hsT3_ (by decide) fT3__9
      have tT3__10 := gat hsT3_ (by decide) fT3__10
      have tT3__13 := gat hsT3_ (by decide) fT3__13
      have tT3__88 := gat hsT3_ (by decide) fT3__88
      refine wp_cond_true ((gev fT3__88).trans (congrArg Value.bool (by first | rfl | (simp; omega) | (simp; done)))) ?_
      refine wp_skip ?_
      refine hK2 _ _ ?_
      clear hK2 K2
      refine wp_seq_k (fun K4 hK4 => ?_)
      refine wp_block ?_
      refine wp_seq_k (fun K5 hK5 => ?_)
      have hL := Aside0.mk (exI_len ws k)
      obtain ⟨j15, hj15⟩ : ∃ j, j = i - 15 := ⟨_, rfl⟩
      have p15 : j15 < 64 := by omega
      have q15 : IntKind.i64.wrap ((i : Int) - 15) = j15 := by rw [IntKind.wrap_i64]; omega
      have r15 : (j15 : Int) < 64 := by omega
      obtain ⟨a15, ha15⟩ : ∃ a, a = (exI ws k).getD j15 0 := ⟨_, rfl⟩
      have HJ15 := Aside0.mk hj15
      have HA15 := Aside0.mk ha15
      clear hj15 ha15
      have HW := Aside0.mk (HS4.out.step (below_drew (Below.refl _ _)))
      refine hideQ (fun QQ hQQ => ?_)
      refine start_ (n := 20) (S := fun w' => w'.cell? ⟨gw, j15, none⟩ = some (.int .u32 a15)) (ds := []) #[false, false, false, false, false, false, false, false, false, false, false, false, false, false, false, false, false, false, false, false] (by kernel_rfl) rfl rfl (HA15.out ▸ HW.out.w j15 (by rw [hL.out, HW64.out]; omega)) (fun hHeld => ?_)
      refine with_tabW su29.tab su29.bits (fun HT_ HW_ => ?_)
      refine pure_ (i := 0) (N := some 91) (v := ?_) (a' := ?_) #[true, false, false, false, false, false, false, false, false, false, false, false, false, false, false, false, false, false, false, false] rfl rfl (any_of HT_.out (by kernel_rfl)) (fun _ _ _ h => h) (Or.inl ⟨by rfl, ?_⟩) ?_ ?_
      rotate_left
      · intro w'
        go_simp
        with_reducible rfl
      rotate_left
      · simp only [Act.put, qA, q0, qS, i64_w, i32_w]
        rfl
      refine pure_ (i := 1) (N := some 92) (v := ?_) (a' := ?_) #[true, true, false, false, false, false, false, false, false, false, false, false, false, false, false, false, false, false, false, false] rfl rfl (any_of HT_.out (by kernel_rfl)) (fun _ _ _ h => h) (Or.inl ⟨by rfl, ?_⟩) ?_ ?_
      rotate_left
      · intro w'
        go_simp
        with_reducible rfl
      rotate_left
      · simp only [Act.put, qA, q0, qS, i64_w, i32_w]
        rfl
      refine pure_ (i := 2) (N := some 93) (v := ?_) (a' := ?_) #[true, true, true, false, false, false, false, false, false, false, false, false, false, false, false, false, false, false, false, false] rfl rfl (any_of HT_.out (by kernel_rfl)) (fun _ _ _ h => h) (Or.inl ⟨by rfl, ?_⟩) ?_ ?_
      rotate_left
      · intro w'
        go_simp
        with_reducible rfl
      rotate_left
      · simp only [Act.put, qA, q0, qS, i64_w, i32_w]
        rfl
      refine pure_ (i := 3) (N := some 94) (v := ?_) (a' := ?_) #[true, true, true, true, false, false, false, false, false, false, false, false, false, false, false, false, false, false, false, false] rfl rfl (any_of HT_.out (by kernel_rfl)) (fun _ _ _ h => h) (Or.inl ⟨by rfl, ?_⟩) ?_ ?_
      rotate_left
      · intro w'
        go_simp
        with_reducible rfl
      rotate_left
      · simp only [Act.put, qA, q0, qS, i64_w, i32_w]
        rfl
      refine pure_ (i := 6) (N := some 97) (v := ?_) (a' := ?_) #[true, true, true, true, false, false, true, false, false, false, false, false, false, false, false, false, false, false, false, false] rfl rfl (any_of HT_.out (by kernel_rfl)) (fun _ _ _ h => h) (Or.inl ⟨by rfl, ?_⟩) ?_ ?_
      rotate_left
      · intro w'
        go_simp
        with_reducible rfl
      rotate_left
      · simp only [Act.put, qA, q0, qS, i64_w, i32_w]
        rfl
      refine pure_ (i := 7) (N := some 98) (v := ?_) (a' := ?_) #[true, true, true, true, false, false, true, true, false, false, false, false, false, false, false, false, false, false, false, false] rfl rfl (any_of HT_.out (by kernel_rfl)) (fun _ _ _ h => h) (Or.inl ⟨by rfl, ?_⟩) ?_ ?_
      rotate_left
      · intro w'
        go_simp
        with_reducible rfl
      rotate_left
      · simp only [Act.put, qA, q0, qS, i64_w, i32_w]
        rfl
      refine pure_ (i := 8) (N := some 99) (v := ?_) (a' := ?_) #[true, true, true, true, false, false, true, true, true, false, false, false, false, false, false, false, false, false, false, false] rfl rfl (any_of HT_.out (by kernel_rfl)) (fun _ _ _ h => h) (Or.inl ⟨by rfl, ?_⟩) ?_ ?_
      rotate_left
      · intro w'
        go_simp
        with_reducible rfl
      rotate_left
      · simp only [Act.put, qA, q0, qS, i64_w, i32_w]
        rfl
      refine pure_ (i := 9) (N := some 100) (v := ?_) (a' := ?_) #[true, true, true, true, false, false, true, true, true, true, false, false, false, false, false, false, false, false, false, false] rfl rfl (any_of HT_.out (by kernel_rfl)) (fun _ _ _ h => h) (Or.inl ⟨by rfl, ?_⟩) ?_ ?_
      rotate_left
      · intro w'
        go_simp
        with_reducible rfl
      rotate_left
      · simp only [Act.put, qA, q0, qS, i64_w, i32_w]
        rfl
      refine pure_ (i := 13) (N := some 104) (v := ?_) (a' := ?_) #[true, true, true, true, false, false, true, true, true, true, false, false, false, true, false, false, false, false, false, false] rfl rfl (any_of HT_.out (by kernel_rfl)) (fun _ _ _ h => h) (Or.inl ⟨by rfl, ?_⟩) ?_ ?_
      rotate_left
      · intro w'
        go_simp
        with_reducible rfl
      rotate_left
      · simp only [Act.put, qA, q0, qS, i64_w, i32_w]
        rfl
      refine pure_ (i := 14) (N := some 105) (v := ?_) (a' := ?_) #[true, true, true, true, false, false, true, true, true, true, false, false, false, true, true, false, false, false, false, false] rfl rfl (any_of HT_.out (by kernel_rfl)) (fun _ _ _ h => h) (Or.inl ⟨by rfl, ?_⟩) ?_ ?_
      rotate_left
      · intro w'
        go_simp
        with_reducible rfl
      rotate_left
      · simp only [Act.put, qA, q0, qS, i64_w, i32_w]
        rfl
      refine pure_ (i := 15) (N := some 106) (v := ?_) (a' := ?_) #[true, true, true, true, false, false, true, true, true, true, false, false, false, true, true, true, false, false, false, false] rfl rfl (any_of HT_.out (by kernel_rfl)) (fun _ _ _ h => h) (Or.inl ⟨by rfl, ?_⟩) ?_ ?_
      rotate_left
      · intro w'
        go_simp
        with_reducible rfl
      rotate_left
      · simp only [Act.put, qA, q0, qS, i64_w, i32_w]
        rfl
      refine take_ (i := 4) (N := some 95) (v := ?_) (a' := ?_) #[true, true, true, true, true, false, true, true, true, true, false, false, false, true, true, true, false, false, false, false] rfl rfl (take_ofW HT_.out HW_.out (by kernel_rfl)) (fun _ _ _ h => h) (Or.inl ⟨by rfl, ?_⟩) hHeld ?_ ?_
      rotate_left
      · intro w' s0
        go_simp
        with_reducible rfl
      rotate_left
      · simp only [Act.put, qA, q0, qS, i64_w, i32_w]
        rfl
      refine take_ (i := 10) (N := some 101) (v := ?_) (a' := ?_) #[true, true, true, true, true, false, true, true, true, true, true, false, false, true, true, true, false, false, false, false] rfl rfl (take_ofW HT_.out HW_.out (by kernel_rfl)) (fun _ _ _ h => h) (Or.inl ⟨by rfl, ?_⟩) hHeld ?_ ?_
      rotate_left
      · intro w' s0
        go_simp
        with_reducible rfl
      rotate_left
      · simp only [Act.put, qA, q0, qS, i64_w, i32_w]
        rfl
      refine take_ (i := 16) (N := some 107) (v := ?_) (a' := ?_) #[true, true, true, true, true, false, true, true, true, true, true, false, false, true, true, true, true, false, false, false] rfl rfl (take_ofW HT_.out HW_.out (by kernel_rfl)) (fun _ _ _ h => h) (Or.inl ⟨by rfl, ?_⟩) hHeld ?_ ?_
      rotate_left
      · intro w' s0
        go_simp
        with_reducible rfl
      rotate_left
      · simp only [Act.put, qA, q0, qS, i64_w, i32_w]
        rfl
      refine pure_ (i := 17) (N := some 108) (v := ?_) (a' := ?_) #[true, true, true, true, true, false, true, true, true, true, true, false, false, true, true, true, true, true, false, false] rfl rfl (any_of HT_.out (by kernel_rfl)) (fun _ _ _ h => h) (Or.inl ⟨by rfl, ?_⟩) ?_ ?_
      rotate_left
      · intro w'
        go_simp
        with_reducible rfl
      rotate_left
      · simp only [Act.put, qA, q0, qS, i64_w, i32_w]
        rfl
      refine one_call (i := 5) (N := some 96) (f := 23) #[true, true, true, true, true, true, true, true, true, true, true, false, false, true, true, true, true, true, false, false] rfl rfl (one_of HT_.out (by kernel_rfl)) (by decide) (by rfl) #[.int .u32 a15, .int .i64 7] ?_ ?_
      · first | (go_simp; done) | (go_simp; rfl)
      refine (turn_c a15 7 _ (by omega) (by omega)).mono ?_
      rintro e w3 ⟨rfl, hb⟩
      refine ⟨_, rfl, ?_⟩
      have n0_ := Aside0.mk (HW.out.step hb)
      clear HW hb
      have HW := n0_
      clear n0_
      refine and_held (HA15.out ▸ HW.out.w j15 (by rw [hL.out, HW64.out]; omega)) (fun hHeld => ?_)
      refine norm_ (a' := ?_) ?_ ?_
      rotate_left
      · show Act.put _ (some 96) _ = _
        simp only [Act.put, qA, q0, qS, i64_w, i32_w]
        rfl
      refine one_call (i := 11) (N := some 102) (f := 23) #[true, true, true, true, true, true, true, true, true, true, true, true, false, true, true, true, true, true, false, false] rfl rfl (one_of HT_.out (by kernel_rfl)) (by decide) (by rfl) #[.int .u32 a15, .int .i64 18] ?_ ?_
      · first | (go_simp; done) | (go_simp; rfl)
      refine (turn_c a15 18 _ (by omega) (by omega)).mono ?_
      rintro e w3 ⟨rfl, hb⟩
      refine ⟨_, rfl, ?_⟩
      have n0_ := Aside0.mk (HW.out.step hb)
      clear HW hb
      have HW := n0_
      clear n0_
      refine and_held (HA15.out ▸ HW.out.w j15 (by rw [hL.out, HW64.out]; omega)) (fun hHeld => ?_)
      refine norm_ (a' := ?_) ?_ ?_
      rotate_left
      · show Act.put _ (some 102) _ = _
        simp only [Act.put, qA, q0, qS, i64_w, i32_w]
        rfl
      refine pure_ (i := 12) (N := some 103) (v := ?_) (a' := ?_) #[true, true, true, true, true, true, true, true, true, true, true, true, true, true, true, true, true, true, false, false] rfl rfl (any_of HT_.out (by kernel_rfl)) (fun _ _ _ h => h) (Or.inl ⟨by rfl, ?_⟩) ?_ ?_
      rotate_left
      · intro w'
        go_simp
        with_reducible rfl
      rotate_left
      · simp only [Act.put, qA, q0, qS, i64_w, i32_w]
        rfl
      refine pure_ (i := 18) (N := some 109) (v := ?_) (a' := ?_) #[true, true, true, true, true, true, true, true, true, true, true, true, true, true, true, true, true, true, true, false] rfl rfl (any_of HT_.out (by kernel_rfl)) (fun _ _ _ h => h) (Or.inl ⟨by rfl, ?_⟩) ?_ ?_
      rotate_left
      · intro w'
        go_simp
        with_reducible rfl
      rotate_left
      · simp only [Act.put, qA, q0, qS, i64_w, i32_w]
        rfl
      refine pure_ (i := 19) (N := some 14) (v := ?_) (a' := ?_) #[true, true, true, true, true, true, true, true, true, true, true, true, true, true, true, true, true, true, true, true] rfl rfl (any_of HT_.out (by kernel_rfl)) (fun _ _ _ h => h) (Or.inl ⟨by rfl, ?_⟩) ?_ ?_
      rotate_left
      · intro w'
        go_simp
        with_reducible rfl
      rotate_left
      · simp only [Act.put, qA, q0, qS, i64_w, i32_w]
        rfl
      refine done_ (done_of HT_.out (by kernel_rfl)) ?_
      refine hQQ _ _ ?_
      clear hQQ QQ
      refine hK5 _ _ ?_
      clear hK5 K5
      clear q15 r15 HS4
      have HS5 := HW
      clear HW
      refine absR (fun T4_ hT => ?_)
      have hsT4_ : T4_.size = 300 := by rw [hT]; simp only [Array.size_setIfInBounds]; exact hsT3_
      have fT4__3 : T4_[3]? = _ := (congrArg (fun X_ : Array Value => X_[3]?) hT).trans (gq_ne (d := 14) (by decide) (gq_ne (d := 109) (by decide) (gq_ne (d := 103) (by decide) (gq_ne (d := 102) (by decide) (gq_ne (d := 96) (by decide) (gq_ne (d := 108) (by decide) (gq_ne (d := 107) (by decide) (gq_ne (d := 101) (by decide) (gq_ne (d := 95) (by decide) (gq_ne (d := 106) (by decide) (gq_ne (d := 105) (by decide) (gq_ne (d := 104) (by decide) (gq_ne (d := 100) (by decide) (gq_ne (d := 99) (by decide) (gq_ne (d := 98) (by decide) (gq_ne (d := 97) (by decide) (gq_ne (d := 94) (by decide) (gq_ne (d := 93) (by decide) (gq_ne (d := 92) (by decide) (gq_ne (d := 91) (by decide) (fT3__3)))))))))))))))))))))
      have fT4__4 : T4_[4]? = _ := (congrArg (fun X_ : Array Value => X_[4]?) hT).trans (gq_ne (d := 14) (by decide) (gq_ne (d := 109) (by decide) (gq_ne (d := 103) (by decide) (gq_ne (d := 102) (by decide) (gq_ne (d := 96) (by decide) (gq_ne (d := 108) (by decide) (gq_ne (d := 107) (by decide) (gq_ne (d := 101) (by decide) (gq_ne (d := 95) (by decide) (gq_ne (d := 106) (by decide) (gq_ne (d := 105) (by decide) (gq_ne (d := 104) (by decide) (gq_ne (d := 100) (by decide) (gq_ne (d := 99) (by decide) (gq_ne (d := 98) (by decide) (gq_ne (d := 97) (by decide) (gq_ne (d := 94) (by decide) (gq_ne (d := 93) (by decide) (gq_ne (d := 92) (by decide) (gq_ne (d := 91) (by decide) (fT3__4)))))))))))))))))))))
      have fT4__6 : T4_[6]? = _ := (congrArg (fun X_ : Array Value => X_[6]?) hT).trans (gq_ne (d := 14) (by decide) (gq_ne (d := 109) (by decide) (gq_ne (d := 103) (by decide) (gq_ne (d := 102) (by decide) (gq_ne (d := 96) (by decide) (gq_ne (d := 108) (by decide) (gq_ne (d := 107) (by decide) (gq_ne (d := 101) (by decide) (gq_ne (d := 95) (by decide) (gq_ne (d := 106) (by decide) (gq_ne (d := 105) (by decide) (gq_ne (d := 104) (by decide) (gq_ne (d := 100) (by decide) (gq_ne (d := 99) (by decide) (gq_ne (d := 98) (by decide) (gq_ne (d := 97) (by decide) (gq_ne (d := 94) (by decide) (gq_ne (d := 93) (by decide) (gq_ne (d := 92) (by decide) (gq_ne (d := 91) (by decide) (fT3__6)))))))))))))))))))))
      have fT4__8 : T4_[8]? = _ := (congrArg (fun X_ : Array Value => X_[8]?) hT).trans (gq_ne (d := 14) (by decide) (gq_ne (d := 109) (by decide) (gq_ne (d := 103) (by decide) (gq_ne (d := 102) (by decide) (gq_ne (d := 96) (by decide) (gq_ne (d := 108) (by decide) (gq_ne (d := 107) (by decide) (gq_ne (d := 101) (by decide) (gq_ne (d := 95) (by decide) (gq_ne (d := 106) (by decide) (gq_ne (d := 105) (by decide) (gq_ne (d := 104) (by decide) (gq_ne (d := 100) (by decide) (gq_ne (d := 99) (by decide) (gq_ne (d := 98) (by decide) (gq_ne (d := 97) (by decide) (gq_ne (d := 94) (by decide) (gq_ne (d := 93) (by decide) (gq_ne (d := 92) (by decide) (gq_ne (d := 91) (by decide) (fT3__8)))))))))))))))))))))
      have fT4__9 : T4_[9]? = _ := (congrArg (fun X_ : Array Value => X_[9]?) hT).trans (gq_ne (d := 14) (by decide) (gq_ne (d := 109) (by decide) (gq_ne (d := 103) (by decide) (gq_ne (d := 102) (by decide) (gq_ne (d := 96) (by decide) (gq_ne (d := 108) (by decide) (gq_ne (d := 107) (by decide) (gq_ne (d := 101) (by decide) (gq_ne (d := 95) (by decide) (gq_ne (d := 106) (by decide) (gq_ne (d := 105) (by decide) (gq_ne (d := 104) (by decide) (gq_ne (d := 100) (by decide) (gq_ne (d := 99) (by decide) (gq_ne (d := 98) (by decide) (gq_ne (d := 97) (by decide) (gq_ne (d := 94) (by decide) (gq_ne (d := 93) (by decide) (gq_ne (d := 92) (by decide) (gq_ne (d := 91) (by decide) (fT3__9)))))))))))))))))))))
      have fT4__10 : T4_[10]? = _ := (congrArg (fun X_ : Array Value => X_[10]?) hT).trans (gq_ne (d := 14) (by decide) (gq_ne (d := 109) (by decide) (gq_ne (d := 103) (by decide) (gq_ne (d := 102) (by decide) (gq_ne (d := 96) (by decide) (gq_ne (d := 108) (by decide) (gq_ne (d := 107) (by decide) (gq_ne (d := 101) (by decide) (gq_ne (d := 95) (by decide) (gq_ne (d := 106) (by decide) (gq_ne (d := 105) (by decide) (gq_ne (d := 104) (by decide) (gq_ne (d := 100) (by decide) (gq_ne (d := 99) (by decide) (gq_ne (d := 98) (by decide) (gq_ne (d := 97) (by decide) (gq_ne (d := 94) (by decide) (gq_ne (d := 93) (by decide) (gq_ne (d := 92) (by decide) (gq_ne (d := 91) (by decide) (fT3__10)))))))))))))))))))))
      have fT4__13 : T4_[13]? = _ := (congrArg (fun X_ : Array Value => X_[13]?) hT).trans (gq_ne (d := 14) (by decide) (gq_ne (d := 109) (by decide) (gq_ne (d := 103) (by decide) (gq_ne (d := 102) (by decide) (gq_ne (d := 96) (by decide) (gq_ne (d := 108) (by decide) (gq_ne (d := 107) (by decide) (gq_ne (d := 101) (by decide) (gq_ne (d := 95) (by decide) (gq_ne (d := 106) (by decide) (gq_ne (d := 105) (by decide) (gq_ne (d := 104) (by decide) (gq_ne (d := 100) (by decide) (gq_ne (d := 99) (by decide) (gq_ne (d := 98) (by decide) (gq_ne (d := 97) (by decide) (gq_ne (d := 94) (by decide) (gq_ne (d := 93) (by decide) (gq_ne (d := 92) (by decide) (gq_ne (d := 91) (by decide) (fT3__13)))))))))))))))))))))
      have fT4__14 : T4_[14]? = _ := (congrArg (fun X_ : Array Value => X_[14]?) hT).trans (gq_eq (i := 14) (by simp only [Array.size_setIfInBounds, hsT3_]; decide))
      clear hT
      clear fT3__3 tT3__3 fT3__4 tT3__4 fT3__6 tT3__6 fT3__8 tT3__8 fT3__9 tT3__9 fT3__10 tT3__10 fT3__13 tT3__13 fT3__88 tT3__88 hsT3_
      have tT4__3 := gat hsT4_ (by decide) fT4__3
      have tT4__4 := gat hsT4_ (by decide) fT4__4
      have tT4__6 := gat hsT4_ (by decide) fT4__6
      have tT4__8 := gat hsT4_ (by decide) fT4__8
      have tT4__9 := gat hsT4_ (by decide) fT4__9
      have tT4__10 := gat hsT4_ (by decide) fT4__10
      have tT4__13 := gat hsT4_ (by decide) fT4__13
      have tT4__14 := gat hsT4_ (by decide) fT4__14
      replace fT4__14 : T4_[14]? = some (.int .u32 (g0 a15)) := fT4__14
      replace tT4__14 := gat hsT4_ (by decide) fT4__14
      refine wp_seq_k (fun K6 hK6 => ?_)
      obtain ⟨j2, hj2⟩ : ∃ j, j = i - 2 := ⟨_, rfl⟩
      have p2 : j2 < 64 := by omega
      have q2 : IntKind.i64.wrap ((i : Int) - 2) = j2 := by rw [IntKind.wrap_i64]; omega
      have r2 : (j2 : Int) < 64 := by omega
      obtain ⟨a2, ha2⟩ : ∃ a, a = (exI ws k).getD j2 0 := ⟨_, rfl⟩
      have HJ2 := Aside0.mk hj2
      have HA2 := Aside0.mk ha2
      clear hj2 ha2
      have HW := Aside0.mk (HS5.out.step (below_drew (Below.refl _ _)))
      refine hideQ (fun QQ hQQ => ?_)
      refine start_ (n := 20) (S := fun w' => w'.cell? ⟨gw, j2, none⟩ = some (.int .u32 a2)) (ds := []) #[false, false, false, false, false, false, false, false, false, false, false, false, false, false, false, false, false, false, false, false] (by kernel_rfl) rfl rfl (HA2.out ▸ HW.out.w j2 (by rw [hL.out, HW64.out]; omega)) (fun hHeld => ?_)
      refine with_tabW su30.tab su30.bits (fun HT_ HW_ => ?_)
      refine pure_ (i := 0) (N := some 110) (v := ?_) (a' := ?_) #[true, false, false, false, false, false, false, false, false, false, false, false, false, false, false, false, false, false, false, false] rfl rfl (any_of HT_.out (by kernel_rfl)) (fun _ _ _ h => h) (Or.inl ⟨by rfl, ?_⟩) ?_ ?_
      rotate_left
      · intro w'
        go_simp
        with_reducible rfl
      rotate_left
      · simp only [Act.put, qA, q0, qS, i64_w, i32_w]
        rfl
      refine pure_ (i := 1) (N := some 111) (v := ?_) (a' := ?_) #[true, true, false, false, false, false, false, false, false, false, false, false, false, false, false, false, false, false, false, false] rfl rfl (any_of HT_.out (by kernel_rfl)) (fun _ _ _ h => h) (Or.inl ⟨by rfl, ?_⟩) ?_ ?_
      rotate_left
      · intro w'
        go_simp
        with_reducible rfl
      rotate_left
      · simp only [Act.put, qA, q0, qS, i64_w, i32_w]
        rfl
      refine pure_ (i := 2) (N := some 112) (v := ?_) (a' := ?_) #[true, true, true, false, false, false, false, false, false, false, false, false, false, false, false, false, false, false, false, false] rfl rfl (any_of HT_.out (by kernel_rfl)) (fun _ _ _ h => h) (Or.inl ⟨by rfl, ?_⟩) ?_ ?_
      rotate_left
      · intro w'
        go_simp
        with_reducible rfl
      rotate_left
      · simp only [Act.put, qA, q0, qS, i64_w, i32_w]
        rfl
      refine pure_ (i := 3) (N := some 113) (v := ?_) (a' := ?_) #[true, true, true, true, false, false, false, false, false, false, false, false, false, false, false, false, false, false, false, false] rfl rfl (any_of HT_.out (by kernel_rfl)) (fun _ _ _ h => h) (Or.inl ⟨by rfl, ?_⟩) ?_ ?_
      rotate_left
      · intro w'
        go_simp
        with_reducible rfl
      rotate_left
      · simp only [Act.put, qA, q0, qS, i64_w, i32_w]
        rfl
      refine pure_ (i := 6) (N := some 116) (v := ?_) (a' := ?_) #[true, true, true, true, false, false, true, false, false, false, false, false, false, false, false, false, false, false, false, false] rfl rfl (any_of HT_.out (by kernel_rfl)) (fun _ _ _ h => h) (Or.inl ⟨by rfl, ?_⟩) ?_ ?_
      rotate_left
      · intro w'
        go_simp
        with_reducible rfl
      rotate_left
      · simp only [Act.put, qA, q0, qS, i64_w, i32_w]
        rfl
      refine pure_ (i := 7) (N := some 117) (v := ?_) (a' := ?_) #[true, true, true, true, false, false, true, true, false, false, false, false, false, false, false, false, false, false, false, false] rfl rfl (any_of HT_.out (by kernel_rfl)) (fun _ _ _ h => h) (Or.inl ⟨by rfl, ?_⟩) ?_ ?_
      rotate_left
      · intro w'
        go_simp
        with_reducible rfl
      rotate_left
      · simp only [Act.put, qA, q0, qS, i64_w, i32_w]
        rfl
      refine pure_ (i := 8) (N := some 118) (v := ?_) (a' := ?_) #[true, true, true, true, false, false, true, true, true, false, false, false, false, false, false, false, false, false, false, false] rfl rfl (any_of HT_.out (by kernel_rfl)) (fun _ _ _ h => h) (Or.inl ⟨by rfl, ?_⟩) ?_ ?_
      rotate_left
      · intro w'
        go_simp
        with_reducible rfl
      rotate_left
      · simp only [Act.put, qA, q0, qS, i64_w, i32_w]
        rfl
      refine pure_ (i := 9) (N := some 119) (v := ?_) (a' := ?_) #[true, true, true, true, false, false, true, true, true, true, false, false, false, false, false, false, false, false, false, false] rfl rfl (any_of HT_.out (by kernel_rfl)) (fun _ _ _ h => h) (Or.inl ⟨by rfl, ?_⟩) ?_ ?_
      rotate_left
      · intro w'
        go_simp
        with_reducible rfl
      rotate_left
      · simp only [Act.put, qA, q0, qS, i64_w, i32_w]
        rfl
      refine pure_ (i := 13) (N := some 123) (v := ?_) (a' := ?_) #[true, true, true, true, false, false, true, true, true, true, false, false, false, true, false, false, false, false, false, false] rfl rfl (any_of HT_.out (by kernel_rfl)) (fun _ _ _ h => h) (Or.inl ⟨by rfl, ?_⟩) ?_ ?_
      rotate_left
      · intro w'
        go_simp
        with_reducible rfl
      rotate_left
      · simp only [Act.put, qA, q0, qS, i64_w, i32_w]
        rfl
      refine pure_ (i := 14) (N := some 124) (v := ?_) (a' := ?_) #[true, true, true, true, false, false, true, true, true, true, false, false, false, true, true, false, false, false, false, false] rfl rfl (any_of HT_.out (by kernel_rfl)) (fun _ _ _ h => h) (Or.inl ⟨by rfl, ?_⟩) ?_ ?_
      rotate_left
      · intro w'
        go_simp
        with_reducible rfl
      rotate_left
      · simp only [Act.put, qA, q0, qS, i64_w, i32_w]
        rfl
      refine pure_ (i := 15) (N := some 125) (v := ?_) (a' := ?_) #[true, true, true, true, false, false, true, true, true, true, false, false, false, true, true, true, false, false, false, false] rfl rfl (any_of HT_.out (by kernel_rfl)) (fun _ _ _ h => h) (Or.inl ⟨by rfl, ?_⟩) ?_ ?_
      rotate_left
      · intro w'
        go_simp
        with_reducible rfl
      rotate_left
      · simp only [Act.put, qA, q0, qS, i64_w, i32_w]
        rfl
      refine take_ (i := 4) (N := some 114) (v := ?_) (a' := ?_) #[true, true, true, true, true, false, true, true, true, true, false, false, false, true, true, true, false, false, false, false] rfl rfl (take_ofW HT_.out HW_.out (by kernel_rfl)) (fun _ _ _ h => h) (Or.inl ⟨by rfl, ?_⟩) hHeld ?_ ?_
      rotate_left
      · intro w' s0
        go_simp
        with_reducible rfl
      rotate_left
      · simp only [Act.put, qA, q0, qS, i64_w, i32_w]
        rfl
      refine take_ (i := 10) (N := some 120) (v := ?_) (a' := ?_) #[true, true, true, true, true, false, true, true, true, true, true, false, false, true, true, true, false, false, false, false] rfl rfl (take_ofW HT_.out HW_.out (by kernel_rfl)) (fun _ _ _ h => h) (Or.inl ⟨by rfl, ?_⟩) hHeld ?_ ?_
      rotate_left
      · intro w' s0
        go_simp
        with_reducible rfl
      rotate_left
      · simp only [Act.put, qA, q0, qS, i64_w, i32_w]
        rfl
      refine take_ (i := 16) (N := some 126) (v := ?_) (a' := ?_) #[true, true, true, true, true, false, true, true, true, true, true, false, false, true, true, true, true, false, false, false] rfl rfl (take_ofW HT_.out HW_.out (by kernel_rfl)) (fun _ _ _ h => h) (Or.inl ⟨by rfl, ?_⟩) hHeld ?_ ?_
      rotate_left
      · intro w' s0
        go_simp
        with_reducible rfl
      rotate_left
      · simp only [Act.put, qA, q0, qS, i64_w, i32_w]
        rfl
      refine pure_ (i := 17) (N := some 127) (v := ?_) (a' := ?_) #[true, true, true, true, true, false, true, true, true, true, true, false, false, true, true, true, true, true, false, false] rfl rfl (any_of HT_.out (by kernel_rfl)) (fun _ _ _ h => h) (Or.inl ⟨by rfl, ?_⟩) ?_ ?_
      rotate_left
      · intro w'
        go_simp
        with_reducible rfl
      rotate_left
      · simp only [Act.put, qA, q0, qS, i64_w, i32_w]
        rfl
      refine one_call (i := 5) (N := some 115) (f := 23) #[true, true, true, true, true, true, true, true, true, true, true, false, false, true, true, true, true, true, false, false] rfl rfl (one_of HT_.out (by kernel_rfl)) (by decide) (by rfl) #[.int .u32 a2, .int .i64 17] ?_ ?_
      · first | (go_simp; done) | (go_simp; rfl)
      refine (turn_c a2 17 _ (by omega) (by omega)).mono ?_
      rintro e w3 ⟨rfl, hb⟩
      refine ⟨_, rfl, ?_⟩
      have n0_ := Aside0.mk (HW.out.step hb)
      clear HW hb
      have HW := n0_
      clear n0_
      refine and_held (HA2.out ▸ HW.out.w j2 (by rw [hL.out, HW64.out]; omega)) (fun hHeld => ?_)
      refine norm_ (a' := ?_) ?_ ?_
      rotate_left
      · show Act.put _ (some 115) _ = _
        simp only [Act.put, qA, q0, qS, i64_w, i32_w]
        rfl
      refine one_call (i := 11) (N := some 121) (f := 23) #[true, true, true, true, true, true, true, true, true, true, true, true, false, true, true, true, true, true, false, false] rfl rfl (one_of HT_.out (by kernel_rfl)) (by decide) (by rfl) #[.int .u32 a2, .int .i64 19] ?_ ?_
      · first | (go_simp; done) | (go_simp; rfl)
      refine (turn_c a2 19 _ (by omega) (by omega)).mono ?_
      rintro e w3 ⟨rfl, hb⟩
      refine ⟨_, rfl, ?_⟩
      have n0_ := Aside0.mk (HW.out.step hb)
      clear HW hb
      have HW := n0_
      clear n0_
      refine and_held (HA2.out ▸ HW.out.w j2 (by rw [hL.out, HW64.out]; omega)) (fun hHeld => ?_)
      refine norm_ (a' := ?_) ?_ ?_
      rotate_left
      · show Act.put _ (some 121) _ = _
        simp only [Act.put, qA, q0, qS, i64_w, i32_w]
        rfl
      refine pure_ (i := 12) (N := some 122) (v := ?_) (a' := ?_) #[true, true, true, true, true, true, true, true, true, true, true, true, true, true, true, true, true, true, false, false] rfl rfl (any_of HT_.out (by kernel_rfl)) (fun _ _ _ h => h) (Or.inl ⟨by rfl, ?_⟩) ?_ ?_
      rotate_left
      · intro w'
        go_simp
        with_reducible rfl
      rotate_left
      · simp only [Act.put, qA, q0, qS, i64_w, i32_w]
        rfl
      refine pure_ (i := 18) (N := some 128) (v := ?_) (a' := ?_) #[true, true, true, true, true, true, true, true, true, true, true, true, true, true, true, true, true, true, true, false] rfl rfl (any_of HT_.out (by kernel_rfl)) (fun _ _ _ h => h) (Or.inl ⟨by rfl, ?_⟩) ?_ ?_
      rotate_left
      · intro w'
        go_simp
        with_reducible rfl
      rotate_left
      · simp only [Act.put, qA, q0, qS, i64_w, i32_w]
        rfl
      refine pure_ (i := 19) (N := some 15) (v := ?_) (a' := ?_) #[true, true, true, true, true, true, true, true, true, true, true, true, true, true, true, true, true, true, true, true] rfl rfl (any_of HT_.out (by kernel_rfl)) (fun _ _ _ h => h) (Or.inl ⟨by rfl, ?_⟩) ?_ ?_
      rotate_left
      · intro w'
        go_simp
        with_reducible rfl
      rotate_left
      · simp only [Act.put, qA, q0, qS, i64_w, i32_w]
        rfl
      refine done_ (done_of HT_.out (by kernel_rfl)) ?_
      refine hQQ _ _ ?_
      clear hQQ QQ
      refine hK6 _ _ ?_
      clear hK6 K6
      clear q2 r2 HS5
      have HS6 := HW
      clear HW
      refine absR (fun T5_ hT => ?_)
      have hsT5_ : T5_.size = 300 := by rw [hT]; simp only [Array.size_setIfInBounds]; exact hsT4_
      have fT5__3 : T5_[3]? = _ := (congrArg (fun X_ : Array Value => X_[3]?) hT).trans (gq_ne (d := 15) (by decide) (gq_ne (d := 128) (by decide) (gq_ne (d := 122) (by decide) (gq_ne (d := 121) (by decide) (gq_ne (d := 115) (by decide) (gq_ne (d := 127) (by decide) (gq_ne (d := 126) (by decide) (gq_ne (d := 120) (by decide) (gq_ne (d := 114) (by decide) (gq_ne (d := 125) (by decide) (gq_ne (d := 124) (by decide) (gq_ne (d := 123) (by decide) (gq_ne (d := 119) (by decide) (gq_ne (d := 118) (by decide) (gq_ne (d := 117) (by decide) (gq_ne (d := 116) (by decide) (gq_ne (d := 113) (by decide) (gq_ne (d := 112) (by decide) (gq_ne (d := 111) (by decide) (gq_ne (d := 110) (by decide) (fT4__3)))))))))))))))))))))
      have fT5__4 : T5_[4]? = _ := (congrArg (fun X_ : Array Value => X_[4]?) hT).trans (gq_ne (d := 15) (by decide) (gq_ne (d := 128) (by decide) (gq_ne (d := 122) (by decide) (gq_ne (d := 121) (by decide) (gq_ne (d := 115) (by decide) (gq_ne (d := 127) (by decide) (gq_ne (d := 126) (by decide) (gq_ne (d := 120) (by decide) (gq_ne (d := 114) (by decide) (gq_ne (d := 125) (by decide) (gq_ne (d := 124) (by decide) (gq_ne (d := 123) (by decide) (gq_ne (d := 119) (by decide) (gq_ne (d := 118) (by decide) (gq_ne (d := 117) (by decide) (gq_ne (d := 116) (by decide) (gq_ne (d := 113) (by decide) (gq_ne (d := 112) (by decide) (gq_ne (d := 111) (by decide) (gq_ne (d := 110) (by decide) (fT4__4)))))))))))))))))))))
      have fT5__6 : T5_[6]? = _ := (congrArg (fun X_ : Array Value => X_[6]?) hT).trans (gq_ne (d := 15) (by decide) (gq_ne (d := 128) (by decide) (gq_ne (d := 122) (by decide) (gq_ne (d := 121) (by decide) (gq_ne (d := 115) (by decide) (gq_ne (d := 127) (by decide) (gq_ne (d := 126) (by decide) (gq_ne (d := 120) (by decide) (gq_ne (d := 114) (by decide) (gq_ne (d := 125) (by decide) (gq_ne (d := 124) (by decide) (gq_ne (d := 123) (by decide) (gq_ne (d := 119) (by decide) (gq_ne (d := 118) (by decide) (gq_ne (d := 117) (by decide) (gq_ne (d := 116) (by decide) (gq_ne (d := 113) (by decide) (gq_ne (d := 112) (by decide) (gq_ne (d := 111) (by decide) (gq_ne (d := 110) (by decide) (fT4__6)))))))))))))))))))))
      have fT5__8 : T5_[8]? = _ := (congrArg (fun X_ : Array Value => X_[8]?) hT).trans (gq_ne (d := 15) (by decide) (gq_ne (d := 128) (by decide) (gq_ne (d := 122) (by decide) (gq_ne (d := 121) (by decide) (gq_ne (d := 115) (by decide) (gq_ne (d := 127) (by decide) (gq_ne (d := 126) (by decide) (gq_ne (d := 120) (by decide) (gq_ne (d := 114) (by decide) (gq_ne (d := 125) (by decide) (gq_ne (d := 124) (by decide) (gq_ne (d := 123) (by decide) (gq_ne (d := 119) (by decide) (gq_ne (d := 118) (by decide) (gq_ne (d := 117) (by decide) (gq_ne (d := 116) (by decide) (gq_ne (d := 113) (by decide) (gq_ne (d := 112) (by decide) (gq_ne (d := 111) (by decide) (gq_ne (d := 110) (by decide) (fT4__8)))))))))))))))))))))
      have fT5__9 : T5_[9]? = _ := (congrArg (fun X_ : Array Value => X_[9]?) hT).trans (gq_ne (d := 15) (by decide) (gq_ne (d := 128) (by decide) (gq_ne (d := 122) (by decide) (gq_ne (d := 121) (by decide) (gq_ne (d := 115) (by decide) (gq_ne (d := 127) (by decide) (gq_ne (d := 126) (by decide) (gq_ne (d := 120) (by decide) (gq_ne (d := 114) (by decide) (gq_ne (d := 125) (by decide) (gq_ne (d := 124) (by decide) (gq_ne (d := 123) (by decide) (gq_ne (d := 119) (by decide) (gq_ne (d := 118) (by decide) (gq_ne (d := 117) (by decide) (gq_ne (d := 116) (by decide) (gq_ne (d := 113) (by decide) (gq_ne (d := 112) (by decide) (gq_ne (d := 111) (by decide) (gq_ne (d := 110) (by decide) (fT4__9)))))))))))))))))))))
      have fT5__10 : T5_[10]? = _ := (congrArg (fun X_ : Array Value => X_[10]?) hT).trans (gq_ne (d := 15) (by decide) (gq_ne (d := 128) (by decide) (gq_ne (d := 122) (by decide) (gq_ne (d := 121) (by decide) (gq_ne (d := 115) (by decide) (gq_ne (d := 127) (by decide) (gq_ne (d := 126) (by decide) (gq_ne (d := 120) (by decide) (gq_ne (d := 114) (by decide) (gq_ne (d := 125) (by decide) (gq_ne (d := 124) (by decide) (gq_ne (d := 123) (by decide) (gq_ne (d := 119) (by decide) (gq_ne (d := 118) (by decide) (gq_ne (d := 117) (by decide) (gq_ne (d := 116) (by decide) (gq_ne (d := 113) (by decide) (gq_ne (d := 112) (by decide) (gq_ne (d := 111) (by decide) (gq_ne (d := 110) (by decide) (fT4__10)))))))))))))))))))))
      have fT5__13 : T5_[13]? = _ := (congrArg (fun X_ : Array Value => X_[13]?) hT).trans (gq_ne (d := 15) (by decide) (gq_ne (d := 128) (by decide) (gq_ne (d := 122) (by decide) (gq_ne (d := 121) (by decide) (gq_ne (d := 115) (by decide) (gq_ne (d := 127) (by decide) (gq_ne (d := 126) (by decide) (gq_ne (d := 120) (by decide) (gq_ne (d := 114) (by decide) (gq_ne (d := 125) (by decide) (gq_ne (d := 124) (by decide) (gq_ne (d := 123) (by decide) (gq_ne (d := 119) (by decide) (gq_ne (d := 118) (by decide) (gq_ne (d := 117) (by decide) (gq_ne (d := 116) (by decide) (gq_ne (d := 113) (by decide) (gq_ne (d := 112) (by decide) (gq_ne (d := 111) (by decide) (gq_ne (d := 110) (by decide) (fT4__13)))))))))))))))))))))
      have fT5__14 : T5_[14]? = _ := (congrArg (fun X_ : Array Value => X_[14]?) hT).trans (gq_ne (d := 15) (by decide) (gq_ne (d := 128) (by decide) (gq_ne (d := 122) (by decide) (gq_ne (d := 121) (by decide) (gq_ne (d := 115) (by decide) (gq_ne (d := 127) (by decide) (gq_ne (d := 126) (by decide) (gq_ne (d := 120) (by decide) (gq_ne (d := 114) (by decide) (gq_ne (d := 125) (by decide) (gq_ne (d := 124) (by decide) (gq_ne (d := 123) (by decide) (gq_ne (d := 119) (by decide) (gq_ne (d := 118) (by decide) (gq_ne (d := 117) (by decide) (gq_ne (d := 116) (by decide) (gq_ne (d := 113) (by decide) (gq_ne (d := 112) (by decide) (gq_ne (d := 111) (by decide) (gq_ne (d := 110) (by decide) (fT4__14)))))))))))))))))))))
      have fT5__15 : T5_[15]? = _ := (congrArg (fun X_ : Array Value => X_[15]?) hT).trans (gq_eq (i := 15) (by simp only [Array.size_setIfInBounds, hsT4_]; decide))
      clear hT
      clear fT4__3 tT4__3 fT4__4 tT4__4 fT4__6 tT4__6 fT4__8 tT4__8 fT4__9 tT4__9 fT4__10 tT4__10 fT4__13 tT4__13 fT4__14 tT4__14 hsT4_
      have tT5__3 := gat hsT5_ (by decide) fT5__3
      have tT5__4 := gat hsT5_ (by decide) fT5__4
      have tT5__6 := gat hsT5_ (by decide) fT5__6
      have tT5__8 := gat hsT5_ (by decide) fT5__8
      have tT5__9 := gat hsT5_ (by decide) fT5__9
      have tT5__10 := gat hsT5_ (by decide) fT5__10
      have tT5__13 := gat hsT5_ (by decide) fT5__13
      have tT5__14 := gat hsT5_ (by decide) fT5__14
      have tT5__15 := gat hsT5_ (by decide) fT5__15
      replace fT5__15 : T5_[15]? = some (.int .u32 (g1 a2)) := fT5__15
      replace tT5__15 := gat hsT5_ (by decide) fT5__15
      obtain ⟨j16, hj16⟩ : ∃ j, j = i - 16 := ⟨_, rfl⟩
      have p16 : j16 < 64 := by omega
      have q16 : IntKind.i64.wrap ((i : Int) - 16) = j16 := by rw [IntKind.wrap_i64]; omega
      have r16 : (j16 : Int) < 64 := by omega
      obtain ⟨a16, ha16⟩ : ∃ a, a = (exI ws k).getD j16 0 := ⟨_, rfl⟩
      have HJ16 := Aside0.mk hj16
      have HA16 := Aside0.mk ha16
      clear hj16 ha16
      obtain ⟨j7, hj7⟩ : ∃ j, j = i - 7 := ⟨_, rfl⟩
      have p7 : j7 < 64 := by omega
      have q7 : IntKind.i64.wrap ((i : Int) - 7) = j7 := by rw [IntKind.wrap_i64]; omega
      have r7 : (j7 : Int) < 64 := by omega
      obtain ⟨a7, ha7⟩ : ∃ a, a = (exI ws k).getD j7 0 := ⟨_, rfl⟩
      have HJ7 := Aside0.mk hj7
      have HA7 := Aside0.mk ha7
      clear hj7 ha7
      have HW := Aside0.mk (HS6.out.step (below_drew (Below.refl _ _)))
      have pi : i < 64 := by omega
      have ri : (i : Int) < 64 := by omega
      refine hideQ (fun QQ hQQ => ?_)
      refine start_ (n := 16) (S := fun w' => w'.cell? ⟨gw, j16, none⟩ = some (.int .u32 a16) ∧ w'.cell? ⟨gw, j7, none⟩ = some (.int .u32 a7)) (ds := [15]) #[false, false, false, false, false, false, false, false, false, false, false, false, false, false, false, false] (by kernel_rfl) rfl rfl ⟨HA16.out ▸ HW.out.w j16 (by rw [hL.out, HW64.out]; omega), HA7.out ▸ HW.out.w j7 (by rw [hL.out, HW64.out]; omega)⟩ (fun hHeld => ?_)
      refine with_tabW su31.tab su31.bits (fun HT_ HW_ => ?_)
      have fz : (World.drew _).frozen? ⟨gw, i, none⟩ = false := blk_frozen HW.out.kw i
      have fc : (World.drew _).cell? ⟨gw, i, none⟩ = some _ := HW.out.w i (by rw [hL.out, HW64.out]; omega)
      refine pure_ (i := 0) (N := some 129) (v := ?_) (a' := ?_) #[true, false, false, false, false, false, false, false, false, false, false, false, false, false, false, false] rfl rfl (any_of HT_.out (by kernel_rfl)) (fun _ _ _ h => h) (Or.inl ⟨by rfl, ?_⟩) ?_ ?_
      rotate_left
      · intro w'
        go_simp
        with_reducible rfl
      rotate_left
      · simp only [Act.put, qA, q0, qS, i64_w, i32_w]
        rfl
      refine pure_ (i := 1) (N := some 130) (v := ?_) (a' := ?_) #[true, true, false, false, false, false, false, false, false, false, false, false, false, false, false, false] rfl rfl (any_of HT_.out (by kernel_rfl)) (fun _ _ _ h => h) (Or.inl ⟨by rfl, ?_⟩) ?_ ?_
      rotate_left
      · intro w'
        go_simp
        with_reducible rfl
      rotate_left
      · simp only [Act.put, qA, q0, qS, i64_w, i32_w]
        rfl
      refine pure_ (i := 2) (N := some 131) (v := ?_) (a' := ?_) #[true, true, true, false, false, false, false, false, false, false, false, false, false, false, false, false] rfl rfl (any_of HT_.out (by kernel_rfl)) (fun _ _ _ h => h) (Or.inl ⟨by rfl, ?_⟩) ?_ ?_
      rotate_left
      · intro w'
        go_simp
        with_reducible rfl
      rotate_left
      · simp only [Act.put, qA, q0, qS, i64_w, i32_w]
        rfl
      refine pure_ (i := 3) (N := some 132) (v := ?_) (a' := ?_) #[true, true, true, true, false, false, false, false, false, false, false, false, false, false, false, false] rfl rfl (any_of HT_.out (by kernel_rfl)) (fun _ _ _ h => h) (Or.inl ⟨by rfl, ?_⟩) ?_ ?_
      rotate_left
      · intro w'
        go_simp
        with_reducible rfl
      rotate_left
      · simp only [Act.put, qA, q0, qS, i64_w, i32_w]
        rfl
      refine pure_ (i := 5) (N := some 134) (v := ?_) (a' := ?_) #[true, true, true, true, false, true, false, false, false, false, false, false, false, false, false, false] rfl rfl (any_of HT_.out (by kernel_rfl)) (fun _ _ _ h => h) (Or.inl ⟨by rfl, ?_⟩) ?_ ?_
      rotate_left
      · intro w'
        go_simp
        with_reducible rfl
      rotate_left
      · simp only [Act.put, qA, q0, qS, i64_w, i32_w]
        rfl
      refine pure_ (i := 7) (N := some 136) (v := ?_) (a' := ?_) #[true, true, true, true, false, true, false, true, false, false, false, false, false, false, false, false] rfl rfl (any_of HT_.out (by kernel_rfl)) (fun _ _ _ h => h) (Or.inl ⟨by rfl, ?_⟩) ?_ ?_
      rotate_left
      · intro w'
        go_simp
        with_reducible rfl
      rotate_left
      · simp only [Act.put, qA, q0, qS, i64_w, i32_w]
        rfl
      refine pure_ (i := 8) (N := some 137) (v := ?_) (a' := ?_) #[true, true, true, true, false, true, false, true, true, false, false, false, false, false, false, false] rfl rfl (any_of HT_.out (by kernel_rfl)) (fun _ _ _ h => h) (Or.inl ⟨by rfl, ?_⟩) ?_ ?_
      rotate_left
      · intro w'
        go_simp
        with_reducible rfl
      rotate_left
      · simp only [Act.put, qA, q0, qS, i64_w, i32_w]
        rfl
      refine pure_ (i := 9) (N := some 138) (v := ?_) (a' := ?_) #[true, true, true, true, false, true, false, true, true, true, false, false, false, false, false, false] rfl rfl (any_of HT_.out (by kernel_rfl)) (fun _ _ _ h => h) (Or.inl ⟨by rfl, ?_⟩) ?_ ?_
      rotate_left
      · intro w'
        go_simp
        with_reducible rfl
      rotate_left
      · simp only [Act.put, qA, q0, qS, i64_w, i32_w]
        rfl
      refine pure_ (i := 12) (N := some 141) (v := ?_) (a' := ?_) #[true, true, true, true, false, true, false, true, true, true, false, false, true, false, false, false] rfl rfl (any_of HT_.out (by kernel_rfl)) (fun _ _ _ h => h) (Or.inl ⟨by rfl, ?_⟩) ?_ ?_
      rotate_left
      · intro w'
        go_simp
        with_reducible rfl
      rotate_left
      · simp only [Act.put, qA, q0, qS, i64_w, i32_w]
        rfl
      refine take_ (i := 4) (N := some 133) (v := ?_) (a' := ?_) #[true, true, true, true, true, true, false, true, true, true, false, false, true, false, false, false] rfl rfl (take_ofW HT_.out HW_.out (by kernel_rfl)) (fun _ _ _ h => h) (Or.inl ⟨by rfl, ?_⟩) hHeld ?_ ?_
      rotate_left
      · rintro w' ⟨s0, s1⟩
        go_simp
        with_reducible rfl
      rotate_left
      · simp only [Act.put, qA, q0, qS, i64_w, i32_w]
        rfl
      refine pure_ (i := 6) (N := some 135) (v := ?_) (a' := ?_) #[true, true, true, true, true, true, true, true, true, true, false, false, true, false, false, false] rfl rfl (any_of HT_.out (by kernel_rfl)) (fun _ _ _ h => h) (Or.inl ⟨by rfl, ?_⟩) ?_ ?_
      rotate_left
      · intro w'
        go_simp
        with_reducible rfl
      rotate_left
      · simp only [Act.put, qA, q0, qS, i64_w, i32_w]
        rfl
      refine take_ (i := 10) (N := some 139) (v := ?_) (a' := ?_) #[true, true, true, true, true, true, true, true, true, true, true, false, true, false, false, false] rfl rfl (take_ofW HT_.out HW_.out (by kernel_rfl)) (fun _ _ _ h => h) (Or.inl ⟨by rfl, ?_⟩) hHeld ?_ ?_
      rotate_left
      · rintro w' ⟨s0, s1⟩
        go_simp
        with_reducible rfl
      rotate_left
      · simp only [Act.put, qA, q0, qS, i64_w, i32_w]
        rfl
      refine pure_ (i := 11) (N := some 140) (v := ?_) (a' := ?_) #[true, true, true, true, true, true, true, true, true, true, true, true, true, false, false, false] rfl rfl (any_of HT_.out (by kernel_rfl)) (fun _ _ _ h => h) (Or.inl ⟨by rfl, ?_⟩) ?_ ?_
      rotate_left
      · intro w'
        go_simp
        with_reducible rfl
      rotate_left
      · simp only [Act.put, qA, q0, qS, i64_w, i32_w]
        rfl
      refine pure_ (i := 13) (N := some 142) (v := ?_) (a' := ?_) #[true, true, true, true, true, true, true, true, true, true, true, true, true, true, false, false] rfl rfl (any_of HT_.out (by kernel_rfl)) (fun _ _ _ h => h) (Or.inl ⟨by rfl, ?_⟩) ?_ ?_
      rotate_left
      · intro w'
        go_simp
        with_reducible rfl
      rotate_left
      · simp only [Act.put, qA, q0, qS, i64_w, i32_w]
        rfl
      refine pure_ (i := 14) (N := some 143) (v := ?_) (a' := ?_) #[true, true, true, true, true, true, true, true, true, true, true, true, true, true, true, false] rfl rfl (any_of HT_.out (by kernel_rfl)) (fun _ _ _ h => h) (Or.inl ⟨by rfl, ?_⟩) ?_ ?_
      rotate_left
      · intro w'
        go_simp
        with_reducible rfl
      rotate_left
      · simp only [Act.put, qA, q0, qS, i64_w, i32_w]
        rfl
      refine last_store (w1 := ?_) (i := 15) #[true, true, true, true, true, true, true, true, true, true, true, true, true, true, true, true] rfl rfl (one_of HT_.out (by kernel_rfl)) (by decide) (by rfl) ?_ ?_
      rotate_left
      · go_simp
        rfl
      refine done_ (done_of HT_.out (by kernel_rfl)) ?_
      refine hQQ _ _ ?_
      clear hQQ QQ
      refine hK4 _ _ ?_
      clear hK4 K4
      clear q16 r16 q7 r7 fz fc
      have qi : IntKind.i64.wrap ((i : Int) + 1) = ((16 + (k + 1) : Nat) : Int) := by rw [IntKind.wrap_i64]; have := HI.out; omega
      refine wp_region_lit ?_
      refine wpList_plain rfl (fun K hK => ?_); go_simp; refine hK _ _ ?_; clear hK K
      refine wpList_plain rfl (fun K hK => ?_); go_simp; refine hK _ _ ?_; clear hK K
      refine wpList_plain rfl (fun K hK => ?_); go_simp; refine hK _ _ ?_; clear hK K
      refine wpList_nil ?_
      refine absG (R := Exit.then _ _ Exit.normal) (fun T6_ hT => ?_)
      have hsT6_ : T6_.size = 300 := by rw [hT]; simp only [Array.size_setIfInBounds]; exact hsT5_
      have fT6__3 : T6_[3]? = _ := (congrArg (fun X_ : Array Value => X_[3]?) hT).trans (gq_ne (d := 13) (by decide) (gq_ne (d := 90) (by decide) (gq_ne (d := 89) (by decide) (gq_ne (d := 143) (by decide) (gq_ne (d := 142) (by decide) (gq_ne (d := 140) (by decide) (gq_ne (d := 139) (by decide) (gq_ne (d := 135) (by decide) (gq_ne (d := 133) (by decide) (gq_ne (d := 141) (by decide) (gq_ne (d := 138) (by decide) (gq_ne (d := 137) (by decide) (gq_ne (d := 136) (by decide) (gq_ne (d := 134) (by decide) (gq_ne (d := 132) (by decide) (gq_ne (d := 131) (by decide) (gq_ne (d := 130) (by decide) (gq_ne (d := 129) (by decide) (fT5__3)))))))))))))))))))
      have fT6__4 : T6_[4]? = _ := (congrArg (fun X_ : Array Value => X_[4]?) hT).trans (gq_ne (d := 13) (by decide) (gq_ne (d := 90) (by decide) (gq_ne (d := 89) (by decide) (gq_ne (d := 143) (by decide) (gq_ne (d := 142) (by decide) (gq_ne (d := 140) (by decide) (gq_ne (d := 139) (by decide) (gq_ne (d := 135) (by decide) (gq_ne (d := 133) (by decide) (gq_ne (d := 141) (by decide) (gq_ne (d := 138) (by decide) (gq_ne (d := 137) (by decide) (gq_ne (d := 136) (by decide) (gq_ne (d := 134) (by decide) (gq_ne (d := 132) (by decide) (gq_ne (d := 131) (by decide) (gq_ne (d := 130) (by decide) (gq_ne (d := 129) (by decide) (fT5__4)))))))))))))))))))
      have fT6__6 : T6_[6]? = _ := (congrArg (fun X_ : Array Value => X_[6]?) hT).trans (gq_ne (d := 13) (by decide) (gq_ne (d := 90) (by decide) (gq_ne (d := 89) (by decide) (gq_ne (d := 143) (by decide) (gq_ne (d := 142) (by decide) (gq_ne (d := 140) (by decide) (gq_ne (d := 139) (by decide) (gq_ne (d := 135) (by decide) (gq_ne (d := 133) (by decide) (gq_ne (d := 141) (by decide) (gq_ne (d := 138) (by decide) (gq_ne (d := 137) (by decide) (gq_ne (d := 136) (by decide) (gq_ne (d := 134) (by decide) (gq_ne (d := 132) (by decide) (gq_ne (d := 131) (by decide) (gq_ne (d := 130) (by decide) (gq_ne (d := 129) (by decide) (fT5__6)))))))))))))))))))
      have fT6__8 : T6_[8]? = _ := (congrArg (fun X_ : Array Value => X_[8]?) hT).trans (gq_ne (d := 13) (by decide) (gq_ne (d := 90) (by decide) (gq_ne (d := 89) (by decide) (gq_ne (d := 143) (by decide) (gq_ne (d := 142) (by decide) (gq_ne (d := 140) (by decide) (gq_ne (d := 139) (by decide) (gq_ne (d := 135) (by decide) (gq_ne (d := 133) (by decide) (gq_ne (d := 141) (by decide) (gq_ne (d := 138) (by decide) (gq_ne (d := 137) (by decide) (gq_ne (d := 136) (by decide) (gq_ne (d := 134) (by decide) (gq_ne (d := 132) (by decide) (gq_ne (d := 131) (by decide) (gq_ne (d := 130) (by decide) (gq_ne (d := 129) (by decide) (fT5__8)))))))))))))))))))
      have fT6__9 : T6_[9]? = _ := (congrArg (fun X_ : Array Value => X_[9]?) hT).trans (gq_ne (d := 13) (by decide) (gq_ne (d := 90) (by decide) (gq_ne (d := 89) (by decide) (gq_ne (d := 143) (by decide) (gq_ne (d := 142) (by decide) (gq_ne (d := 140) (by decide) (gq_ne (d := 139) (by decide) (gq_ne (d := 135) (by decide) (gq_ne (d := 133) (by decide) (gq_ne (d := 141) (by decide) (gq_ne (d := 138) (by decide) (gq_ne (d := 137) (by decide) (gq_ne (d := 136) (by decide) (gq_ne (d := 134) (by decide) (gq_ne (d := 132) (by decide) (gq_ne (d := 131) (by decide) (gq_ne (d := 130) (by decide) (gq_ne (d := 129) (by decide) (fT5__9)))))))))))))))))))
      have fT6__10 : T6_[10]? = _ := (congrArg (fun X_ : Array Value => X_[10]?) hT).trans (gq_ne (d := 13) (by decide) (gq_ne (d := 90) (by decide) (gq_ne (d := 89) (by decide) (gq_ne (d := 143) (by decide) (gq_ne (d := 142) (by decide) (gq_ne (d := 140) (by decide) (gq_ne (d := 139) (by decide) (gq_ne (d := 135) (by decide) (gq_ne (d := 133) (by decide) (gq_ne (d := 141) (by decide) (gq_ne (d := 138) (by decide) (gq_ne (d := 137) (by decide) (gq_ne (d := 136) (by decide) (gq_ne (d := 134) (by decide) (gq_ne (d := 132) (by decide) (gq_ne (d := 131) (by decide) (gq_ne (d := 130) (by decide) (gq_ne (d := 129) (by decide) (fT5__10)))))))))))))))))))
      have fT6__13 : T6_[13]? = _ := (congrArg (fun X_ : Array Value => X_[13]?) hT).trans (gq_eq (i := 13) (by simp only [Array.size_setIfInBounds, hsT5_]; decide))
      clear hT
      clear fT5__3 tT5__3 fT5__4 tT5__4 fT5__6 tT5__6 fT5__8 tT5__8 fT5__9 tT5__9 fT5__10 tT5__10 fT5__13 tT5__13 fT5__14 tT5__14 fT5__15 tT5__15 hsT5_
      have tT6__3 := gat hsT6_ (by decide) fT6__3
      have tT6__4 := gat hsT6_ (by decide) fT6__4
      have tT6__6 := gat hsT6_ (by decide) fT6__6
      have tT6__8 := gat hsT6_ (by decide) fT6__8
      have tT6__9 := gat hsT6_ (by decide) fT6__9
      have tT6__10 := gat hsT6_ (by decide) fT6__10
      have tT6__13 := gat hsT6_ (by decide) fT6__13
      have HWX := (HS6.out.setW i (IntKind.u32.wrap (IntKind.u32.wrap (IntKind.u32.wrap (a16 + g0 a15) + a7) + g1 a2))).step (below_drew (Below.refl _ _))
      refine ⟨⟨_, k + 1, rfl, hsT6_, fT6__3, fT6__4, fT6__6, fT6__8, fT6__9, fT6__10, fT6__13, by omega, ⟨by rw [exI, exS, ← HI.out, ← HJ16.out, ← HJ15.out, ← HJ7.out, ← HJ2.out, ← HA16.out, ← HA15.out, ← HA7.out, ← HA2.out]; exact HWX⟩⟩, by have hh := HI.out; show _ - (intOf (T6_[13]?.getD undef)).toNat < _ - (intOf (T2_[13]?.getD undef)).toNat; rw [fT6__13, fT2__13]; show 64 - ((16 + (k + 1) : Nat) : Int).toNat < 64 - ((i : Nat) : Int).toNat; rw [Int.toNat_natCast, Int.toNat_natCast]; omega⟩
    · obtain rfl : k = 48 := by omega
      refine wp_seq_k (fun K7 hK7 => ?_)
      refine wp_seq_k (fun K8 hK8 => ?_)
      refine wp_region_lit ?_
      refine wpList_plain rfl (fun K hK => ?_); go_simp; refine hK _ _ ?_; clear hK K
      refine wpList_plain rfl (fun K hK => ?_); go_simp; refine hK _ _ ?_; clear hK K
      refine wpList_nil ?_
      refine hK8 _ _ ?_
      clear hK8 K8
      refine absR (fun T7_ hT => ?_)
      have hsT7_ : T7_.size = 300 := by rw [hT]; simp only [Array.size_setIfInBounds]; exact hsT2_
      have fT7__3 : T7_[3]? = _ := (congrArg (fun X_ : Array Value => X_[3]?) hT).trans (gq_ne (d := 88) (by decide) (gq_ne (d := 87) (by decide) (fT2__3)))
      have fT7__4 : T7_[4]? = _ := (congrArg (fun X_ : Array Value => X_[4]?) hT).trans (gq_ne (d := 88) (by decide) (gq_ne (d := 87) (by decide) (fT2__4)))
      have fT7__6 : T7_[6]? = _ := (congrArg (fun X_ : Array Value => X_[6]?) hT).trans (gq_ne (d := 88) (by decide) (gq_ne (d := 87) (by decide) (fT2__6)))
      have fT7__8 : T7_[8]? = _ := (congrArg (fun X_ : Array Value => X_[8]?) hT).trans (gq_ne (d := 88) (by decide) (gq_ne (d := 87) (by decide) (fT2__8)))
      have fT7__9 : T7_[9]? = _ := (congrArg (fun X_ : Array Value => X_[9]?) hT).trans (gq_ne (d := 88) (by decide) (gq_ne (d := 87) (by decide) (fT2__9)))
      have fT7__10 : T7_[10]? = _ := (congrArg (fun X_ : Array Value => X_[10]?) hT).trans (gq_ne (d := 88) (by decide) (gq_ne (d := 87) (by decide) (fT2__10)))
      have fT7__88 : T7_[88]? = _ := (congrArg (fun X_ : Array Value => X_[88]?) hT).trans (gq_eq (i := 88) (by simp only [Array.size_setIfInBounds, hsT2_]; decide))
      clear hT
      clear tT2__3 tT2__4 tT2__6 tT2__8 tT2__9 tT2__10 tT2__13
      have tT7__3 := gat hsT7_ (by decide) fT7__3
      have tT7__4 := gat hsT7_ (by decide) fT7__4
      have tT7__6 := gat hsT7_ (by decide) fT7__6
      have tT7__8 := gat hsT7_ (by decide) fT7__8
      have tT7__9 := gat hsT7_ (by decide) fT7__9
      have tT7__10 := gat hsT7_ (by decide) fT7__10
      have tT7__88 := gat hsT7_ (by decide) fT7__88
      refine wp_cond_false ((gev fT7__88).trans (congrArg Value.bool (by first | rfl | (simp; omega) | (simp; done)))) ?_
      refine wp_exit ?_
      exact HQ.out _ _ hsT7_ fT7__3 fT7__4 fT7__6 fT7__8 fT7__9 fT7__10 HS4
end Go.Proofs.Ytlnknihjccdgkaa.M
