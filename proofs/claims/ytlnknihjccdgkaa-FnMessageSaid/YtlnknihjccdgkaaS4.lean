/- The reference's SHA-256: the 64 rounds, and the block's sum into the state. -/
import Derived.Test.YtlnknihjccdgkaaS3
namespace Go.Proofs.Ytlnknihjccdgkaa.M
open Go.RowKit Go.Proofs.YtlnknihjccdgkaaW.PrintWords Go.Proofs.YtlnknihjccdgkaaW.PrintLast Go.Proofs.YtlnknihjccdgkaaW.PrintMore Go.Proofs.Ytlnknihjccdgkaa.PFnMessage
set_option linter.unusedVariables false
set_option linter.unusedSimpArgs false

def fs1 (x : Int) : Int := bits .xor .u32 (bits .xor .u32 (tn x 6) (tn x 11)) (tn x 25)
def fs0 (x : Int) : Int := bits .xor .u32 (bits .xor .u32 (tn x 2) (tn x 13)) (tn x 22)
def fch (e f g : Int) : Int := bits .xor .u32 (bits .and .u32 e f) (bits .and .u32 (bits .xor .u32 (if IntKind.u32.signed = true then -1 else IntKind.u32.max) e) g)
def fmaj (a b c : Int) : Int := bits .xor .u32 (bits .xor .u32 (bits .and .u32 a b) (bits .and .u32 a c)) (bits .and .u32 b c)
def ft1 (v k ws : List Int) (i : Nat) : Int :=
  IntKind.u32.wrap (IntKind.u32.wrap (IntKind.u32.wrap (IntKind.u32.wrap (v.getD 7 0 + fs1 (v.getD 4 0)) + fch (v.getD 4 0) (v.getD 5 0) (v.getD 6 0)) + k.getD i 0) + ws.getD i 0)
/-- One round. -/
def rdS (ws v : List Int) (i : Nat) : List Int :=
  [IntKind.u32.wrap (IntKind.u32.wrap (ft1 v roundsL ws i + fs0 (v.getD 0 0)) + fmaj (v.getD 0 0) (v.getD 1 0) (v.getD 2 0)), v.getD 0 0, v.getD 1 0, v.getD 2 0, IntKind.u32.wrap (v.getD 3 0 + ft1 v roundsL ws i), v.getD 4 0, v.getD 5 0, v.getD 6 0]
def rdI (ws v : List Int) : Nat → List Int
  | 0 => v
  | k + 1 => rdS ws (rdI ws v k) k
def adS (hs v : List Int) (i : Nat) : List Int := hs.set i (IntKind.u32.wrap (hs.getD i 0 + v.getD i 0))
def adI (hs v : List Int) : Nat → List Int
  | 0 => hs
  | k + 1 => adS (adI hs v k) v k
theorem adI_len (hs v : List Int) : ∀ k, (adI hs v k).length = hs.length
  | 0 => rfl
  | k + 1 => by rw [adI, adS, List.length_set, adI_len]
/-- A block of eight words at least. -/
def V8 (W : World) (g : Nat) (xs : List Int) : Prop := ∃ cs, W.heap[g]? = some (.cells cs 50 (0, 0)) ∧ ∀ i, i < 8 → cs[i]? = some (.int .u32 (xs.getD i 0))
theorem V8.step {W w1 : World} {g : Nat} {xs : List Int} (h : V8 W g xs) (hb : Below W.heap.size W w1) : V8 w1 g xs := by
  obtain ⟨cs, h1, h2⟩ := h
  exact ⟨cs, blk_below h1 hb, h2⟩
theorem V8.get {W : World} {g : Nat} {xs : List Int} (h : V8 W g xs) (i : Nat) (hi : i < 8) : W.cell? ⟨g, i, none⟩ = some (.int .u32 (xs.getD i 0)) := by
  obtain ⟨cs, h1, h2⟩ := h
  exact (blk_cell h1 i).trans (h2 i hi)
theorem V8.set {W : World} {g g' j t : Nat} {xs : List Int} {cs : Array Value} {u : Value} (h : V8 W g xs) (hb : W.heap[g']? = some (.cells cs t (0, 0))) (ht : 50 ≠ t) : V8 (W.setCell ⟨g', j, none⟩ u) g xs := by
  obtain ⟨cs, h1, h2⟩ := h
  exact ⟨cs, blk_far h1 (blk_ne h1 hb ht), h2⟩
theorem V8.new (W : World) (a b c d e f g h : Int) : V8 (W.alloc (.cells #[.int .u32 a, .int .u32 b, .int .u32 c, .int .u32 d, .int .u32 e, .int .u32 f, .int .u32 g, .int .u32 h] 50)) W.heap.size [a, b, c, d, e, f, g, h] := by
  refine ⟨_, blk_new _ _, ?_⟩
  intro i hi
  match i, hi with
  | 0, _ => rfl
  | 1, _ => rfl
  | 2, _ => rfl
  | 3, _ => rfl
  | 4, _ => rfl
  | 5, _ => rfl
  | 6, _ => rfl
  | 7, _ => rfl

theorem V8.newdd (W : World) (a b c d e f g h : Int) : V8 ((W.alloc (.cells #[.int .u32 a, .int .u32 b, .int .u32 c, .int .u32 d, .int .u32 e, .int .u32 f, .int .u32 g, .int .u32 h] 50)).drew.drew) W.heap.size [a, b, c, d, e, f, g, h] := V8.new W a b c d e f g h
theorem below_dad {w : World} (o : Obj) : Below w.drew.drew.heap.size w.drew.drew (w.alloc o).drew.drew := by
  have h := below_alloc (Below.refl w.drew.drew.heap.size w.drew.drew) o
  exact h

def su36.T : Bool × List (List Nat × List Nat) := (true, [([], []), ([], []), ([1], [1]), ([2], [2]), ([0, 3], [0, 3]), ([], []), ([], []), ([6], [6]), ([7], [7]), ([5, 8, 4], [5, 8]), ([4, 9], [4, 9]), ([], []), ([], []), ([12], [12]), ([13], [13]), ([11, 14, 9], [11, 14]), ([10, 15], [10, 15]), ([16, 15, 0, 1, 2, 3, 4, 5, 6, 7, 8, 9, 10, 11, 12, 13, 14, 15, 16], [16])])
def su36.B : List Nat := [0, 0, 2, 6, 15, 0, 0, 64, 192, 511, 1023, 0, 0, 4096, 12288, 31743, 65535, 131071]
theorem su36.tab : rtab .any (opsOf Try.f9 36) = su36.T := by kernel_rfl
theorem su36.bits : waitsOk su36.T.2 su36.B = true := by kernel_rfl
def su37.T : Bool × List (List Nat × List Nat) := (true, [([], []), ([0], [0]), ([1], [1]), ([], []), ([3], [3]), ([4], [4]), ([2, 5], [2, 5]), ([], []), ([7], [7]), ([8], [8]), ([9], [9]), ([], []), ([11], [11]), ([12], [12]), ([10, 13], [10, 13]), ([6, 14], [6, 14]), ([15, 0, 1, 2, 3, 4, 5, 6, 7, 8, 9, 10, 11, 12, 13, 14, 15], [15])])
def su37.B : List Nat := [0, 1, 3, 0, 8, 24, 63, 0, 128, 384, 896, 0, 2048, 6144, 16256, 32767, 65535]
theorem su37.tab : rtab .any (opsOf Try.f9 37) = su37.T := by kernel_rfl
theorem su37.bits : waitsOk su37.T.2 su37.B = true := by kernel_rfl
def su38.T : Bool × List (List Nat × List Nat) := (true, [([], []), ([0], [0]), ([1], [1]), ([], []), ([2, 3], [2, 3]), ([], []), ([4, 5], [4, 5]), ([], []), ([7], [7]), ([8], [8]), ([6, 9], [6, 9]), ([], []), ([11], [11]), ([12], [12]), ([10, 13], [10, 13]), ([14, 0, 1, 2, 3, 4, 5, 6, 7, 8, 9, 10, 11, 12, 13, 14], [14])])
def su38.B : List Nat := [0, 1, 3, 0, 15, 0, 63, 0, 128, 384, 1023, 0, 2048, 6144, 16383, 32767]
theorem su38.tab : rtab .any (opsOf Try.f9 38) = su38.T := by kernel_rfl
theorem su38.bits : waitsOk su38.T.2 su38.B = true := by kernel_rfl
def su39.T : Bool × List (List Nat × List Nat) := (true, [([], []), ([], []), ([1], [1]), ([2], [2]), ([0, 3], [0, 3]), ([], []), ([], []), ([6], [6]), ([7], [7]), ([5, 8, 4], [5, 8]), ([4, 9], [4, 9]), ([], []), ([], []), ([12], [12]), ([13], [13]), ([11, 14, 9], [11, 14]), ([10, 15], [10, 15]), ([16, 15, 0, 1, 2, 3, 4, 5, 6, 7, 8, 9, 10, 11, 12, 13, 14, 15, 16], [16])])
def su39.B : List Nat := [0, 0, 2, 6, 15, 0, 0, 64, 192, 511, 1023, 0, 0, 4096, 12288, 31743, 65535, 131071]
theorem su39.tab : rtab .any (opsOf Try.f9 39) = su39.T := by kernel_rfl
theorem su39.bits : waitsOk su39.T.2 su39.B = true := by kernel_rfl
def su40.T : Bool × List (List Nat × List Nat) := (true, [([], []), ([0], [0]), ([1], [1]), ([], []), ([3], [3]), ([4], [4]), ([2, 5], [2, 5]), ([], []), ([7], [7]), ([8], [8]), ([], []), ([10], [10]), ([11], [11]), ([9, 12], [9, 12]), ([6, 13], [6, 13]), ([], []), ([15], [15]), ([16], [16]), ([], []), ([18], [18]), ([19], [19]), ([17, 20], [17, 20]), ([14, 21], [14, 21]), ([22, 0, 1, 2, 3, 4, 5, 6, 7, 8, 9, 10, 11, 12, 13, 14, 15, 16, 17, 18, 19, 20, 21, 22], [22])])
def su40.B : List Nat := [0, 1, 3, 0, 8, 24, 63, 0, 128, 384, 0, 1024, 3072, 8064, 16383, 0, 32768, 98304, 0, 262144, 786432, 2064384, 4194303, 8388607]
theorem su40.tab : rtab .any (opsOf Try.f9 40) = su40.T := by kernel_rfl
theorem su40.bits : waitsOk su40.T.2 su40.B = true := by kernel_rfl
def su41.T : Bool × List (List Nat × List Nat) := (true, [([], []), ([], []), ([0, 1], [0, 1]), ([], []), ([2, 3], [2, 3]), ([], []), ([5], [5]), ([6], [6]), ([], []), ([8], [8]), ([9], [9]), ([], []), ([11], [11]), ([12], [12]), ([], []), ([14], [14]), ([15], [15]), ([], []), ([16, 17], [16, 17]), ([], []), ([19], [19]), ([20], [20]), ([], []), ([22], [22]), ([23], [23]), ([], []), ([25], [25]), ([26], [26]), ([4, 7, 10, 13, 18, 21, 24, 27], [4, 7, 10, 13, 18, 21, 24, 27]), ([28, 0, 1, 2, 3, 4, 5, 6, 7, 8, 9, 10, 11, 12, 13, 14, 15, 16, 17, 18, 19, 20, 21, 22, 23, 24, 25, 26, 27, 28], [5, 8, 11, 14, 19, 22, 25, 28])])
def su41.B : List Nat := [0, 0, 3, 0, 15, 0, 32, 96, 0, 256, 768, 0, 2048, 6144, 0, 16384, 49152, 0, 245760, 0, 524288, 1572864, 0, 4194304, 12582912, 0, 33554432, 100663296, 268435455, 536870911]
theorem su41.tab : rtab .any (opsOf Try.f9 41) = su41.T := by kernel_rfl
theorem su41.bits : waitsOk su41.T.2 su41.B = true := by kernel_rfl
def su46.T : Bool × List (List Nat × List Nat) := (true, [([], []), ([0], [0]), ([1], [1]), ([], []), ([], []), ([3, 4], [3, 4]), ([5], [5]), ([2, 6], [2, 6]), ([0, 0, 1, 2, 3, 4, 5, 6, 7], [0]), ([8, 7, 0, 1, 2, 3, 4, 5, 6, 7], [7, 8])])
def su46.B : List Nat := [0, 1, 3, 0, 0, 24, 56, 127, 255, 511]
theorem su46.tab : rtab .any (opsOf Try.f9 46) = su46.T := by kernel_rfl
theorem su46.bits : waitsOk su46.T.2 su46.B = true := by kernel_rfl

set_option maxHeartbeats 8000000 in
set_option maxRecDepth 1000000 in
theorem su_rounds (C : Code) (hC : C = at_ [1, 1, 1, 1, 1, 1, 1, 1, 0, 1, 0, 0, 1, 0, 0, 1, 1, 1, 1, 0] (Try.f9.body.getD .skip)) (Q : Exit → Act → World → Prop) (T0_ : Array Value) (w wr : World) (gh gk gw gv cv : Nat) (u : Value) (at_ : Int) (m hs ws xs : List Int)
    (hsT0_ : T0_.size = 300) (fT0__3 : T0_[3]? = some (.pointer (some ⟨gh, 0, none⟩))) (fT0__4 : T0_[4]? = some (.pointer (some ⟨gk, 0, none⟩))) (fT0__6 : T0_[6]? = some u) (fT0__8 : T0_[8]? = some (.func (.func 23) #[] #[])) (fT0__9 : T0_[9]? = some (.int .i64 at_)) (fT0__10 : T0_[10]? = some (.pointer (some ⟨gw, 0, none⟩))) (fT0__16 : T0_[16]? = some (.slice (some ⟨gv, 0, none⟩) 8 cv))
    (HS3 : Aside0 (St w wr gh gk gw u m hs ws)) (HV3 : Aside0 (V8 wr gv xs)) (hws : ws.length = 64)
    (hQ : ∀ (T : Array Value) (W : World) (gv cv : Nat), T.size = 300 → T[3]? = some (.pointer (some ⟨gh, 0, none⟩)) → T[4]? = some (.pointer (some ⟨gk, 0, none⟩)) → T[6]? = some u → T[8]? = some (.func (.func 23) #[] #[]) → T[9]? = some (.int .i64 at_) → T[16]? = some (.slice (some ⟨gv, 0, none⟩) 8 cv) → Aside0 (St w W gh gk gw u m hs ws) → Aside0 (V8 W gv (rdI ws xs 64)) → Q .normal ⟨T, []⟩ W) :
    Code.wp Try.prog C Q ⟨T0_, []⟩ wr := by
  subst hC
  conv => arg 2; whnf
  have HW64 := Aside0.mk hws
  have HQ := Aside0.mk hQ
  clear hws hQ
  have tT0__3 := gat hsT0_ (by decide) fT0__3
  have tT0__4 := gat hsT0_ (by decide) fT0__4
  have tT0__6 := gat hsT0_ (by decide) fT0__6
  have tT0__8 := gat hsT0_ (by decide) fT0__8
  have tT0__9 := gat hsT0_ (by decide) fT0__9
  have tT0__10 := gat hsT0_ (by decide) fT0__10
  have tT0__16 := gat hsT0_ (by decide) fT0__16
  refine wp_seq_k (fun K1 hK1 => ?_)
  refine wp_region_lit ?_
  refine wpList_plain rfl (fun K hK => ?_); go_simp; refine hK _ _ ?_; clear hK K
  refine wpList_nil ?_
  refine hK1 _ _ ?_
  clear hK1 K1
  refine absR (fun T1_ hT => ?_)
  have hsT1_ : T1_.size = 300 := by rw [hT]; simp only [Array.size_setIfInBounds]; exact hsT0_
  have fT1__3 : T1_[3]? = _ := (congrArg (fun X_ : Array Value => X_[3]?) hT).trans (gq_ne (d := 146) (by decide) (fT0__3))
  have fT1__4 : T1_[4]? = _ := (congrArg (fun X_ : Array Value => X_[4]?) hT).trans (gq_ne (d := 146) (by decide) (fT0__4))
  have fT1__6 : T1_[6]? = _ := (congrArg (fun X_ : Array Value => X_[6]?) hT).trans (gq_ne (d := 146) (by decide) (fT0__6))
  have fT1__8 : T1_[8]? = _ := (congrArg (fun X_ : Array Value => X_[8]?) hT).trans (gq_ne (d := 146) (by decide) (fT0__8))
  have fT1__9 : T1_[9]? = _ := (congrArg (fun X_ : Array Value => X_[9]?) hT).trans (gq_ne (d := 146) (by decide) (fT0__9))
  have fT1__10 : T1_[10]? = _ := (congrArg (fun X_ : Array Value => X_[10]?) hT).trans (gq_ne (d := 146) (by decide) (fT0__10))
  have fT1__16 : T1_[16]? = _ := (congrArg (fun X_ : Array Value => X_[16]?) hT).trans (gq_ne (d := 146) (by decide) (fT0__16))
  have fT1__146 : T1_[146]? = _ := (congrArg (fun X_ : Array Value => X_[146]?) hT).trans (gq_eq (i := 146) (by simp only [Array.size_setIfInBounds, hsT0_]; decide))
  clear hT
  clear fT0__3 tT0__3 fT0__4 tT0__4 fT0__6 tT0__6 fT0__8 tT0__8 fT0__9 tT0__9 fT0__10 tT0__10 fT0__16 tT0__16 hsT0_
  have tT1__3 := gat hsT1_ (by decide) fT1__3
  have tT1__4 := gat hsT1_ (by decide) fT1__4
  have tT1__6 := gat hsT1_ (by decide) fT1__6
  have tT1__8 := gat hsT1_ (by decide) fT1__8
  have tT1__9 := gat hsT1_ (by decide) fT1__9
  have tT1__10 := gat hsT1_ (by decide) fT1__10
  have tT1__16 := gat hsT1_ (by decide) fT1__16
  have tT1__146 := gat hsT1_ (by decide) fT1__146
  refine wp_block ?_
  refine wp_loop (fun a W => ∃ (T : Array Value) (k : Nat) (gv : Nat) (cv : Nat), a = ⟨T, []⟩ ∧ T.size = 300 ∧ T[3]? = some (.pointer (some ⟨gh, 0, none⟩)) ∧ T[4]? = some (.pointer (some ⟨gk, 0, none⟩)) ∧ T[6]? = some (u) ∧ T[8]? = some (.func (.func 23) #[] #[]) ∧ T[9]? = some (.int .i64 at_) ∧ T[10]? = some (.pointer (some ⟨gw, 0, none⟩)) ∧ T[16]? = some (.slice (some ⟨gv, 0, none⟩) 8 cv) ∧ T[146]? = some (.int .i64 (k : Int)) ∧ k ≤ 64 ∧ Aside0 (St w W gh gk gw u m hs ws) ∧ Aside0 (V8 W gv (rdI ws xs k))) (fun a W => 64 - (intOf (a.tmps[146]?.getD undef)).toNat) ?_ ?_
  · exact ⟨_, 0, gv, cv, rfl, hsT1_, fT1__3, fT1__4, fT1__6, fT1__8, fT1__9, fT1__10, fT1__16, fT1__146, by omega, HS3, HV3⟩
  · rintro _ wr ⟨T2_, k, gv, cv, rfl, hsT2_, fT2__3, fT2__4, fT2__6, fT2__8, fT2__9, fT2__10, fT2__16, fT2__146, hk, HS4, HV4⟩
    have tT2__3 := gat hsT2_ (by decide) fT2__3
    have tT2__4 := gat hsT2_ (by decide) fT2__4
    have tT2__6 := gat hsT2_ (by decide) fT2__6
    have tT2__8 := gat hsT2_ (by decide) fT2__8
    have tT2__9 := gat hsT2_ (by decide) fT2__9
    have tT2__10 := gat hsT2_ (by decide) fT2__10
    have tT2__16 := gat hsT2_ (by decide) fT2__16
    have tT2__146 := gat hsT2_ (by decide) fT2__146
    clear HS3 HV3
    by_cases hk2 : k < 64
    · skip
      obtain ⟨ys, hys⟩ : ∃ ys, ys = rdI ws xs k := ⟨_, rfl⟩
      rw [← hys] at HV4
      have HYS := Aside0.mk hys
      clear hys
      obtain ⟨a0, ha0⟩ : ∃ a, a = ys.getD 0 0 := ⟨_, rfl⟩
      have HA0 := Aside0.mk ha0
      clear ha0
      obtain ⟨a1, ha1⟩ : ∃ a, a = ys.getD 1 0 := ⟨_, rfl⟩
      have HA1 := Aside0.mk ha1
      clear ha1
      obtain ⟨a2, ha2⟩ : ∃ a, a = ys.getD 2 0 := ⟨_, rfl⟩
      have HA2 := Aside0.mk ha2
      clear ha2
      obtain ⟨a3, ha3⟩ : ∃ a, a = ys.getD 3 0 := ⟨_, rfl⟩
      have HA3 := Aside0.mk ha3
      clear ha3
      obtain ⟨a4, ha4⟩ : ∃ a, a = ys.getD 4 0 := ⟨_, rfl⟩
      have HA4 := Aside0.mk ha4
      clear ha4
      obtain ⟨a5, ha5⟩ : ∃ a, a = ys.getD 5 0 := ⟨_, rfl⟩
      have HA5 := Aside0.mk ha5
      clear ha5
      obtain ⟨a6, ha6⟩ : ∃ a, a = ys.getD 6 0 := ⟨_, rfl⟩
      have HA6 := Aside0.mk ha6
      clear ha6
      obtain ⟨a7, ha7⟩ : ∃ a, a = ys.getD 7 0 := ⟨_, rfl⟩
      have HA7 := Aside0.mk ha7
      clear ha7
      obtain ⟨kk, hkk⟩ : ∃ a, a = roundsL.getD k 0 := ⟨_, rfl⟩
      obtain ⟨wk, hwk⟩ : ∃ a, a = ws.getD k 0 := ⟨_, rfl⟩
      have HKK := Aside0.mk hkk
      have HWK := Aside0.mk hwk
      clear hkk hwk
      have hk3 : (k : Int) < 64 := by omega
      refine wp_seq_k (fun K2 hK2 => ?_)
      refine wp_region_lit ?_
      refine wpList_plain rfl (fun K hK => ?_); go_simp; refine hK _ _ ?_; clear hK K
      refine wpList_nil ?_
      refine hK2 _ _ ?_
      clear hK2 K2
      refine absR (fun T3_ hT => ?_)
      have hsT3_ : T3_.size = 300 := by rw [hT]; simp only [Array.size_setIfInBounds]; exact hsT2_
      have fT3__3 : T3_[3]? = _ := (congrArg (fun X_ : Array Value => X_[3]?) hT).trans (gq_ne (d := 147) (by decide) (fT2__3))
      have fT3__4 : T3_[4]? = _ := (congrArg (fun X_ : Array Value => X_[4]?) hT).trans (gq_ne (d := 147) (by decide) (fT2__4))
      have fT3__6 : T3_[6]? = _ := (congrArg (fun X_ : Array Value => X_[6]?) hT).trans (gq_ne (d := 147) (by decide) (fT2__6))
      have fT3__8 : T3_[8]? = _ := (congrArg (fun X_ : Array Value => X_[8]?) hT).trans (gq_ne (d := 147) (by decide) (fT2__8))
      have fT3__9 : T3_[9]? = _ := (congrArg (fun X_ : Array Value => X_[9]?) hT).trans (gq_ne (d := 147) (by decide) (fT2__9))
      have fT3__10 : T3_[10]? = _ := (congrArg (fun X_ : Array Value => X_[10]?) hT).trans (gq_ne (d := 147) (by decide) (fT2__10))
      have fT3__16 : T3_[16]? = _ := (congrArg (fun X_ : Array Value => X_[16]?) hT).trans (gq_ne (d := 147) (by decide) (fT2__16))
      have fT3__146 : T3_[146]? = _ := (congrArg (fun X_ : Array Value => X_[146]?) hT).trans (gq_ne (d := 147) (by decide) (fT2__146))
      have fT3__147 : T3_[147]? = _ := (congrArg (fun X_ : Array Value => X_[147]?) hT).trans (gq_eq (i := 147) (by simp only [Array.size_setIfInBounds, hsT2_]; decide))
      clear hT
      clear tT2__3 tT2__4 tT2__6 tT2__8 tT2__9 tT2__10 tT2__16 tT2__146
      have tT3__3 := gat hsT3_ (by decide) fT3__3
      have tT3__4 := gat hsT3_ (by decide) fT3__4
      have tT3__6 := gat hsT3_ (by decide) fT3__6
      have tT3__8 := gat hsT3_ (by decide) fT3__8
      have tT3__9 := gat hsT3_ (by decide) fT3__9
      have tT3__10 := gat hsT3_ (by decide) fT3__10
      have tT3__16 := gat hsT3_ (by decide) fT3__16
      have tT3__146 := gat hsT3_ (by decide) fT3__146
      have tT3__147 := gat hsT3_ (by decide) fT3__147
      refine wp_seq_k (fun K3 hK3 => ?_)
      refine wp_cond_true ((gev fT3__147).trans (congrArg Value.bool (by first | rfl | (simp; omega) | (simp; done)))) ?_
      refine wp_skip ?_
      refine hK3 _ _ ?_
      clear hK3 K3
      refine wp_seq_k (fun K4 hK4 => ?_)
      refine wp_block ?_
      refine wp_seq_k (fun K5 hK5 => ?_)
      refine wp_region_lit ?_
      refine wpList_plain rfl (fun K hK => ?_); go_simp; refine hK _ _ ?_; clear hK K
      refine wpList_plain rfl (fun K hK => ?_); go_simp; refine hK _ _ ?_; clear hK K
      refine wpList_nil ?_
      refine hK5 _ _ ?_
      clear hK5 K5
      refine absR (fun T4_ hT => ?_)
      have hsT4_ : T4_.size = 300 := by rw [hT]; simp only [Array.size_setIfInBounds]; exact hsT3_
      have fT4__3 : T4_[3]? = _ := (congrArg (fun X_ : Array Value => X_[3]?) hT).trans (gq_ne (d := 17) (by decide) (gq_ne (d := 148) (by decide) (fT3__3)))
      have fT4__4 : T4_[4]? = _ := (congrArg (fun X_ : Array Value => X_[4]?) hT).trans (gq_ne (d := 17) (by decide) (gq_ne (d := 148) (by decide) (fT3__4)))
      have fT4__6 : T4_[6]? = _ := (congrArg (fun X_ : Array Value => X_[6]?) hT).trans (gq_ne (d := 17) (by decide) (gq_ne (d := 148) (by decide) (fT3__6)))
      have fT4__8 : T4_[8]? = _ := (congrArg (fun X_ : Array Value => X_[8]?) hT).trans (gq_ne (d := 17) (by decide) (gq_ne (d := 148) (by decide) (fT3__8)))
      have fT4__9 : T4_[9]? = _ := (congrArg (fun X_ : Array Value => X_[9]?) hT).trans (gq_ne (d := 17) (by decide) (gq_ne (d := 148) (by decide) (fT3__9)))
      have fT4__10 : T4_[10]? = _ := (congrArg (fun X_ : Array Value => X_[10]?) hT).trans (gq_ne (d := 17) (by decide) (gq_ne (d := 148) (by decide) (fT3__10)))
      have fT4__16 : T4_[16]? = _ := (congrArg (fun X_ : Array Value => X_[16]?) hT).trans (gq_ne (d := 17) (by decide) (gq_ne (d := 148) (by decide) (fT3__16)))
      have fT4__146 : T4_[146]? = _ := (congrArg (fun X_ : Array Value => X_[146]?) hT).trans (gq_ne (d := 17) (by decide) (gq_ne (d := 148) (by decide) (fT3__146)))
      have fT4__17 : T4_[17]? = _ := (congrArg (fun X_ : Array Value => X_[17]?) hT).trans (gq_eq (i := 17) (by simp only [Array.size_setIfInBounds, hsT3_]; decide))
      clear hT
      clear fT3__3 tT3__3 fT3__4 tT3__4 fT3__6 tT3__6 fT3__8 tT3__8 fT3__9 tT3__9 fT3__10 tT3__10 fT3__16 tT3__16 fT3__146 tT3__146 fT3__147 tT3__147 hsT3_
      have tT4__3 := gat hsT4_ (by decide) fT4__3
      have tT4__4 := gat hsT4_ (by decide) fT4__4
      have tT4__6 := gat hsT4_ (by decide) fT4__6
      have tT4__8 := gat hsT4_ (by decide) fT4__8
      have tT4__9 := gat hsT4_ (by decide) fT4__9
      have tT4__10 := gat hsT4_ (by decide) fT4__10
      have tT4__16 := gat hsT4_ (by decide) fT4__16
      have tT4__146 := gat hsT4_ (by decide) fT4__146
      have tT4__17 := gat hsT4_ (by decide) fT4__17
      refine wp_seq_k (fun K6 hK6 => ?_)
      have HW := Aside0.mk (HS4.out.step (below_drew (Below.refl _ _)))
      have HX := Aside0.mk (HV4.out.step (below_drew (Below.refl _ _)))
      refine hideQ (fun QQ hQQ => ?_)
      refine start_ (n := 18) (S := fun w' => w'.cell? ⟨gv, 4, none⟩ = some (.int .u32 a4)) (ds := []) #[false, false, false, false, false, false, false, false, false, false, false, false, false, false, false, false, false, false] (by kernel_rfl) rfl rfl (HA4.out ▸ HX.out.get 4 (by decide)) (fun hHeld => ?_)
      refine with_tabW su36.tab su36.bits (fun HT_ HW_ => ?_)
      refine pure_ (i := 0) (N := some 149) (v := ?_) (a' := ?_) #[true, false, false, false, false, false, false, false, false, false, false, false, false, false, false, false, false, false] rfl rfl (any_of HT_.out (by kernel_rfl)) (fun _ _ _ h => h) (Or.inl ⟨by rfl, ?_⟩) ?_ ?_
      rotate_left
      · intro w'
        go_simp
        with_reducible rfl
      rotate_left
      · simp only [Act.put, qA, q0, qS, i64_w, i32_w]
        rfl
      refine pure_ (i := 1) (N := some 150) (v := ?_) (a' := ?_) #[true, true, false, false, false, false, false, false, false, false, false, false, false, false, false, false, false, false] rfl rfl (any_of HT_.out (by kernel_rfl)) (fun _ _ _ h => h) (Or.inl ⟨by rfl, ?_⟩) ?_ ?_
      rotate_left
      · intro w'
        go_simp
        with_reducible rfl
      rotate_left
      · simp only [Act.put, qA, q0, qS, i64_w, i32_w]
        rfl
      refine pure_ (i := 2) (N := some 151) (v := ?_) (a' := ?_) #[true, true, true, false, false, false, false, false, false, false, false, false, false, false, false, false, false, false] rfl rfl (any_of HT_.out (by kernel_rfl)) (fun _ _ _ h => h) (Or.inl ⟨by rfl, ?_⟩) ?_ ?_
      rotate_left
      · intro w'
        go_simp
        with_reducible rfl
      rotate_left
      · simp only [Act.put, qA, q0, qS, i64_w, i32_w]
        rfl
      refine pure_ (i := 5) (N := some 154) (v := ?_) (a' := ?_) #[true, true, true, false, false, true, false, false, false, false, false, false, false, false, false, false, false, false] rfl rfl (any_of HT_.out (by kernel_rfl)) (fun _ _ _ h => h) (Or.inl ⟨by rfl, ?_⟩) ?_ ?_
      rotate_left
      · intro w'
        go_simp
        with_reducible rfl
      rotate_left
      · simp only [Act.put, qA, q0, qS, i64_w, i32_w]
        rfl
      refine pure_ (i := 6) (N := some 155) (v := ?_) (a' := ?_) #[true, true, true, false, false, true, true, false, false, false, false, false, false, false, false, false, false, false] rfl rfl (any_of HT_.out (by kernel_rfl)) (fun _ _ _ h => h) (Or.inl ⟨by rfl, ?_⟩) ?_ ?_
      rotate_left
      · intro w'
        go_simp
        with_reducible rfl
      rotate_left
      · simp only [Act.put, qA, q0, qS, i64_w, i32_w]
        rfl
      refine pure_ (i := 7) (N := some 156) (v := ?_) (a' := ?_) #[true, true, true, false, false, true, true, true, false, false, false, false, false, false, false, false, false, false] rfl rfl (any_of HT_.out (by kernel_rfl)) (fun _ _ _ h => h) (Or.inl ⟨by rfl, ?_⟩) ?_ ?_
      rotate_left
      · intro w'
        go_simp
        with_reducible rfl
      rotate_left
      · simp only [Act.put, qA, q0, qS, i64_w, i32_w]
        rfl
      refine pure_ (i := 11) (N := some 160) (v := ?_) (a' := ?_) #[true, true, true, false, false, true, true, true, false, false, false, true, false, false, false, false, false, false] rfl rfl (any_of HT_.out (by kernel_rfl)) (fun _ _ _ h => h) (Or.inl ⟨by rfl, ?_⟩) ?_ ?_
      rotate_left
      · intro w'
        go_simp
        with_reducible rfl
      rotate_left
      · simp only [Act.put, qA, q0, qS, i64_w, i32_w]
        rfl
      refine pure_ (i := 12) (N := some 161) (v := ?_) (a' := ?_) #[true, true, true, false, false, true, true, true, false, false, false, true, true, false, false, false, false, false] rfl rfl (any_of HT_.out (by kernel_rfl)) (fun _ _ _ h => h) (Or.inl ⟨by rfl, ?_⟩) ?_ ?_
      rotate_left
      · intro w'
        go_simp
        with_reducible rfl
      rotate_left
      · simp only [Act.put, qA, q0, qS, i64_w, i32_w]
        rfl
      refine pure_ (i := 13) (N := some 162) (v := ?_) (a' := ?_) #[true, true, true, false, false, true, true, true, false, false, false, true, true, true, false, false, false, false] rfl rfl (any_of HT_.out (by kernel_rfl)) (fun _ _ _ h => h) (Or.inl ⟨by rfl, ?_⟩) ?_ ?_
      rotate_left
      · intro w'
        go_simp
        with_reducible rfl
      rotate_left
      · simp only [Act.put, qA, q0, qS, i64_w, i32_w]
        rfl
      refine take_ (i := 3) (N := some 152) (v := ?_) (a' := ?_) #[true, true, true, true, false, true, true, true, false, false, false, true, true, true, false, false, false, false] rfl rfl (take_ofW HT_.out HW_.out (by kernel_rfl)) (fun _ _ _ h => h) (Or.inl ⟨by rfl, ?_⟩) hHeld ?_ ?_
      rotate_left
      · intro w' s0
        go_simp
        with_reducible rfl
      rotate_left
      · simp only [Act.put, qA, q0, qS, i64_w, i32_w]
        rfl
      refine take_ (i := 8) (N := some 157) (v := ?_) (a' := ?_) #[true, true, true, true, false, true, true, true, true, false, false, true, true, true, false, false, false, false] rfl rfl (take_ofW HT_.out HW_.out (by kernel_rfl)) (fun _ _ _ h => h) (Or.inl ⟨by rfl, ?_⟩) hHeld ?_ ?_
      rotate_left
      · intro w' s0
        go_simp
        with_reducible rfl
      rotate_left
      · simp only [Act.put, qA, q0, qS, i64_w, i32_w]
        rfl
      refine take_ (i := 14) (N := some 163) (v := ?_) (a' := ?_) #[true, true, true, true, false, true, true, true, true, false, false, true, true, true, true, false, false, false] rfl rfl (take_ofW HT_.out HW_.out (by kernel_rfl)) (fun _ _ _ h => h) (Or.inl ⟨by rfl, ?_⟩) hHeld ?_ ?_
      rotate_left
      · intro w' s0
        go_simp
        with_reducible rfl
      rotate_left
      · simp only [Act.put, qA, q0, qS, i64_w, i32_w]
        rfl
      refine one_call (i := 4) (N := some 153) (f := 23) #[true, true, true, true, true, true, true, true, true, false, false, true, true, true, true, false, false, false] rfl rfl (one_of HT_.out (by kernel_rfl)) (by decide) (by rfl) #[.int .u32 a4, .int .i64 6] ?_ ?_
      · first | (go_simp; done) | (go_simp; rfl)
      refine (turn_c a4 6 _ (by omega) (by omega)).mono ?_
      rintro e w3 ⟨rfl, hb⟩
      refine ⟨_, rfl, ?_⟩
      have n0_ := Aside0.mk (HW.out.step hb)
      have n1_ := Aside0.mk (HX.out.step hb)
      clear HW HX hb
      have HW := n0_
      have HX := n1_
      clear n0_ n1_
      refine and_held (HA4.out ▸ HX.out.get 4 (by decide)) (fun hHeld => ?_)
      refine norm_ (a' := ?_) ?_ ?_
      rotate_left
      · show Act.put _ (some 153) _ = _
        simp only [Act.put, qA, q0, qS, i64_w, i32_w]
        rfl
      refine one_call (i := 9) (N := some 158) (f := 23) #[true, true, true, true, true, true, true, true, true, true, false, true, true, true, true, false, false, false] rfl rfl (one_of HT_.out (by kernel_rfl)) (by decide) (by rfl) #[.int .u32 a4, .int .i64 11] ?_ ?_
      · first | (go_simp; done) | (go_simp; rfl)
      refine (turn_c a4 11 _ (by omega) (by omega)).mono ?_
      rintro e w3 ⟨rfl, hb⟩
      refine ⟨_, rfl, ?_⟩
      have n0_ := Aside0.mk (HW.out.step hb)
      have n1_ := Aside0.mk (HX.out.step hb)
      clear HW HX hb
      have HW := n0_
      have HX := n1_
      clear n0_ n1_
      refine and_held (HA4.out ▸ HX.out.get 4 (by decide)) (fun hHeld => ?_)
      refine norm_ (a' := ?_) ?_ ?_
      rotate_left
      · show Act.put _ (some 158) _ = _
        simp only [Act.put, qA, q0, qS, i64_w, i32_w]
        rfl
      refine pure_ (i := 10) (N := some 159) (v := ?_) (a' := ?_) #[true, true, true, true, true, true, true, true, true, true, true, true, true, true, true, false, false, false] rfl rfl (any_of HT_.out (by kernel_rfl)) (fun _ _ _ h => h) (Or.inl ⟨by rfl, ?_⟩) ?_ ?_
      rotate_left
      · intro w'
        go_simp
        with_reducible rfl
      rotate_left
      · simp only [Act.put, qA, q0, qS, i64_w, i32_w]
        rfl
      refine one_call (i := 15) (N := some 164) (f := 23) #[true, true, true, true, true, true, true, true, true, true, true, true, true, true, true, true, false, false] rfl rfl (one_of HT_.out (by kernel_rfl)) (by decide) (by rfl) #[.int .u32 a4, .int .i64 25] ?_ ?_
      · first | (go_simp; done) | (go_simp; rfl)
      refine (turn_c a4 25 _ (by omega) (by omega)).mono ?_
      rintro e w3 ⟨rfl, hb⟩
      refine ⟨_, rfl, ?_⟩
      have n0_ := Aside0.mk (HW.out.step hb)
      have n1_ := Aside0.mk (HX.out.step hb)
      clear HW HX hb
      have HW := n0_
      have HX := n1_
      clear n0_ n1_
      refine and_held (HA4.out ▸ HX.out.get 4 (by decide)) (fun hHeld => ?_)
      refine norm_ (a' := ?_) ?_ ?_
      rotate_left
      · show Act.put _ (some 164) _ = _
        simp only [Act.put, qA, q0, qS, i64_w, i32_w]
        rfl
      refine pure_ (i := 16) (N := some 165) (v := ?_) (a' := ?_) #[true, true, true, true, true, true, true, true, true, true, true, true, true, true, true, true, true, false] rfl rfl (any_of HT_.out (by kernel_rfl)) (fun _ _ _ h => h) (Or.inl ⟨by rfl, ?_⟩) ?_ ?_
      rotate_left
      · intro w'
        go_simp
        with_reducible rfl
      rotate_left
      · simp only [Act.put, qA, q0, qS, i64_w, i32_w]
        rfl
      refine pure_ (i := 17) (N := some 18) (v := ?_) (a' := ?_) #[true, true, true, true, true, true, true, true, true, true, true, true, true, true, true, true, true, true] rfl rfl (any_of HT_.out (by kernel_rfl)) (fun _ _ _ h => h) (Or.inl ⟨by rfl, ?_⟩) ?_ ?_
      rotate_left
      · intro w'
        go_simp
        with_reducible rfl
      rotate_left
      · simp only [Act.put, qA, q0, qS, i64_w, i32_w]
        rfl
      refine done_ (done_of HT_.out (by kernel_rfl)) ?_
      refine hQQ _ _ ?_
      clear hQQ QQ
      refine hK6 _ _ ?_
      clear hK6 K6
      clear HS4 HV4
      have HS4 := HW
      have HV4 := HX
      clear HW HX
      refine absR (fun T5_ hT => ?_)
      have hsT5_ : T5_.size = 300 := by rw [hT]; simp only [Array.size_setIfInBounds]; exact hsT4_
      have fT5__3 : T5_[3]? = _ := (congrArg (fun X_ : Array Value => X_[3]?) hT).trans (gq_ne (d := 18) (by decide) (gq_ne (d := 165) (by decide) (gq_ne (d := 164) (by decide) (gq_ne (d := 159) (by decide) (gq_ne (d := 158) (by decide) (gq_ne (d := 153) (by decide) (gq_ne (d := 163) (by decide) (gq_ne (d := 157) (by decide) (gq_ne (d := 152) (by decide) (gq_ne (d := 162) (by decide) (gq_ne (d := 161) (by decide) (gq_ne (d := 160) (by decide) (gq_ne (d := 156) (by decide) (gq_ne (d := 155) (by decide) (gq_ne (d := 154) (by decide) (gq_ne (d := 151) (by decide) (gq_ne (d := 150) (by decide) (gq_ne (d := 149) (by decide) (fT4__3)))))))))))))))))))
      have fT5__4 : T5_[4]? = _ := (congrArg (fun X_ : Array Value => X_[4]?) hT).trans (gq_ne (d := 18) (by decide) (gq_ne (d := 165) (by decide) (gq_ne (d := 164) (by decide) (gq_ne (d := 159) (by decide) (gq_ne (d := 158) (by decide) (gq_ne (d := 153) (by decide) (gq_ne (d := 163) (by decide) (gq_ne (d := 157) (by decide) (gq_ne (d := 152) (by decide) (gq_ne (d := 162) (by decide) (gq_ne (d := 161) (by decide) (gq_ne (d := 160) (by decide) (gq_ne (d := 156) (by decide) (gq_ne (d := 155) (by decide) (gq_ne (d := 154) (by decide) (gq_ne (d := 151) (by decide) (gq_ne (d := 150) (by decide) (gq_ne (d := 149) (by decide) (fT4__4)))))))))))))))))))
      have fT5__6 : T5_[6]? = _ := (congrArg (fun X_ : Array Value => X_[6]?) hT).trans (gq_ne (d := 18) (by decide) (gq_ne (d := 165) (by decide) (gq_ne (d := 164) (by decide) (gq_ne (d := 159) (by decide) (gq_ne (d := 158) (by decide) (gq_ne (d := 153) (by decide) (gq_ne (d := 163) (by decide) (gq_ne (d := 157) (by decide) (gq_ne (d := 152) (by decide) (gq_ne (d := 162) (by decide) (gq_ne (d := 161) (by decide) (gq_ne (d := 160) (by decide) (gq_ne (d := 156) (by decide) (gq_ne (d := 155) (by decide) (gq_ne (d := 154) (by decide) (gq_ne (d := 151) (by decide) (gq_ne (d := 150) (by decide) (gq_ne (d := 149) (by decide) (fT4__6)))))))))))))))))))
      have fT5__8 : T5_[8]? = _ := (congrArg (fun X_ : Array Value => X_[8]?) hT).trans (gq_ne (d := 18) (by decide) (gq_ne (d := 165) (by decide) (gq_ne (d := 164) (by decide) (gq_ne (d := 159) (by decide) (gq_ne (d := 158) (by decide) (gq_ne (d := 153) (by decide) (gq_ne (d := 163) (by decide) (gq_ne (d := 157) (by decide) (gq_ne (d := 152) (by decide) (gq_ne (d := 162) (by decide) (gq_ne (d := 161) (by decide) (gq_ne (d := 160) (by decide) (gq_ne (d := 156) (by decide) (gq_ne (d := 155) (by decide) (gq_ne (d := 154) (by decide) (gq_ne (d := 151) (by decide) (gq_ne (d := 150) (by decide) (gq_ne (d := 149) (by decide) (fT4__8)))))))))))))))))))
      have fT5__9 : T5_[9]? = _ := (congrArg (fun X_ : Array Value => X_[9]?) hT).trans (gq_ne (d := 18) (by decide) (gq_ne (d := 165) (by decide) (gq_ne (d := 164) (by decide) (gq_ne (d := 159) (by decide) (gq_ne (d := 158) (by decide) (gq_ne (d := 153) (by decide) (gq_ne (d := 163) (by decide) (gq_ne (d := 157) (by decide) (gq_ne (d := 152) (by decide) (gq_ne (d := 162) (by decide) (gq_ne (d := 161) (by decide) (gq_ne (d := 160) (by decide) (gq_ne (d := 156) (by decide) (gq_ne (d := 155) (by decide) (gq_ne (d := 154) (by decide) (gq_ne (d := 151) (by decide) (gq_ne (d := 150) (by decide) (gq_ne (d := 149) (by decide) (fT4__9)))))))))))))))))))
      have fT5__10 : T5_[10]? = _ := (congrArg (fun X_ : Array Value => X_[10]?) hT).trans (gq_ne (d := 18) (by decide) (gq_ne (d := 165) (by decide) (gq_ne (d := 164) (by decide) (gq_ne (d := 159) (by decide) (gq_ne (d := 158) (by decide) (gq_ne (d := 153) (by decide) (gq_ne (d := 163) (by decide) (gq_ne (d := 157) (by decide) (gq_ne (d := 152) (by decide) (gq_ne (d := 162) (by decide) (gq_ne (d := 161) (by decide) (gq_ne (d := 160) (by decide) (gq_ne (d := 156) (by decide) (gq_ne (d := 155) (by decide) (gq_ne (d := 154) (by decide) (gq_ne (d := 151) (by decide) (gq_ne (d := 150) (by decide) (gq_ne (d := 149) (by decide) (fT4__10)))))))))))))))))))
      have fT5__16 : T5_[16]? = _ := (congrArg (fun X_ : Array Value => X_[16]?) hT).trans (gq_ne (d := 18) (by decide) (gq_ne (d := 165) (by decide) (gq_ne (d := 164) (by decide) (gq_ne (d := 159) (by decide) (gq_ne (d := 158) (by decide) (gq_ne (d := 153) (by decide) (gq_ne (d := 163) (by decide) (gq_ne (d := 157) (by decide) (gq_ne (d := 152) (by decide) (gq_ne (d := 162) (by decide) (gq_ne (d := 161) (by decide) (gq_ne (d := 160) (by decide) (gq_ne (d := 156) (by decide) (gq_ne (d := 155) (by decide) (gq_ne (d := 154) (by decide) (gq_ne (d := 151) (by decide) (gq_ne (d := 150) (by decide) (gq_ne (d := 149) (by decide) (fT4__16)))))))))))))))))))
      have fT5__146 : T5_[146]? = _ := (congrArg (fun X_ : Array Value => X_[146]?) hT).trans (gq_ne (d := 18) (by decide) (gq_ne (d := 165) (by decide) (gq_ne (d := 164) (by decide) (gq_ne (d := 159) (by decide) (gq_ne (d := 158) (by decide) (gq_ne (d := 153) (by decide) (gq_ne (d := 163) (by decide) (gq_ne (d := 157) (by decide) (gq_ne (d := 152) (by decide) (gq_ne (d := 162) (by decide) (gq_ne (d := 161) (by decide) (gq_ne (d := 160) (by decide) (gq_ne (d := 156) (by decide) (gq_ne (d := 155) (by decide) (gq_ne (d := 154) (by decide) (gq_ne (d := 151) (by decide) (gq_ne (d := 150) (by decide) (gq_ne (d := 149) (by decide) (fT4__146)))))))))))))))))))
      have fT5__17 : T5_[17]? = _ := (congrArg (fun X_ : Array Value => X_[17]?) hT).trans (gq_ne (d := 18) (by decide) (gq_ne (d := 165) (by decide) (gq_ne (d := 164) (by decide) (gq_ne (d := 159) (by decide) (gq_ne (d := 158) (by decide) (gq_ne (d := 153) (by decide) (gq_ne (d := 163) (by decide) (gq_ne (d := 157) (by decide) (gq_ne (d := 152) (by decide) (gq_ne (d := 162) (by decide) (gq_ne (d := 161) (by decide) (gq_ne (d := 160) (by decide) (gq_ne (d := 156) (by decide) (gq_ne (d := 155) (by decide) (gq_ne (d := 154) (by decide) (gq_ne (d := 151) (by decide) (gq_ne (d := 150) (by decide) (gq_ne (d := 149) (by decide) (fT4__17)))))))))))))))))))
      have fT5__18 : T5_[18]? = _ := (congrArg (fun X_ : Array Value => X_[18]?) hT).trans (gq_eq (i := 18) (by simp only [Array.size_setIfInBounds, hsT4_]; decide))
      clear hT
      clear fT4__3 tT4__3 fT4__4 tT4__4 fT4__6 tT4__6 fT4__8 tT4__8 fT4__9 tT4__9 fT4__10 tT4__10 fT4__16 tT4__16 fT4__146 tT4__146 fT4__17 tT4__17 hsT4_
      have tT5__3 := gat hsT5_ (by decide) fT5__3
      have tT5__4 := gat hsT5_ (by decide) fT5__4
      have tT5__6 := gat hsT5_ (by decide) fT5__6
      have tT5__8 := gat hsT5_ (by decide) fT5__8
      have tT5__9 := gat hsT5_ (by decide) fT5__9
      have tT5__10 := gat hsT5_ (by decide) fT5__10
      have tT5__16 := gat hsT5_ (by decide) fT5__16
      have tT5__146 := gat hsT5_ (by decide) fT5__146
      have tT5__17 := gat hsT5_ (by decide) fT5__17
      have tT5__18 := gat hsT5_ (by decide) fT5__18
      replace fT5__18 : T5_[18]? = some (.int .u32 (fs1 a4)) := fT5__18
      replace tT5__18 := gat hsT5_ (by decide) fT5__18
      refine wp_seq_k (fun K7 hK7 => ?_)
      have HW := Aside0.mk (HS4.out.step (below_drew (Below.refl _ _)))
      have HX := Aside0.mk (HV4.out.step (below_drew (Below.refl _ _)))
      refine hideQ (fun QQ hQQ => ?_)
      refine start_ (n := 17) (S := fun w' => w'.cell? ⟨gv, 4, none⟩ = some (.int .u32 a4) ∧ w'.cell? ⟨gv, 5, none⟩ = some (.int .u32 a5) ∧ w'.cell? ⟨gv, 6, none⟩ = some (.int .u32 a6)) (ds := []) #[false, false, false, false, false, false, false, false, false, false, false, false, false, false, false, false, false] (by kernel_rfl) rfl rfl ⟨HA4.out ▸ HX.out.get 4 (by decide), HA5.out ▸ HX.out.get 5 (by decide), HA6.out ▸ HX.out.get 6 (by decide)⟩ (fun hHeld => ?_)
      refine with_tabW su37.tab su37.bits (fun HT_ HW_ => ?_)
      refine pure_ (i := 0) (N := some 166) (v := ?_) (a' := ?_) #[true, false, false, false, false, false, false, false, false, false, false, false, false, false, false, false, false] rfl rfl (any_of HT_.out (by kernel_rfl)) (fun _ _ _ h => h) (Or.inl ⟨by rfl, ?_⟩) ?_ ?_
      rotate_left
      · intro w'
        go_simp
        with_reducible rfl
      rotate_left
      · simp only [Act.put, qA, q0, qS, i64_w, i32_w]
        rfl
      refine pure_ (i := 1) (N := some 167) (v := ?_) (a' := ?_) #[true, true, false, false, false, false, false, false, false, false, false, false, false, false, false, false, false] rfl rfl (any_of HT_.out (by kernel_rfl)) (fun _ _ _ h => h) (Or.inl ⟨by rfl, ?_⟩) ?_ ?_
      rotate_left
      · intro w'
        go_simp
        with_reducible rfl
      rotate_left
      · simp only [Act.put, qA, q0, qS, i64_w, i32_w]
        rfl
      refine pure_ (i := 3) (N := some 169) (v := ?_) (a' := ?_) #[true, true, false, true, false, false, false, false, false, false, false, false, false, false, false, false, false] rfl rfl (any_of HT_.out (by kernel_rfl)) (fun _ _ _ h => h) (Or.inl ⟨by rfl, ?_⟩) ?_ ?_
      rotate_left
      · intro w'
        go_simp
        with_reducible rfl
      rotate_left
      · simp only [Act.put, qA, q0, qS, i64_w, i32_w]
        rfl
      refine pure_ (i := 4) (N := some 170) (v := ?_) (a' := ?_) #[true, true, false, true, true, false, false, false, false, false, false, false, false, false, false, false, false] rfl rfl (any_of HT_.out (by kernel_rfl)) (fun _ _ _ h => h) (Or.inl ⟨by rfl, ?_⟩) ?_ ?_
      rotate_left
      · intro w'
        go_simp
        with_reducible rfl
      rotate_left
      · simp only [Act.put, qA, q0, qS, i64_w, i32_w]
        rfl
      refine pure_ (i := 7) (N := some 173) (v := ?_) (a' := ?_) #[true, true, false, true, true, false, false, true, false, false, false, false, false, false, false, false, false] rfl rfl (any_of HT_.out (by kernel_rfl)) (fun _ _ _ h => h) (Or.inl ⟨by rfl, ?_⟩) ?_ ?_
      rotate_left
      · intro w'
        go_simp
        with_reducible rfl
      rotate_left
      · simp only [Act.put, qA, q0, qS, i64_w, i32_w]
        rfl
      refine pure_ (i := 8) (N := some 174) (v := ?_) (a' := ?_) #[true, true, false, true, true, false, false, true, true, false, false, false, false, false, false, false, false] rfl rfl (any_of HT_.out (by kernel_rfl)) (fun _ _ _ h => h) (Or.inl ⟨by rfl, ?_⟩) ?_ ?_
      rotate_left
      · intro w'
        go_simp
        with_reducible rfl
      rotate_left
      · simp only [Act.put, qA, q0, qS, i64_w, i32_w]
        rfl
      refine pure_ (i := 11) (N := some 177) (v := ?_) (a' := ?_) #[true, true, false, true, true, false, false, true, true, false, false, true, false, false, false, false, false] rfl rfl (any_of HT_.out (by kernel_rfl)) (fun _ _ _ h => h) (Or.inl ⟨by rfl, ?_⟩) ?_ ?_
      rotate_left
      · intro w'
        go_simp
        with_reducible rfl
      rotate_left
      · simp only [Act.put, qA, q0, qS, i64_w, i32_w]
        rfl
      refine pure_ (i := 12) (N := some 178) (v := ?_) (a' := ?_) #[true, true, false, true, true, false, false, true, true, false, false, true, true, false, false, false, false] rfl rfl (any_of HT_.out (by kernel_rfl)) (fun _ _ _ h => h) (Or.inl ⟨by rfl, ?_⟩) ?_ ?_
      rotate_left
      · intro w'
        go_simp
        with_reducible rfl
      rotate_left
      · simp only [Act.put, qA, q0, qS, i64_w, i32_w]
        rfl
      refine take_ (i := 2) (N := some 168) (v := ?_) (a' := ?_) #[true, true, true, true, true, false, false, true, true, false, false, true, true, false, false, false, false] rfl rfl (take_ofW HT_.out HW_.out (by kernel_rfl)) (fun _ _ _ h => h) (Or.inl ⟨by rfl, ?_⟩) hHeld ?_ ?_
      rotate_left
      · rintro w' ⟨s0, s1, s2⟩
        go_simp
        with_reducible rfl
      rotate_left
      · simp only [Act.put, qA, q0, qS, i64_w, i32_w]
        rfl
      refine take_ (i := 5) (N := some 171) (v := ?_) (a' := ?_) #[true, true, true, true, true, true, false, true, true, false, false, true, true, false, false, false, false] rfl rfl (take_ofW HT_.out HW_.out (by kernel_rfl)) (fun _ _ _ h => h) (Or.inl ⟨by rfl, ?_⟩) hHeld ?_ ?_
      rotate_left
      · rintro w' ⟨s0, s1, s2⟩
        go_simp
        with_reducible rfl
      rotate_left
      · simp only [Act.put, qA, q0, qS, i64_w, i32_w]
        rfl
      refine pure_ (i := 6) (N := some 172) (v := ?_) (a' := ?_) #[true, true, true, true, true, true, true, true, true, false, false, true, true, false, false, false, false] rfl rfl (any_of HT_.out (by kernel_rfl)) (fun _ _ _ h => h) (Or.inl ⟨by rfl, ?_⟩) ?_ ?_
      rotate_left
      · intro w'
        go_simp
        with_reducible rfl
      rotate_left
      · simp only [Act.put, qA, q0, qS, i64_w, i32_w]
        rfl
      refine take_ (i := 9) (N := some 175) (v := ?_) (a' := ?_) #[true, true, true, true, true, true, true, true, true, true, false, true, true, false, false, false, false] rfl rfl (take_ofW HT_.out HW_.out (by kernel_rfl)) (fun _ _ _ h => h) (Or.inl ⟨by rfl, ?_⟩) hHeld ?_ ?_
      rotate_left
      · rintro w' ⟨s0, s1, s2⟩
        go_simp
        with_reducible rfl
      rotate_left
      · simp only [Act.put, qA, q0, qS, i64_w, i32_w]
        rfl
      refine pure_ (i := 10) (N := some 176) (v := ?_) (a' := ?_) #[true, true, true, true, true, true, true, true, true, true, true, true, true, false, false, false, false] rfl rfl (any_of HT_.out (by kernel_rfl)) (fun _ _ _ h => h) (Or.inl ⟨by rfl, ?_⟩) ?_ ?_
      rotate_left
      · intro w'
        go_simp
        with_reducible rfl
      rotate_left
      · simp only [Act.put, qA, q0, qS, i64_w, i32_w]
        rfl
      refine take_ (i := 13) (N := some 179) (v := ?_) (a' := ?_) #[true, true, true, true, true, true, true, true, true, true, true, true, true, true, false, false, false] rfl rfl (take_ofW HT_.out HW_.out (by kernel_rfl)) (fun _ _ _ h => h) (Or.inl ⟨by rfl, ?_⟩) hHeld ?_ ?_
      rotate_left
      · rintro w' ⟨s0, s1, s2⟩
        go_simp
        with_reducible rfl
      rotate_left
      · simp only [Act.put, qA, q0, qS, i64_w, i32_w]
        rfl
      refine pure_ (i := 14) (N := some 180) (v := ?_) (a' := ?_) #[true, true, true, true, true, true, true, true, true, true, true, true, true, true, true, false, false] rfl rfl (any_of HT_.out (by kernel_rfl)) (fun _ _ _ h => h) (Or.inl ⟨by rfl, ?_⟩) ?_ ?_
      rotate_left
      · intro w'
        go_simp
        with_reducible rfl
      rotate_left
      · simp only [Act.put, qA, q0, qS, i64_w, i32_w]
        rfl
      refine pure_ (i := 15) (N := some 181) (v := ?_) (a' := ?_) #[true, true, true, true, true, true, true, true, true, true, true, true, true, true, true, true, false] rfl rfl (any_of HT_.out (by kernel_rfl)) (fun _ _ _ h => h) (Or.inl ⟨by rfl, ?_⟩) ?_ ?_
      rotate_left
      · intro w'
        go_simp
        with_reducible rfl
      rotate_left
      · simp only [Act.put, qA, q0, qS, i64_w, i32_w]
        rfl
      refine pure_ (i := 16) (N := some 19) (v := ?_) (a' := ?_) #[true, true, true, true, true, true, true, true, true, true, true, true, true, true, true, true, true] rfl rfl (any_of HT_.out (by kernel_rfl)) (fun _ _ _ h => h) (Or.inl ⟨by rfl, ?_⟩) ?_ ?_
      rotate_left
      · intro w'
        go_simp
        with_reducible rfl
      rotate_left
      · simp only [Act.put, qA, q0, qS, i64_w, i32_w]
        rfl
      refine done_ (done_of HT_.out (by kernel_rfl)) ?_
      refine hQQ _ _ ?_
      clear hQQ QQ
      refine hK7 _ _ ?_
      clear hK7 K7
      clear HS4 HV4
      have HS4 := HW
      have HV4 := HX
      clear HW HX
      refine absR (fun T6_ hT => ?_)
      have hsT6_ : T6_.size = 300 := by rw [hT]; simp only [Array.size_setIfInBounds]; exact hsT5_
      have fT6__3 : T6_[3]? = _ := (congrArg (fun X_ : Array Value => X_[3]?) hT).trans (gq_ne (d := 19) (by decide) (gq_ne (d := 181) (by decide) (gq_ne (d := 180) (by decide) (gq_ne (d := 179) (by decide) (gq_ne (d := 176) (by decide) (gq_ne (d := 175) (by decide) (gq_ne (d := 172) (by decide) (gq_ne (d := 171) (by decide) (gq_ne (d := 168) (by decide) (gq_ne (d := 178) (by decide) (gq_ne (d := 177) (by decide) (gq_ne (d := 174) (by decide) (gq_ne (d := 173) (by decide) (gq_ne (d := 170) (by decide) (gq_ne (d := 169) (by decide) (gq_ne (d := 167) (by decide) (gq_ne (d := 166) (by decide) (fT5__3))))))))))))))))))
      have fT6__4 : T6_[4]? = _ := (congrArg (fun X_ : Array Value => X_[4]?) hT).trans (gq_ne (d := 19) (by decide) (gq_ne (d := 181) (by decide) (gq_ne (d := 180) (by decide) (gq_ne (d := 179) (by decide) (gq_ne (d := 176) (by decide) (gq_ne (d := 175) (by decide) (gq_ne (d := 172) (by decide) (gq_ne (d := 171) (by decide) (gq_ne (d := 168) (by decide) (gq_ne (d := 178) (by decide) (gq_ne (d := 177) (by decide) (gq_ne (d := 174) (by decide) (gq_ne (d := 173) (by decide) (gq_ne (d := 170) (by decide) (gq_ne (d := 169) (by decide) (gq_ne (d := 167) (by decide) (gq_ne (d := 166) (by decide) (fT5__4))))))))))))))))))
      have fT6__6 : T6_[6]? = _ := (congrArg (fun X_ : Array Value => X_[6]?) hT).trans (gq_ne (d := 19) (by decide) (gq_ne (d := 181) (by decide) (gq_ne (d := 180) (by decide) (gq_ne (d := 179) (by decide) (gq_ne (d := 176) (by decide) (gq_ne (d := 175) (by decide) (gq_ne (d := 172) (by decide) (gq_ne (d := 171) (by decide) (gq_ne (d := 168) (by decide) (gq_ne (d := 178) (by decide) (gq_ne (d := 177) (by decide) (gq_ne (d := 174) (by decide) (gq_ne (d := 173) (by decide) (gq_ne (d := 170) (by decide) (gq_ne (d := 169) (by decide) (gq_ne (d := 167) (by decide) (gq_ne (d := 166) (by decide) (fT5__6))))))))))))))))))
      have fT6__8 : T6_[8]? = _ := (congrArg (fun X_ : Array Value => X_[8]?) hT).trans (gq_ne (d := 19) (by decide) (gq_ne (d := 181) (by decide) (gq_ne (d := 180) (by decide) (gq_ne (d := 179) (by decide) (gq_ne (d := 176) (by decide) (gq_ne (d := 175) (by decide) (gq_ne (d := 172) (by decide) (gq_ne (d := 171) (by decide) (gq_ne (d := 168) (by decide) (gq_ne (d := 178) (by decide) (gq_ne (d := 177) (by decide) (gq_ne (d := 174) (by decide) (gq_ne (d := 173) (by decide) (gq_ne (d := 170) (by decide) (gq_ne (d := 169) (by decide) (gq_ne (d := 167) (by decide) (gq_ne (d := 166) (by decide) (fT5__8))))))))))))))))))
      have fT6__9 : T6_[9]? = _ := (congrArg (fun X_ : Array Value => X_[9]?) hT).trans (gq_ne (d := 19) (by decide) (gq_ne (d := 181) (by decide) (gq_ne (d := 180) (by decide) (gq_ne (d := 179) (by decide) (gq_ne (d := 176) (by decide) (gq_ne (d := 175) (by decide) (gq_ne (d := 172) (by decide) (gq_ne (d := 171) (by decide) (gq_ne (d := 168) (by decide) (gq_ne (d := 178) (by decide) (gq_ne (d := 177) (by decide) (gq_ne (d := 174) (by decide) (gq_ne (d := 173) (by decide) (gq_ne (d := 170) (by decide) (gq_ne (d := 169) (by decide) (gq_ne (d := 167) (by decide) (gq_ne (d := 166) (by decide) (fT5__9))))))))))))))))))
      have fT6__10 : T6_[10]? = _ := (congrArg (fun X_ : Array Value => X_[10]?) hT).trans (gq_ne (d := 19) (by decide) (gq_ne (d := 181) (by decide) (gq_ne (d := 180) (by decide) (gq_ne (d := 179) (by decide) (gq_ne (d := 176) (by decide) (gq_ne (d := 175) (by decide) (gq_ne (d := 172) (by decide) (gq_ne (d := 171) (by decide) (gq_ne (d := 168) (by decide) (gq_ne (d := 178) (by decide) (gq_ne (d := 177) (by decide) (gq_ne (d := 174) (by decide) (gq_ne (d := 173) (by decide) (gq_ne (d := 170) (by decide) (gq_ne (d := 169) (by decide) (gq_ne (d := 167) (by decide) (gq_ne (d := 166) (by decide) (fT5__10))))))))))))))))))
      have fT6__16 : T6_[16]? = _ := (congrArg (fun X_ : Array Value => X_[16]?) hT).trans (gq_ne (d := 19) (by decide) (gq_ne (d := 181) (by decide) (gq_ne (d := 180) (by decide) (gq_ne (d := 179) (by decide) (gq_ne (d := 176) (by decide) (gq_ne (d := 175) (by decide) (gq_ne (d := 172) (by decide) (gq_ne (d := 171) (by decide) (gq_ne (d := 168) (by decide) (gq_ne (d := 178) (by decide) (gq_ne (d := 177) (by decide) (gq_ne (d := 174) (by decide) (gq_ne (d := 173) (by decide) (gq_ne (d := 170) (by decide) (gq_ne (d := 169) (by decide) (gq_ne (d := 167) (by decide) (gq_ne (d := 166) (by decide) (fT5__16))))))))))))))))))
      have fT6__146 : T6_[146]? = _ := (congrArg (fun X_ : Array Value => X_[146]?) hT).trans (gq_ne (d := 19) (by decide) (gq_ne (d := 181) (by decide) (gq_ne (d := 180) (by decide) (gq_ne (d := 179) (by decide) (gq_ne (d := 176) (by decide) (gq_ne (d := 175) (by decide) (gq_ne (d := 172) (by decide) (gq_ne (d := 171) (by decide) (gq_ne (d := 168) (by decide) (gq_ne (d := 178) (by decide) (gq_ne (d := 177) (by decide) (gq_ne (d := 174) (by decide) (gq_ne (d := 173) (by decide) (gq_ne (d := 170) (by decide) (gq_ne (d := 169) (by decide) (gq_ne (d := 167) (by decide) (gq_ne (d := 166) (by decide) (fT5__146))))))))))))))))))
      have fT6__17 : T6_[17]? = _ := (congrArg (fun X_ : Array Value => X_[17]?) hT).trans (gq_ne (d := 19) (by decide) (gq_ne (d := 181) (by decide) (gq_ne (d := 180) (by decide) (gq_ne (d := 179) (by decide) (gq_ne (d := 176) (by decide) (gq_ne (d := 175) (by decide) (gq_ne (d := 172) (by decide) (gq_ne (d := 171) (by decide) (gq_ne (d := 168) (by decide) (gq_ne (d := 178) (by decide) (gq_ne (d := 177) (by decide) (gq_ne (d := 174) (by decide) (gq_ne (d := 173) (by decide) (gq_ne (d := 170) (by decide) (gq_ne (d := 169) (by decide) (gq_ne (d := 167) (by decide) (gq_ne (d := 166) (by decide) (fT5__17))))))))))))))))))
      have fT6__18 : T6_[18]? = _ := (congrArg (fun X_ : Array Value => X_[18]?) hT).trans (gq_ne (d := 19) (by decide) (gq_ne (d := 181) (by decide) (gq_ne (d := 180) (by decide) (gq_ne (d := 179) (by decide) (gq_ne (d := 176) (by decide) (gq_ne (d := 175) (by decide) (gq_ne (d := 172) (by decide) (gq_ne (d := 171) (by decide) (gq_ne (d := 168) (by decide) (gq_ne (d := 178) (by decide) (gq_ne (d := 177) (by decide) (gq_ne (d := 174) (by decide) (gq_ne (d := 173) (by decide) (gq_ne (d := 170) (by decide) (gq_ne (d := 169) (by decide) (gq_ne (d := 167) (by decide) (gq_ne (d := 166) (by decide) (fT5__18))))))))))))))))))
      have fT6__19 : T6_[19]? = _ := (congrArg (fun X_ : Array Value => X_[19]?) hT).trans (gq_eq (i := 19) (by simp only [Array.size_setIfInBounds, hsT5_]; decide))
      clear hT
      clear fT5__3 tT5__3 fT5__4 tT5__4 fT5__6 tT5__6 fT5__8 tT5__8 fT5__9 tT5__9 fT5__10 tT5__10 fT5__16 tT5__16 fT5__146 tT5__146 fT5__17 tT5__17 fT5__18 tT5__18 hsT5_
      have tT6__3 := gat hsT6_ (by decide) fT6__3
      have tT6__4 := gat hsT6_ (by decide) fT6__4
      have tT6__6 := gat hsT6_ (by decide) fT6__6
      have tT6__8 := gat hsT6_ (by decide) fT6__8
      have tT6__9 := gat hsT6_ (by decide) fT6__9
      have tT6__10 := gat hsT6_ (by decide) fT6__10
      have tT6__16 := gat hsT6_ (by decide) fT6__16
      have tT6__146 := gat hsT6_ (by decide) fT6__146
      have tT6__17 := gat hsT6_ (by decide) fT6__17
      have tT6__18 := gat hsT6_ (by decide) fT6__18
      have tT6__19 := gat hsT6_ (by decide) fT6__19
      replace fT6__19 : T6_[19]? = some (.int .u32 (fch a4 a5 a6)) := fT6__19
      replace tT6__19 := gat hsT6_ (by decide) fT6__19
      refine wp_seq_k (fun K8 hK8 => ?_)
      have HW := Aside0.mk (HS4.out.step (below_drew (Below.refl _ _)))
      have HX := Aside0.mk (HV4.out.step (below_drew (Below.refl _ _)))
      refine hideQ (fun QQ hQQ => ?_)
      refine start_ (n := 16) (S := fun w' => w'.cell? ⟨gv, 7, none⟩ = some (.int .u32 a7) ∧ w'.cell? ⟨gk, k, none⟩ = some (.int .u32 kk) ∧ w'.cell? ⟨gw, k, none⟩ = some (.int .u32 wk)) (ds := []) #[false, false, false, false, false, false, false, false, false, false, false, false, false, false, false, false] (by kernel_rfl) rfl rfl ⟨HA7.out ▸ HX.out.get 7 (by decide), HKK.out ▸ HW.out.k k (by omega), HWK.out ▸ HW.out.w k (by rw [HW64.out]; omega)⟩ (fun hHeld => ?_)
      refine with_tabW su38.tab su38.bits (fun HT_ HW_ => ?_)
      refine pure_ (i := 0) (N := some 182) (v := ?_) (a' := ?_) #[true, false, false, false, false, false, false, false, false, false, false, false, false, false, false, false] rfl rfl (any_of HT_.out (by kernel_rfl)) (fun _ _ _ h => h) (Or.inl ⟨by rfl, ?_⟩) ?_ ?_
      rotate_left
      · intro w'
        go_simp
        with_reducible rfl
      rotate_left
      · simp only [Act.put, qA, q0, qS, i64_w, i32_w]
        rfl
      refine pure_ (i := 1) (N := some 183) (v := ?_) (a' := ?_) #[true, true, false, false, false, false, false, false, false, false, false, false, false, false, false, false] rfl rfl (any_of HT_.out (by kernel_rfl)) (fun _ _ _ h => h) (Or.inl ⟨by rfl, ?_⟩) ?_ ?_
      rotate_left
      · intro w'
        go_simp
        with_reducible rfl
      rotate_left
      · simp only [Act.put, qA, q0, qS, i64_w, i32_w]
        rfl
      refine pure_ (i := 3) (N := some 185) (v := ?_) (a' := ?_) #[true, true, false, true, false, false, false, false, false, false, false, false, false, false, false, false] rfl rfl (any_of HT_.out (by kernel_rfl)) (fun _ _ _ h => h) (Or.inl ⟨by rfl, ?_⟩) ?_ ?_
      rotate_left
      · intro w'
        go_simp
        with_reducible rfl
      rotate_left
      · simp only [Act.put, qA, q0, qS, i64_w, i32_w]
        rfl
      refine pure_ (i := 5) (N := some 187) (v := ?_) (a' := ?_) #[true, true, false, true, false, true, false, false, false, false, false, false, false, false, false, false] rfl rfl (any_of HT_.out (by kernel_rfl)) (fun _ _ _ h => h) (Or.inl ⟨by rfl, ?_⟩) ?_ ?_
      rotate_left
      · intro w'
        go_simp
        with_reducible rfl
      rotate_left
      · simp only [Act.put, qA, q0, qS, i64_w, i32_w]
        rfl
      refine pure_ (i := 7) (N := some 189) (v := ?_) (a' := ?_) #[true, true, false, true, false, true, false, true, false, false, false, false, false, false, false, false] rfl rfl (any_of HT_.out (by kernel_rfl)) (fun _ _ _ h => h) (Or.inl ⟨by rfl, ?_⟩) ?_ ?_
      rotate_left
      · intro w'
        go_simp
        with_reducible rfl
      rotate_left
      · simp only [Act.put, qA, q0, qS, i64_w, i32_w]
        rfl
      refine pure_ (i := 8) (N := some 190) (v := ?_) (a' := ?_) #[true, true, false, true, false, true, false, true, true, false, false, false, false, false, false, false] rfl rfl (any_of HT_.out (by kernel_rfl)) (fun _ _ _ h => h) (Or.inl ⟨by rfl, ?_⟩) ?_ ?_
      rotate_left
      · intro w'
        go_simp
        with_reducible rfl
      rotate_left
      · simp only [Act.put, qA, q0, qS, i64_w, i32_w]
        rfl
      refine pure_ (i := 11) (N := some 193) (v := ?_) (a' := ?_) #[true, true, false, true, false, true, false, true, true, false, false, true, false, false, false, false] rfl rfl (any_of HT_.out (by kernel_rfl)) (fun _ _ _ h => h) (Or.inl ⟨by rfl, ?_⟩) ?_ ?_
      rotate_left
      · intro w'
        go_simp
        with_reducible rfl
      rotate_left
      · simp only [Act.put, qA, q0, qS, i64_w, i32_w]
        rfl
      refine pure_ (i := 12) (N := some 194) (v := ?_) (a' := ?_) #[true, true, false, true, false, true, false, true, true, false, false, true, true, false, false, false] rfl rfl (any_of HT_.out (by kernel_rfl)) (fun _ _ _ h => h) (Or.inl ⟨by rfl, ?_⟩) ?_ ?_
      rotate_left
      · intro w'
        go_simp
        with_reducible rfl
      rotate_left
      · simp only [Act.put, qA, q0, qS, i64_w, i32_w]
        rfl
      refine take_ (i := 2) (N := some 184) (v := ?_) (a' := ?_) #[true, true, true, true, false, true, false, true, true, false, false, true, true, false, false, false] rfl rfl (take_ofW HT_.out HW_.out (by kernel_rfl)) (fun _ _ _ h => h) (Or.inl ⟨by rfl, ?_⟩) hHeld ?_ ?_
      rotate_left
      · rintro w' ⟨s0, s1, s2⟩
        go_simp
        with_reducible rfl
      rotate_left
      · simp only [Act.put, qA, q0, qS, i64_w, i32_w]
        rfl
      refine pure_ (i := 4) (N := some 186) (v := ?_) (a' := ?_) #[true, true, true, true, true, true, false, true, true, false, false, true, true, false, false, false] rfl rfl (any_of HT_.out (by kernel_rfl)) (fun _ _ _ h => h) (Or.inl ⟨by rfl, ?_⟩) ?_ ?_
      rotate_left
      · intro w'
        go_simp
        with_reducible rfl
      rotate_left
      · simp only [Act.put, qA, q0, qS, i64_w, i32_w]
        rfl
      refine pure_ (i := 6) (N := some 188) (v := ?_) (a' := ?_) #[true, true, true, true, true, true, true, true, true, false, false, true, true, false, false, false] rfl rfl (any_of HT_.out (by kernel_rfl)) (fun _ _ _ h => h) (Or.inl ⟨by rfl, ?_⟩) ?_ ?_
      rotate_left
      · intro w'
        go_simp
        with_reducible rfl
      rotate_left
      · simp only [Act.put, qA, q0, qS, i64_w, i32_w]
        rfl
      refine take_ (i := 9) (N := some 191) (v := ?_) (a' := ?_) #[true, true, true, true, true, true, true, true, true, true, false, true, true, false, false, false] rfl rfl (take_ofW HT_.out HW_.out (by kernel_rfl)) (fun _ _ _ h => h) (Or.inl ⟨by rfl, ?_⟩) hHeld ?_ ?_
      rotate_left
      · rintro w' ⟨s0, s1, s2⟩
        go_simp
        with_reducible rfl
      rotate_left
      · simp only [Act.put, qA, q0, qS, i64_w, i32_w]
        rfl
      refine pure_ (i := 10) (N := some 192) (v := ?_) (a' := ?_) #[true, true, true, true, true, true, true, true, true, true, true, true, true, false, false, false] rfl rfl (any_of HT_.out (by kernel_rfl)) (fun _ _ _ h => h) (Or.inl ⟨by rfl, ?_⟩) ?_ ?_
      rotate_left
      · intro w'
        go_simp
        with_reducible rfl
      rotate_left
      · simp only [Act.put, qA, q0, qS, i64_w, i32_w]
        rfl
      refine take_ (i := 13) (N := some 195) (v := ?_) (a' := ?_) #[true, true, true, true, true, true, true, true, true, true, true, true, true, true, false, false] rfl rfl (take_ofW HT_.out HW_.out (by kernel_rfl)) (fun _ _ _ h => h) (Or.inl ⟨by rfl, ?_⟩) hHeld ?_ ?_
      rotate_left
      · rintro w' ⟨s0, s1, s2⟩
        go_simp
        with_reducible rfl
      rotate_left
      · simp only [Act.put, qA, q0, qS, i64_w, i32_w]
        rfl
      refine pure_ (i := 14) (N := some 196) (v := ?_) (a' := ?_) #[true, true, true, true, true, true, true, true, true, true, true, true, true, true, true, false] rfl rfl (any_of HT_.out (by kernel_rfl)) (fun _ _ _ h => h) (Or.inl ⟨by rfl, ?_⟩) ?_ ?_
      rotate_left
      · intro w'
        go_simp
        with_reducible rfl
      rotate_left
      · simp only [Act.put, qA, q0, qS, i64_w, i32_w]
        rfl
      refine pure_ (i := 15) (N := some 20) (v := ?_) (a' := ?_) #[true, true, true, true, true, true, true, true, true, true, true, true, true, true, true, true] rfl rfl (any_of HT_.out (by kernel_rfl)) (fun _ _ _ h => h) (Or.inl ⟨by rfl, ?_⟩) ?_ ?_
      rotate_left
      · intro w'
        go_simp
        with_reducible rfl
      rotate_left
      · simp only [Act.put, qA, q0, qS, i64_w, i32_w]
        rfl
      refine done_ (done_of HT_.out (by kernel_rfl)) ?_
      refine hQQ _ _ ?_
      clear hQQ QQ
      refine hK8 _ _ ?_
      clear hK8 K8
      clear HS4 HV4
      have HS4 := HW
      have HV4 := HX
      clear HW HX
      refine absR (fun T7_ hT => ?_)
      have hsT7_ : T7_.size = 300 := by rw [hT]; simp only [Array.size_setIfInBounds]; exact hsT6_
      have fT7__3 : T7_[3]? = _ := (congrArg (fun X_ : Array Value => X_[3]?) hT).trans (gq_ne (d := 20) (by decide) (gq_ne (d := 196) (by decide) (gq_ne (d := 195) (by decide) (gq_ne (d := 192) (by decide) (gq_ne (d := 191) (by decide) (gq_ne (d := 188) (by decide) (gq_ne (d := 186) (by decide) (gq_ne (d := 184) (by decide) (gq_ne (d := 194) (by decide) (gq_ne (d := 193) (by decide) (gq_ne (d := 190) (by decide) (gq_ne (d := 189) (by decide) (gq_ne (d := 187) (by decide) (gq_ne (d := 185) (by decide) (gq_ne (d := 183) (by decide) (gq_ne (d := 182) (by decide) (fT6__3)))))))))))))))))
      have fT7__4 : T7_[4]? = _ := (congrArg (fun X_ : Array Value => X_[4]?) hT).trans (gq_ne (d := 20) (by decide) (gq_ne (d := 196) (by decide) (gq_ne (d := 195) (by decide) (gq_ne (d := 192) (by decide) (gq_ne (d := 191) (by decide) (gq_ne (d := 188) (by decide) (gq_ne (d := 186) (by decide) (gq_ne (d := 184) (by decide) (gq_ne (d := 194) (by decide) (gq_ne (d := 193) (by decide) (gq_ne (d := 190) (by decide) (gq_ne (d := 189) (by decide) (gq_ne (d := 187) (by decide) (gq_ne (d := 185) (by decide) (gq_ne (d := 183) (by decide) (gq_ne (d := 182) (by decide) (fT6__4)))))))))))))))))
      have fT7__6 : T7_[6]? = _ := (congrArg (fun X_ : Array Value => X_[6]?) hT).trans (gq_ne (d := 20) (by decide) (gq_ne (d := 196) (by decide) (gq_ne (d := 195) (by decide) (gq_ne (d := 192) (by decide) (gq_ne (d := 191) (by decide) (gq_ne (d := 188) (by decide) (gq_ne (d := 186) (by decide) (gq_ne (d := 184) (by decide) (gq_ne (d := 194) (by decide) (gq_ne (d := 193) (by decide) (gq_ne (d := 190) (by decide) (gq_ne (d := 189) (by decide) (gq_ne (d := 187) (by decide) (gq_ne (d := 185) (by decide) (gq_ne (d := 183) (by decide) (gq_ne (d := 182) (by decide) (fT6__6)))))))))))))))))
      have fT7__8 : T7_[8]? = _ := (congrArg (fun X_ : Array Value => X_[8]?) hT).trans (gq_ne (d := 20) (by decide) (gq_ne (d := 196) (by decide) (gq_ne (d := 195) (by decide) (gq_ne (d := 192) (by decide) (gq_ne (d := 191) (by decide) (gq_ne (d := 188) (by decide) (gq_ne (d := 186) (by decide) (gq_ne (d := 184) (by decide) (gq_ne (d := 194) (by decide) (gq_ne (d := 193) (by decide) (gq_ne (d := 190) (by decide) (gq_ne (d := 189) (by decide) (gq_ne (d := 187) (by decide) (gq_ne (d := 185) (by decide) (gq_ne (d := 183) (by decide) (gq_ne (d := 182) (by decide) (fT6__8)))))))))))))))))
      have fT7__9 : T7_[9]? = _ := (congrArg (fun X_ : Array Value => X_[9]?) hT).trans (gq_ne (d := 20) (by decide) (gq_ne (d := 196) (by decide) (gq_ne (d := 195) (by decide) (gq_ne (d := 192) (by decide) (gq_ne (d := 191) (by decide) (gq_ne (d := 188) (by decide) (gq_ne (d := 186) (by decide) (gq_ne (d := 184) (by decide) (gq_ne (d := 194) (by decide) (gq_ne (d := 193) (by decide) (gq_ne (d := 190) (by decide) (gq_ne (d := 189) (by decide) (gq_ne (d := 187) (by decide) (gq_ne (d := 185) (by decide) (gq_ne (d := 183) (by decide) (gq_ne (d := 182) (by decide) (fT6__9)))))))))))))))))
      have fT7__10 : T7_[10]? = _ := (congrArg (fun X_ : Array Value => X_[10]?) hT).trans (gq_ne (d := 20) (by decide) (gq_ne (d := 196) (by decide) (gq_ne (d := 195) (by decide) (gq_ne (d := 192) (by decide) (gq_ne (d := 191) (by decide) (gq_ne (d := 188) (by decide) (gq_ne (d := 186) (by decide) (gq_ne (d := 184) (by decide) (gq_ne (d := 194) (by decide) (gq_ne (d := 193) (by decide) (gq_ne (d := 190) (by decide) (gq_ne (d := 189) (by decide) (gq_ne (d := 187) (by decide) (gq_ne (d := 185) (by decide) (gq_ne (d := 183) (by decide) (gq_ne (d := 182) (by decide) (fT6__10)))))))))))))))))
      have fT7__16 : T7_[16]? = _ := (congrArg (fun X_ : Array Value => X_[16]?) hT).trans (gq_ne (d := 20) (by decide) (gq_ne (d := 196) (by decide) (gq_ne (d := 195) (by decide) (gq_ne (d := 192) (by decide) (gq_ne (d := 191) (by decide) (gq_ne (d := 188) (by decide) (gq_ne (d := 186) (by decide) (gq_ne (d := 184) (by decide) (gq_ne (d := 194) (by decide) (gq_ne (d := 193) (by decide) (gq_ne (d := 190) (by decide) (gq_ne (d := 189) (by decide) (gq_ne (d := 187) (by decide) (gq_ne (d := 185) (by decide) (gq_ne (d := 183) (by decide) (gq_ne (d := 182) (by decide) (fT6__16)))))))))))))))))
      have fT7__146 : T7_[146]? = _ := (congrArg (fun X_ : Array Value => X_[146]?) hT).trans (gq_ne (d := 20) (by decide) (gq_ne (d := 196) (by decide) (gq_ne (d := 195) (by decide) (gq_ne (d := 192) (by decide) (gq_ne (d := 191) (by decide) (gq_ne (d := 188) (by decide) (gq_ne (d := 186) (by decide) (gq_ne (d := 184) (by decide) (gq_ne (d := 194) (by decide) (gq_ne (d := 193) (by decide) (gq_ne (d := 190) (by decide) (gq_ne (d := 189) (by decide) (gq_ne (d := 187) (by decide) (gq_ne (d := 185) (by decide) (gq_ne (d := 183) (by decide) (gq_ne (d := 182) (by decide) (fT6__146)))))))))))))))))
      have fT7__20 : T7_[20]? = _ := (congrArg (fun X_ : Array Value => X_[20]?) hT).trans (gq_eq (i := 20) (by simp only [Array.size_setIfInBounds, hsT6_]; decide))
      clear hT
      clear fT6__3 tT6__3 fT6__4 tT6__4 fT6__6 tT6__6 fT6__8 tT6__8 fT6__9 tT6__9 fT6__10 tT6__10 fT6__16 tT6__16 fT6__146 tT6__146 fT6__17 tT6__17 fT6__18 tT6__18 fT6__19 tT6__19 hsT6_
      have tT7__3 := gat hsT7_ (by decide) fT7__3
      have tT7__4 := gat hsT7_ (by decide) fT7__4
      have tT7__6 := gat hsT7_ (by decide) fT7__6
      have tT7__8 := gat hsT7_ (by decide) fT7__8
      have tT7__9 := gat hsT7_ (by decide) fT7__9
      have tT7__10 := gat hsT7_ (by decide) fT7__10
      have tT7__16 := gat hsT7_ (by decide) fT7__16
      have tT7__146 := gat hsT7_ (by decide) fT7__146
      have tT7__20 := gat hsT7_ (by decide) fT7__20
      obtain ⟨t1, ht1⟩ : ∃ t, t = ft1 ys roundsL ws k := ⟨_, rfl⟩
      have h20 : T7_[20]? = some (.int .u32 t1) := by rw [ht1, ft1, ← HA4.out, ← HA5.out, ← HA6.out, ← HA7.out, ← HKK.out, ← HWK.out]; exact fT7__20
      clear fT7__20 tT7__20
      have fT7__20 := h20
      have tT7__20 := gat hsT7_ (by decide) fT7__20
      have HT1 := Aside0.mk ht1
      clear ht1 h20
      refine wp_seq_k (fun K9 hK9 => ?_)
      have HW := Aside0.mk (HS4.out.step (below_drew (Below.refl _ _)))
      have HX := Aside0.mk (HV4.out.step (below_drew (Below.refl _ _)))
      refine hideQ (fun QQ hQQ => ?_)
      refine start_ (n := 18) (S := fun w' => w'.cell? ⟨gv, 0, none⟩ = some (.int .u32 a0)) (ds := []) #[false, false, false, false, false, false, false, false, false, false, false, false, false, false, false, false, false, false] (by kernel_rfl) rfl rfl (HA0.out ▸ HX.out.get 0 (by decide)) (fun hHeld => ?_)
      refine with_tabW su39.tab su39.bits (fun HT_ HW_ => ?_)
      refine pure_ (i := 0) (N := some 197) (v := ?_) (a' := ?_) #[true, false, false, false, false, false, false, false, false, false, false, false, false, false, false, false, false, false] rfl rfl (any_of HT_.out (by kernel_rfl)) (fun _ _ _ h => h) (Or.inl ⟨by rfl, ?_⟩) ?_ ?_
      rotate_left
      · intro w'
        go_simp
        with_reducible rfl
      rotate_left
      · simp only [Act.put, qA, q0, qS, i64_w, i32_w]
        rfl
      refine pure_ (i := 1) (N := some 198) (v := ?_) (a' := ?_) #[true, true, false, false, false, false, false, false, false, false, false, false, false, false, false, false, false, false] rfl rfl (any_of HT_.out (by kernel_rfl)) (fun _ _ _ h => h) (Or.inl ⟨by rfl, ?_⟩) ?_ ?_
      rotate_left
      · intro w'
        go_simp
        with_reducible rfl
      rotate_left
      · simp only [Act.put, qA, q0, qS, i64_w, i32_w]
        rfl
      refine pure_ (i := 2) (N := some 199) (v := ?_) (a' := ?_) #[true, true, true, false, false, false, false, false, false, false, false, false, false, false, false, false, false, false] rfl rfl (any_of HT_.out (by kernel_rfl)) (fun _ _ _ h => h) (Or.inl ⟨by rfl, ?_⟩) ?_ ?_
      rotate_left
      · intro w'
        go_simp
        with_reducible rfl
      rotate_left
      · simp only [Act.put, qA, q0, qS, i64_w, i32_w]
        rfl
      refine pure_ (i := 5) (N := some 202) (v := ?_) (a' := ?_) #[true, true, true, false, false, true, false, false, false, false, false, false, false, false, false, false, false, false] rfl rfl (any_of HT_.out (by kernel_rfl)) (fun _ _ _ h => h) (Or.inl ⟨by rfl, ?_⟩) ?_ ?_
      rotate_left
      · intro w'
        go_simp
        with_reducible rfl
      rotate_left
      · simp only [Act.put, qA, q0, qS, i64_w, i32_w]
        rfl
      refine pure_ (i := 6) (N := some 203) (v := ?_) (a' := ?_) #[true, true, true, false, false, true, true, false, false, false, false, false, false, false, false, false, false, false] rfl rfl (any_of HT_.out (by kernel_rfl)) (fun _ _ _ h => h) (Or.inl ⟨by rfl, ?_⟩) ?_ ?_
      rotate_left
      · intro w'
        go_simp
        with_reducible rfl
      rotate_left
      · simp only [Act.put, qA, q0, qS, i64_w, i32_w]
        rfl
      refine pure_ (i := 7) (N := some 204) (v := ?_) (a' := ?_) #[true, true, true, false, false, true, true, true, false, false, false, false, false, false, false, false, false, false] rfl rfl (any_of HT_.out (by kernel_rfl)) (fun _ _ _ h => h) (Or.inl ⟨by rfl, ?_⟩) ?_ ?_
      rotate_left
      · intro w'
        go_simp
        with_reducible rfl
      rotate_left
      · simp only [Act.put, qA, q0, qS, i64_w, i32_w]
        rfl
      refine pure_ (i := 11) (N := some 208) (v := ?_) (a' := ?_) #[true, true, true, false, false, true, true, true, false, false, false, true, false, false, false, false, false, false] rfl rfl (any_of HT_.out (by kernel_rfl)) (fun _ _ _ h => h) (Or.inl ⟨by rfl, ?_⟩) ?_ ?_
      rotate_left
      · intro w'
        go_simp
        with_reducible rfl
      rotate_left
      · simp only [Act.put, qA, q0, qS, i64_w, i32_w]
        rfl
      refine pure_ (i := 12) (N := some 209) (v := ?_) (a' := ?_) #[true, true, true, false, false, true, true, true, false, false, false, true, true, false, false, false, false, false] rfl rfl (any_of HT_.out (by kernel_rfl)) (fun _ _ _ h => h) (Or.inl ⟨by rfl, ?_⟩) ?_ ?_
      rotate_left
      · intro w'
        go_simp
        with_reducible rfl
      rotate_left
      · simp only [Act.put, qA, q0, qS, i64_w, i32_w]
        rfl
      refine pure_ (i := 13) (N := some 210) (v := ?_) (a' := ?_) #[true, true, true, false, false, true, true, true, false, false, false, true, true, true, false, false, false, false] rfl rfl (any_of HT_.out (by kernel_rfl)) (fun _ _ _ h => h) (Or.inl ⟨by rfl, ?_⟩) ?_ ?_
      rotate_left
      · intro w'
        go_simp
        with_reducible rfl
      rotate_left
      · simp only [Act.put, qA, q0, qS, i64_w, i32_w]
        rfl
      refine take_ (i := 3) (N := some 200) (v := ?_) (a' := ?_) #[true, true, true, true, false, true, true, true, false, false, false, true, true, true, false, false, false, false] rfl rfl (take_ofW HT_.out HW_.out (by kernel_rfl)) (fun _ _ _ h => h) (Or.inl ⟨by rfl, ?_⟩) hHeld ?_ ?_
      rotate_left
      · intro w' s0
        go_simp
        with_reducible rfl
      rotate_left
      · simp only [Act.put, qA, q0, qS, i64_w, i32_w]
        rfl
      refine take_ (i := 8) (N := some 205) (v := ?_) (a' := ?_) #[true, true, true, true, false, true, true, true, true, false, false, true, true, true, false, false, false, false] rfl rfl (take_ofW HT_.out HW_.out (by kernel_rfl)) (fun _ _ _ h => h) (Or.inl ⟨by rfl, ?_⟩) hHeld ?_ ?_
      rotate_left
      · intro w' s0
        go_simp
        with_reducible rfl
      rotate_left
      · simp only [Act.put, qA, q0, qS, i64_w, i32_w]
        rfl
      refine take_ (i := 14) (N := some 211) (v := ?_) (a' := ?_) #[true, true, true, true, false, true, true, true, true, false, false, true, true, true, true, false, false, false] rfl rfl (take_ofW HT_.out HW_.out (by kernel_rfl)) (fun _ _ _ h => h) (Or.inl ⟨by rfl, ?_⟩) hHeld ?_ ?_
      rotate_left
      · intro w' s0
        go_simp
        with_reducible rfl
      rotate_left
      · simp only [Act.put, qA, q0, qS, i64_w, i32_w]
        rfl
      refine one_call (i := 4) (N := some 201) (f := 23) #[true, true, true, true, true, true, true, true, true, false, false, true, true, true, true, false, false, false] rfl rfl (one_of HT_.out (by kernel_rfl)) (by decide) (by rfl) #[.int .u32 a0, .int .i64 2] ?_ ?_
      · first | (go_simp; done) | (go_simp; rfl)
      refine (turn_c a0 2 _ (by omega) (by omega)).mono ?_
      rintro e w3 ⟨rfl, hb⟩
      refine ⟨_, rfl, ?_⟩
      have n0_ := Aside0.mk (HW.out.step hb)
      have n1_ := Aside0.mk (HX.out.step hb)
      clear HW HX hb
      have HW := n0_
      have HX := n1_
      clear n0_ n1_
      refine and_held (HA0.out ▸ HX.out.get 0 (by decide)) (fun hHeld => ?_)
      refine norm_ (a' := ?_) ?_ ?_
      rotate_left
      · show Act.put _ (some 201) _ = _
        simp only [Act.put, qA, q0, qS, i64_w, i32_w]
        rfl
      refine one_call (i := 9) (N := some 206) (f := 23) #[true, true, true, true, true, true, true, true, true, true, false, true, true, true, true, false, false, false] rfl rfl (one_of HT_.out (by kernel_rfl)) (by decide) (by rfl) #[.int .u32 a0, .int .i64 13] ?_ ?_
      · first | (go_simp; done) | (go_simp; rfl)
      refine (turn_c a0 13 _ (by omega) (by omega)).mono ?_
      rintro e w3 ⟨rfl, hb⟩
      refine ⟨_, rfl, ?_⟩
      have n0_ := Aside0.mk (HW.out.step hb)
      have n1_ := Aside0.mk (HX.out.step hb)
      clear HW HX hb
      have HW := n0_
      have HX := n1_
      clear n0_ n1_
      refine and_held (HA0.out ▸ HX.out.get 0 (by decide)) (fun hHeld => ?_)
      refine norm_ (a' := ?_) ?_ ?_
      rotate_left
      · show Act.put _ (some 206) _ = _
        simp only [Act.put, qA, q0, qS, i64_w, i32_w]
        rfl
      refine pure_ (i := 10) (N := some 207) (v := ?_) (a' := ?_) #[true, true, true, true, true, true, true, true, true, true, true, true, true, true, true, false, false, false] rfl rfl (any_of HT_.out (by kernel_rfl)) (fun _ _ _ h => h) (Or.inl ⟨by rfl, ?_⟩) ?_ ?_
      rotate_left
      · intro w'
        go_simp
        with_reducible rfl
      rotate_left
      · simp only [Act.put, qA, q0, qS, i64_w, i32_w]
        rfl
      refine one_call (i := 15) (N := some 212) (f := 23) #[true, true, true, true, true, true, true, true, true, true, true, true, true, true, true, true, false, false] rfl rfl (one_of HT_.out (by kernel_rfl)) (by decide) (by rfl) #[.int .u32 a0, .int .i64 22] ?_ ?_
      · first | (go_simp; done) | (go_simp; rfl)
      refine (turn_c a0 22 _ (by omega) (by omega)).mono ?_
      rintro e w3 ⟨rfl, hb⟩
      refine ⟨_, rfl, ?_⟩
      have n0_ := Aside0.mk (HW.out.step hb)
      have n1_ := Aside0.mk (HX.out.step hb)
      clear HW HX hb
      have HW := n0_
      have HX := n1_
      clear n0_ n1_
      refine and_held (HA0.out ▸ HX.out.get 0 (by decide)) (fun hHeld => ?_)
      refine norm_ (a' := ?_) ?_ ?_
      rotate_left
      · show Act.put _ (some 212) _ = _
        simp only [Act.put, qA, q0, qS, i64_w, i32_w]
        rfl
      refine pure_ (i := 16) (N := some 213) (v := ?_) (a' := ?_) #[true, true, true, true, true, true, true, true, true, true, true, true, true, true, true, true, true, false] rfl rfl (any_of HT_.out (by kernel_rfl)) (fun _ _ _ h => h) (Or.inl ⟨by rfl, ?_⟩) ?_ ?_
      rotate_left
      · intro w'
        go_simp
        with_reducible rfl
      rotate_left
      · simp only [Act.put, qA, q0, qS, i64_w, i32_w]
        rfl
      refine pure_ (i := 17) (N := some 21) (v := ?_) (a' := ?_) #[true, true, true, true, true, true, true, true, true, true, true, true, true, true, true, true, true, true] rfl rfl (any_of HT_.out (by kernel_rfl)) (fun _ _ _ h => h) (Or.inl ⟨by rfl, ?_⟩) ?_ ?_
      rotate_left
      · intro w'
        go_simp
        with_reducible rfl
      rotate_left
      · simp only [Act.put, qA, q0, qS, i64_w, i32_w]
        rfl
      refine done_ (done_of HT_.out (by kernel_rfl)) ?_
      refine hQQ _ _ ?_
      clear hQQ QQ
      refine hK9 _ _ ?_
      clear hK9 K9
      clear HS4 HV4
      have HS4 := HW
      have HV4 := HX
      clear HW HX
      refine absR (fun T8_ hT => ?_)
      have hsT8_ : T8_.size = 300 := by rw [hT]; simp only [Array.size_setIfInBounds]; exact hsT7_
      have fT8__3 : T8_[3]? = _ := (congrArg (fun X_ : Array Value => X_[3]?) hT).trans (gq_ne (d := 21) (by decide) (gq_ne (d := 213) (by decide) (gq_ne (d := 212) (by decide) (gq_ne (d := 207) (by decide) (gq_ne (d := 206) (by decide) (gq_ne (d := 201) (by decide) (gq_ne (d := 211) (by decide) (gq_ne (d := 205) (by decide) (gq_ne (d := 200) (by decide) (gq_ne (d := 210) (by decide) (gq_ne (d := 209) (by decide) (gq_ne (d := 208) (by decide) (gq_ne (d := 204) (by decide) (gq_ne (d := 203) (by decide) (gq_ne (d := 202) (by decide) (gq_ne (d := 199) (by decide) (gq_ne (d := 198) (by decide) (gq_ne (d := 197) (by decide) (fT7__3)))))))))))))))))))
      have fT8__4 : T8_[4]? = _ := (congrArg (fun X_ : Array Value => X_[4]?) hT).trans (gq_ne (d := 21) (by decide) (gq_ne (d := 213) (by decide) (gq_ne (d := 212) (by decide) (gq_ne (d := 207) (by decide) (gq_ne (d := 206) (by decide) (gq_ne (d := 201) (by decide) (gq_ne (d := 211) (by decide) (gq_ne (d := 205) (by decide) (gq_ne (d := 200) (by decide) (gq_ne (d := 210) (by decide) (gq_ne (d := 209) (by decide) (gq_ne (d := 208) (by decide) (gq_ne (d := 204) (by decide) (gq_ne (d := 203) (by decide) (gq_ne (d := 202) (by decide) (gq_ne (d := 199) (by decide) (gq_ne (d := 198) (by decide) (gq_ne (d := 197) (by decide) (fT7__4)))))))))))))))))))
      have fT8__6 : T8_[6]? = _ := (congrArg (fun X_ : Array Value => X_[6]?) hT).trans (gq_ne (d := 21) (by decide) (gq_ne (d := 213) (by decide) (gq_ne (d := 212) (by decide) (gq_ne (d := 207) (by decide) (gq_ne (d := 206) (by decide) (gq_ne (d := 201) (by decide) (gq_ne (d := 211) (by decide) (gq_ne (d := 205) (by decide) (gq_ne (d := 200) (by decide) (gq_ne (d := 210) (by decide) (gq_ne (d := 209) (by decide) (gq_ne (d := 208) (by decide) (gq_ne (d := 204) (by decide) (gq_ne (d := 203) (by decide) (gq_ne (d := 202) (by decide) (gq_ne (d := 199) (by decide) (gq_ne (d := 198) (by decide) (gq_ne (d := 197) (by decide) (fT7__6)))))))))))))))))))
      have fT8__8 : T8_[8]? = _ := (congrArg (fun X_ : Array Value => X_[8]?) hT).trans (gq_ne (d := 21) (by decide) (gq_ne (d := 213) (by decide) (gq_ne (d := 212) (by decide) (gq_ne (d := 207) (by decide) (gq_ne (d := 206) (by decide) (gq_ne (d := 201) (by decide) (gq_ne (d := 211) (by decide) (gq_ne (d := 205) (by decide) (gq_ne (d := 200) (by decide) (gq_ne (d := 210) (by decide) (gq_ne (d := 209) (by decide) (gq_ne (d := 208) (by decide) (gq_ne (d := 204) (by decide) (gq_ne (d := 203) (by decide) (gq_ne (d := 202) (by decide) (gq_ne (d := 199) (by decide) (gq_ne (d := 198) (by decide) (gq_ne (d := 197) (by decide) (fT7__8)))))))))))))))))))
      have fT8__9 : T8_[9]? = _ := (congrArg (fun X_ : Array Value => X_[9]?) hT).trans (gq_ne (d := 21) (by decide) (gq_ne (d := 213) (by decide) (gq_ne (d := 212) (by decide) (gq_ne (d := 207) (by decide) (gq_ne (d := 206) (by decide) (gq_ne (d := 201) (by decide) (gq_ne (d := 211) (by decide) (gq_ne (d := 205) (by decide) (gq_ne (d := 200) (by decide) (gq_ne (d := 210) (by decide) (gq_ne (d := 209) (by decide) (gq_ne (d := 208) (by decide) (gq_ne (d := 204) (by decide) (gq_ne (d := 203) (by decide) (gq_ne (d := 202) (by decide) (gq_ne (d := 199) (by decide) (gq_ne (d := 198) (by decide) (gq_ne (d := 197) (by decide) (fT7__9)))))))))))))))))))
      have fT8__10 : T8_[10]? = _ := (congrArg (fun X_ : Array Value => X_[10]?) hT).trans (gq_ne (d := 21) (by decide) (gq_ne (d := 213) (by decide) (gq_ne (d := 212) (by decide) (gq_ne (d := 207) (by decide) (gq_ne (d := 206) (by decide) (gq_ne (d := 201) (by decide) (gq_ne (d := 211) (by decide) (gq_ne (d := 205) (by decide) (gq_ne (d := 200) (by decide) (gq_ne (d := 210) (by decide) (gq_ne (d := 209) (by decide) (gq_ne (d := 208) (by decide) (gq_ne (d := 204) (by decide) (gq_ne (d := 203) (by decide) (gq_ne (d := 202) (by decide) (gq_ne (d := 199) (by decide) (gq_ne (d := 198) (by decide) (gq_ne (d := 197) (by decide) (fT7__10)))))))))))))))))))
      have fT8__16 : T8_[16]? = _ := (congrArg (fun X_ : Array Value => X_[16]?) hT).trans (gq_ne (d := 21) (by decide) (gq_ne (d := 213) (by decide) (gq_ne (d := 212) (by decide) (gq_ne (d := 207) (by decide) (gq_ne (d := 206) (by decide) (gq_ne (d := 201) (by decide) (gq_ne (d := 211) (by decide) (gq_ne (d := 205) (by decide) (gq_ne (d := 200) (by decide) (gq_ne (d := 210) (by decide) (gq_ne (d := 209) (by decide) (gq_ne (d := 208) (by decide) (gq_ne (d := 204) (by decide) (gq_ne (d := 203) (by decide) (gq_ne (d := 202) (by decide) (gq_ne (d := 199) (by decide) (gq_ne (d := 198) (by decide) (gq_ne (d := 197) (by decide) (fT7__16)))))))))))))))))))
      have fT8__146 : T8_[146]? = _ := (congrArg (fun X_ : Array Value => X_[146]?) hT).trans (gq_ne (d := 21) (by decide) (gq_ne (d := 213) (by decide) (gq_ne (d := 212) (by decide) (gq_ne (d := 207) (by decide) (gq_ne (d := 206) (by decide) (gq_ne (d := 201) (by decide) (gq_ne (d := 211) (by decide) (gq_ne (d := 205) (by decide) (gq_ne (d := 200) (by decide) (gq_ne (d := 210) (by decide) (gq_ne (d := 209) (by decide) (gq_ne (d := 208) (by decide) (gq_ne (d := 204) (by decide) (gq_ne (d := 203) (by decide) (gq_ne (d := 202) (by decide) (gq_ne (d := 199) (by decide) (gq_ne (d := 198) (by decide) (gq_ne (d := 197) (by decide) (fT7__146)))))))))))))))))))
      have fT8__20 : T8_[20]? = _ := (congrArg (fun X_ : Array Value => X_[20]?) hT).trans (gq_ne (d := 21) (by decide) (gq_ne (d := 213) (by decide) (gq_ne (d := 212) (by decide) (gq_ne (d := 207) (by decide) (gq_ne (d := 206) (by decide) (gq_ne (d := 201) (by decide) (gq_ne (d := 211) (by decide) (gq_ne (d := 205) (by decide) (gq_ne (d := 200) (by decide) (gq_ne (d := 210) (by decide) (gq_ne (d := 209) (by decide) (gq_ne (d := 208) (by decide) (gq_ne (d := 204) (by decide) (gq_ne (d := 203) (by decide) (gq_ne (d := 202) (by decide) (gq_ne (d := 199) (by decide) (gq_ne (d := 198) (by decide) (gq_ne (d := 197) (by decide) (fT7__20)))))))))))))))))))
      have fT8__21 : T8_[21]? = _ := (congrArg (fun X_ : Array Value => X_[21]?) hT).trans (gq_eq (i := 21) (by simp only [Array.size_setIfInBounds, hsT7_]; decide))
      clear hT
      clear fT7__3 tT7__3 fT7__4 tT7__4 fT7__6 tT7__6 fT7__8 tT7__8 fT7__9 tT7__9 fT7__10 tT7__10 fT7__16 tT7__16 fT7__146 tT7__146 fT7__20 tT7__20 hsT7_
      have tT8__3 := gat hsT8_ (by decide) fT8__3
      have tT8__4 := gat hsT8_ (by decide) fT8__4
      have tT8__6 := gat hsT8_ (by decide) fT8__6
      have tT8__8 := gat hsT8_ (by decide) fT8__8
      have tT8__9 := gat hsT8_ (by decide) fT8__9
      have tT8__10 := gat hsT8_ (by decide) fT8__10
      have tT8__16 := gat hsT8_ (by decide) fT8__16
      have tT8__146 := gat hsT8_ (by decide) fT8__146
      have tT8__20 := gat hsT8_ (by decide) fT8__20
      have tT8__21 := gat hsT8_ (by decide) fT8__21
      replace fT8__21 : T8_[21]? = some (.int .u32 (fs0 a0)) := fT8__21
      replace tT8__21 := gat hsT8_ (by decide) fT8__21
      refine wp_seq_k (fun K10 hK10 => ?_)
      have HW := Aside0.mk (HS4.out.step (below_drew (Below.refl _ _)))
      have HX := Aside0.mk (HV4.out.step (below_drew (Below.refl _ _)))
      refine hideQ (fun QQ hQQ => ?_)
      refine start_ (n := 24) (S := fun w' => w'.cell? ⟨gv, 0, none⟩ = some (.int .u32 a0) ∧ w'.cell? ⟨gv, 1, none⟩ = some (.int .u32 a1) ∧ w'.cell? ⟨gv, 2, none⟩ = some (.int .u32 a2)) (ds := []) #[false, false, false, false, false, false, false, false, false, false, false, false, false, false, false, false, false, false, false, false, false, false, false, false] (by kernel_rfl) rfl rfl ⟨HA0.out ▸ HX.out.get 0 (by decide), HA1.out ▸ HX.out.get 1 (by decide), HA2.out ▸ HX.out.get 2 (by decide)⟩ (fun hHeld => ?_)
      refine with_tabW su40.tab su40.bits (fun HT_ HW_ => ?_)
      refine pure_ (i := 0) (N := some 214) (v := ?_) (a' := ?_) #[true, false, false, false, false, false, false, false, false, false, false, false, false, false, false, false, false, false, false, false, false, false, false, false] rfl rfl (any_of HT_.out (by kernel_rfl)) (fun _ _ _ h => h) (Or.inl ⟨by rfl, ?_⟩) ?_ ?_
      rotate_left
      · intro w'
        go_simp
        with_reducible rfl
      rotate_left
      · simp only [Act.put, qA, q0, qS, i64_w, i32_w]
        rfl
      refine pure_ (i := 1) (N := some 215) (v := ?_) (a' := ?_) #[true, true, false, false, false, false, false, false, false, false, false, false, false, false, false, false, false, false, false, false, false, false, false, false] rfl rfl (any_of HT_.out (by kernel_rfl)) (fun _ _ _ h => h) (Or.inl ⟨by rfl, ?_⟩) ?_ ?_
      rotate_left
      · intro w'
        go_simp
        with_reducible rfl
      rotate_left
      · simp only [Act.put, qA, q0, qS, i64_w, i32_w]
        rfl
      refine pure_ (i := 3) (N := some 217) (v := ?_) (a' := ?_) #[true, true, false, true, false, false, false, false, false, false, false, false, false, false, false, false, false, false, false, false, false, false, false, false] rfl rfl (any_of HT_.out (by kernel_rfl)) (fun _ _ _ h => h) (Or.inl ⟨by rfl, ?_⟩) ?_ ?_
      rotate_left
      · intro w'
        go_simp
        with_reducible rfl
      rotate_left
      · simp only [Act.put, qA, q0, qS, i64_w, i32_w]
        rfl
      refine pure_ (i := 4) (N := some 218) (v := ?_) (a' := ?_) #[true, true, false, true, true, false, false, false, false, false, false, false, false, false, false, false, false, false, false, false, false, false, false, false] rfl rfl (any_of HT_.out (by kernel_rfl)) (fun _ _ _ h => h) (Or.inl ⟨by rfl, ?_⟩) ?_ ?_
      rotate_left
      · intro w'
        go_simp
        with_reducible rfl
      rotate_left
      · simp only [Act.put, qA, q0, qS, i64_w, i32_w]
        rfl
      refine pure_ (i := 7) (N := some 221) (v := ?_) (a' := ?_) #[true, true, false, true, true, false, false, true, false, false, false, false, false, false, false, false, false, false, false, false, false, false, false, false] rfl rfl (any_of HT_.out (by kernel_rfl)) (fun _ _ _ h => h) (Or.inl ⟨by rfl, ?_⟩) ?_ ?_
      rotate_left
      · intro w'
        go_simp
        with_reducible rfl
      rotate_left
      · simp only [Act.put, qA, q0, qS, i64_w, i32_w]
        rfl
      refine pure_ (i := 8) (N := some 222) (v := ?_) (a' := ?_) #[true, true, false, true, true, false, false, true, true, false, false, false, false, false, false, false, false, false, false, false, false, false, false, false] rfl rfl (any_of HT_.out (by kernel_rfl)) (fun _ _ _ h => h) (Or.inl ⟨by rfl, ?_⟩) ?_ ?_
      rotate_left
      · intro w'
        go_simp
        with_reducible rfl
      rotate_left
      · simp only [Act.put, qA, q0, qS, i64_w, i32_w]
        rfl
      refine pure_ (i := 10) (N := some 224) (v := ?_) (a' := ?_) #[true, true, false, true, true, false, false, true, true, false, true, false, false, false, false, false, false, false, false, false, false, false, false, false] rfl rfl (any_of HT_.out (by kernel_rfl)) (fun _ _ _ h => h) (Or.inl ⟨by rfl, ?_⟩) ?_ ?_
      rotate_left
      · intro w'
        go_simp
        with_reducible rfl
      rotate_left
      · simp only [Act.put, qA, q0, qS, i64_w, i32_w]
        rfl
      refine pure_ (i := 11) (N := some 225) (v := ?_) (a' := ?_) #[true, true, false, true, true, false, false, true, true, false, true, true, false, false, false, false, false, false, false, false, false, false, false, false] rfl rfl (any_of HT_.out (by kernel_rfl)) (fun _ _ _ h => h) (Or.inl ⟨by rfl, ?_⟩) ?_ ?_
      rotate_left
      · intro w'
        go_simp
        with_reducible rfl
      rotate_left
      · simp only [Act.put, qA, q0, qS, i64_w, i32_w]
        rfl
      refine pure_ (i := 15) (N := some 229) (v := ?_) (a' := ?_) #[true, true, false, true, true, false, false, true, true, false, true, true, false, false, false, true, false, false, false, false, false, false, false, false] rfl rfl (any_of HT_.out (by kernel_rfl)) (fun _ _ _ h => h) (Or.inl ⟨by rfl, ?_⟩) ?_ ?_
      rotate_left
      · intro w'
        go_simp
        with_reducible rfl
      rotate_left
      · simp only [Act.put, qA, q0, qS, i64_w, i32_w]
        rfl
      refine pure_ (i := 16) (N := some 230) (v := ?_) (a' := ?_) #[true, true, false, true, true, false, false, true, true, false, true, true, false, false, false, true, true, false, false, false, false, false, false, false] rfl rfl (any_of HT_.out (by kernel_rfl)) (fun _ _ _ h => h) (Or.inl ⟨by rfl, ?_⟩) ?_ ?_
      rotate_left
      · intro w'
        go_simp
        with_reducible rfl
      rotate_left
      · simp only [Act.put, qA, q0, qS, i64_w, i32_w]
        rfl
      refine pure_ (i := 18) (N := some 232) (v := ?_) (a' := ?_) #[true, true, false, true, true, false, false, true, true, false, true, true, false, false, false, true, true, false, true, false, false, false, false, false] rfl rfl (any_of HT_.out (by kernel_rfl)) (fun _ _ _ h => h) (Or.inl ⟨by rfl, ?_⟩) ?_ ?_
      rotate_left
      · intro w'
        go_simp
        with_reducible rfl
      rotate_left
      · simp only [Act.put, qA, q0, qS, i64_w, i32_w]
        rfl
      refine pure_ (i := 19) (N := some 233) (v := ?_) (a' := ?_) #[true, true, false, true, true, false, false, true, true, false, true, true, false, false, false, true, true, false, true, true, false, false, false, false] rfl rfl (any_of HT_.out (by kernel_rfl)) (fun _ _ _ h => h) (Or.inl ⟨by rfl, ?_⟩) ?_ ?_
      rotate_left
      · intro w'
        go_simp
        with_reducible rfl
      rotate_left
      · simp only [Act.put, qA, q0, qS, i64_w, i32_w]
        rfl
      refine take_ (i := 2) (N := some 216) (v := ?_) (a' := ?_) #[true, true, true, true, true, false, false, true, true, false, true, true, false, false, false, true, true, false, true, true, false, false, false, false] rfl rfl (take_ofW HT_.out HW_.out (by kernel_rfl)) (fun _ _ _ h => h) (Or.inl ⟨by rfl, ?_⟩) hHeld ?_ ?_
      rotate_left
      · rintro w' ⟨s0, s1, s2⟩
        go_simp
        with_reducible rfl
      rotate_left
      · simp only [Act.put, qA, q0, qS, i64_w, i32_w]
        rfl
      refine take_ (i := 5) (N := some 219) (v := ?_) (a' := ?_) #[true, true, true, true, true, true, false, true, true, false, true, true, false, false, false, true, true, false, true, true, false, false, false, false] rfl rfl (take_ofW HT_.out HW_.out (by kernel_rfl)) (fun _ _ _ h => h) (Or.inl ⟨by rfl, ?_⟩) hHeld ?_ ?_
      rotate_left
      · rintro w' ⟨s0, s1, s2⟩
        go_simp
        with_reducible rfl
      rotate_left
      · simp only [Act.put, qA, q0, qS, i64_w, i32_w]
        rfl
      refine pure_ (i := 6) (N := some 220) (v := ?_) (a' := ?_) #[true, true, true, true, true, true, true, true, true, false, true, true, false, false, false, true, true, false, true, true, false, false, false, false] rfl rfl (any_of HT_.out (by kernel_rfl)) (fun _ _ _ h => h) (Or.inl ⟨by rfl, ?_⟩) ?_ ?_
      rotate_left
      · intro w'
        go_simp
        with_reducible rfl
      rotate_left
      · simp only [Act.put, qA, q0, qS, i64_w, i32_w]
        rfl
      refine take_ (i := 9) (N := some 223) (v := ?_) (a' := ?_) #[true, true, true, true, true, true, true, true, true, true, true, true, false, false, false, true, true, false, true, true, false, false, false, false] rfl rfl (take_ofW HT_.out HW_.out (by kernel_rfl)) (fun _ _ _ h => h) (Or.inl ⟨by rfl, ?_⟩) hHeld ?_ ?_
      rotate_left
      · rintro w' ⟨s0, s1, s2⟩
        go_simp
        with_reducible rfl
      rotate_left
      · simp only [Act.put, qA, q0, qS, i64_w, i32_w]
        rfl
      refine take_ (i := 12) (N := some 226) (v := ?_) (a' := ?_) #[true, true, true, true, true, true, true, true, true, true, true, true, true, false, false, true, true, false, true, true, false, false, false, false] rfl rfl (take_ofW HT_.out HW_.out (by kernel_rfl)) (fun _ _ _ h => h) (Or.inl ⟨by rfl, ?_⟩) hHeld ?_ ?_
      rotate_left
      · rintro w' ⟨s0, s1, s2⟩
        go_simp
        with_reducible rfl
      rotate_left
      · simp only [Act.put, qA, q0, qS, i64_w, i32_w]
        rfl
      refine pure_ (i := 13) (N := some 227) (v := ?_) (a' := ?_) #[true, true, true, true, true, true, true, true, true, true, true, true, true, true, false, true, true, false, true, true, false, false, false, false] rfl rfl (any_of HT_.out (by kernel_rfl)) (fun _ _ _ h => h) (Or.inl ⟨by rfl, ?_⟩) ?_ ?_
      rotate_left
      · intro w'
        go_simp
        with_reducible rfl
      rotate_left
      · simp only [Act.put, qA, q0, qS, i64_w, i32_w]
        rfl
      refine pure_ (i := 14) (N := some 228) (v := ?_) (a' := ?_) #[true, true, true, true, true, true, true, true, true, true, true, true, true, true, true, true, true, false, true, true, false, false, false, false] rfl rfl (any_of HT_.out (by kernel_rfl)) (fun _ _ _ h => h) (Or.inl ⟨by rfl, ?_⟩) ?_ ?_
      rotate_left
      · intro w'
        go_simp
        with_reducible rfl
      rotate_left
      · simp only [Act.put, qA, q0, qS, i64_w, i32_w]
        rfl
      refine take_ (i := 17) (N := some 231) (v := ?_) (a' := ?_) #[true, true, true, true, true, true, true, true, true, true, true, true, true, true, true, true, true, true, true, true, false, false, false, false] rfl rfl (take_ofW HT_.out HW_.out (by kernel_rfl)) (fun _ _ _ h => h) (Or.inl ⟨by rfl, ?_⟩) hHeld ?_ ?_
      rotate_left
      · rintro w' ⟨s0, s1, s2⟩
        go_simp
        with_reducible rfl
      rotate_left
      · simp only [Act.put, qA, q0, qS, i64_w, i32_w]
        rfl
      refine take_ (i := 20) (N := some 234) (v := ?_) (a' := ?_) #[true, true, true, true, true, true, true, true, true, true, true, true, true, true, true, true, true, true, true, true, true, false, false, false] rfl rfl (take_ofW HT_.out HW_.out (by kernel_rfl)) (fun _ _ _ h => h) (Or.inl ⟨by rfl, ?_⟩) hHeld ?_ ?_
      rotate_left
      · rintro w' ⟨s0, s1, s2⟩
        go_simp
        with_reducible rfl
      rotate_left
      · simp only [Act.put, qA, q0, qS, i64_w, i32_w]
        rfl
      refine pure_ (i := 21) (N := some 235) (v := ?_) (a' := ?_) #[true, true, true, true, true, true, true, true, true, true, true, true, true, true, true, true, true, true, true, true, true, true, false, false] rfl rfl (any_of HT_.out (by kernel_rfl)) (fun _ _ _ h => h) (Or.inl ⟨by rfl, ?_⟩) ?_ ?_
      rotate_left
      · intro w'
        go_simp
        with_reducible rfl
      rotate_left
      · simp only [Act.put, qA, q0, qS, i64_w, i32_w]
        rfl
      refine pure_ (i := 22) (N := some 236) (v := ?_) (a' := ?_) #[true, true, true, true, true, true, true, true, true, true, true, true, true, true, true, true, true, true, true, true, true, true, true, false] rfl rfl (any_of HT_.out (by kernel_rfl)) (fun _ _ _ h => h) (Or.inl ⟨by rfl, ?_⟩) ?_ ?_
      rotate_left
      · intro w'
        go_simp
        with_reducible rfl
      rotate_left
      · simp only [Act.put, qA, q0, qS, i64_w, i32_w]
        rfl
      refine pure_ (i := 23) (N := some 22) (v := ?_) (a' := ?_) #[true, true, true, true, true, true, true, true, true, true, true, true, true, true, true, true, true, true, true, true, true, true, true, true] rfl rfl (any_of HT_.out (by kernel_rfl)) (fun _ _ _ h => h) (Or.inl ⟨by rfl, ?_⟩) ?_ ?_
      rotate_left
      · intro w'
        go_simp
        with_reducible rfl
      rotate_left
      · simp only [Act.put, qA, q0, qS, i64_w, i32_w]
        rfl
      refine done_ (done_of HT_.out (by kernel_rfl)) ?_
      refine hQQ _ _ ?_
      clear hQQ QQ
      refine hK10 _ _ ?_
      clear hK10 K10
      clear HS4 HV4
      have HS4 := HW
      have HV4 := HX
      clear HW HX
      refine absR (fun T9_ hT => ?_)
      have hsT9_ : T9_.size = 300 := by rw [hT]; simp only [Array.size_setIfInBounds]; exact hsT8_
      have fT9__3 : T9_[3]? = _ := (congrArg (fun X_ : Array Value => X_[3]?) hT).trans (gq_ne (d := 22) (by decide) (gq_ne (d := 236) (by decide) (gq_ne (d := 235) (by decide) (gq_ne (d := 234) (by decide) (gq_ne (d := 231) (by decide) (gq_ne (d := 228) (by decide) (gq_ne (d := 227) (by decide) (gq_ne (d := 226) (by decide) (gq_ne (d := 223) (by decide) (gq_ne (d := 220) (by decide) (gq_ne (d := 219) (by decide) (gq_ne (d := 216) (by decide) (gq_ne (d := 233) (by decide) (gq_ne (d := 232) (by decide) (gq_ne (d := 230) (by decide) (gq_ne (d := 229) (by decide) (gq_ne (d := 225) (by decide) (gq_ne (d := 224) (by decide) (gq_ne (d := 222) (by decide) (gq_ne (d := 221) (by decide) (gq_ne (d := 218) (by decide) (gq_ne (d := 217) (by decide) (gq_ne (d := 215) (by decide) (gq_ne (d := 214) (by decide) (fT8__3)))))))))))))))))))))))))
      have fT9__4 : T9_[4]? = _ := (congrArg (fun X_ : Array Value => X_[4]?) hT).trans (gq_ne (d := 22) (by decide) (gq_ne (d := 236) (by decide) (gq_ne (d := 235) (by decide) (gq_ne (d := 234) (by decide) (gq_ne (d := 231) (by decide) (gq_ne (d := 228) (by decide) (gq_ne (d := 227) (by decide) (gq_ne (d := 226) (by decide) (gq_ne (d := 223) (by decide) (gq_ne (d := 220) (by decide) (gq_ne (d := 219) (by decide) (gq_ne (d := 216) (by decide) (gq_ne (d := 233) (by decide) (gq_ne (d := 232) (by decide) (gq_ne (d := 230) (by decide) (gq_ne (d := 229) (by decide) (gq_ne (d := 225) (by decide) (gq_ne (d := 224) (by decide) (gq_ne (d := 222) (by decide) (gq_ne (d := 221) (by decide) (gq_ne (d := 218) (by decide) (gq_ne (d := 217) (by decide) (gq_ne (d := 215) (by decide) (gq_ne (d := 214) (by decide) (fT8__4)))))))))))))))))))))))))
      have fT9__6 : T9_[6]? = _ := (congrArg (fun X_ : Array Value => X_[6]?) hT).trans (gq_ne (d := 22) (by decide) (gq_ne (d := 236) (by decide) (gq_ne (d := 235) (by decide) (gq_ne (d := 234) (by decide) (gq_ne (d := 231) (by decide) (gq_ne (d := 228) (by decide) (gq_ne (d := 227) (by decide) (gq_ne (d := 226) (by decide) (gq_ne (d := 223) (by decide) (gq_ne (d := 220) (by decide) (gq_ne (d := 219) (by decide) (gq_ne (d := 216) (by decide) (gq_ne (d := 233) (by decide) (gq_ne (d := 232) (by decide) (gq_ne (d := 230) (by decide) (gq_ne (d := 229) (by decide) (gq_ne (d := 225) (by decide) (gq_ne (d := 224) (by decide) (gq_ne (d := 222) (by decide) (gq_ne (d := 221) (by decide) (gq_ne (d := 218) (by decide) (gq_ne (d := 217) (by decide) (gq_ne (d := 215) (by decide) (gq_ne (d := 214) (by decide) (fT8__6)))))))))))))))))))))))))
      have fT9__8 : T9_[8]? = _ := (congrArg (fun X_ : Array Value => X_[8]?) hT).trans (gq_ne (d := 22) (by decide) (gq_ne (d := 236) (by decide) (gq_ne (d := 235) (by decide) (gq_ne (d := 234) (by decide) (gq_ne (d := 231) (by decide) (gq_ne (d := 228) (by decide) (gq_ne (d := 227) (by decide) (gq_ne (d := 226) (by decide) (gq_ne (d := 223) (by decide) (gq_ne (d := 220) (by decide) (gq_ne (d := 219) (by decide) (gq_ne (d := 216) (by decide) (gq_ne (d := 233) (by decide) (gq_ne (d := 232) (by decide) (gq_ne (d := 230) (by decide) (gq_ne (d := 229) (by decide) (gq_ne (d := 225) (by decide) (gq_ne (d := 224) (by decide) (gq_ne (d := 222) (by decide) (gq_ne (d := 221) (by decide) (gq_ne (d := 218) (by decide) (gq_ne (d := 217) (by decide) (gq_ne (d := 215) (by decide) (gq_ne (d := 214) (by decide) (fT8__8)))))))))))))))))))))))))
      have fT9__9 : T9_[9]? = _ := (congrArg (fun X_ : Array Value => X_[9]?) hT).trans (gq_ne (d := 22) (by decide) (gq_ne (d := 236) (by decide) (gq_ne (d := 235) (by decide) (gq_ne (d := 234) (by decide) (gq_ne (d := 231) (by decide) (gq_ne (d := 228) (by decide) (gq_ne (d := 227) (by decide) (gq_ne (d := 226) (by decide) (gq_ne (d := 223) (by decide) (gq_ne (d := 220) (by decide) (gq_ne (d := 219) (by decide) (gq_ne (d := 216) (by decide) (gq_ne (d := 233) (by decide) (gq_ne (d := 232) (by decide) (gq_ne (d := 230) (by decide) (gq_ne (d := 229) (by decide) (gq_ne (d := 225) (by decide) (gq_ne (d := 224) (by decide) (gq_ne (d := 222) (by decide) (gq_ne (d := 221) (by decide) (gq_ne (d := 218) (by decide) (gq_ne (d := 217) (by decide) (gq_ne (d := 215) (by decide) (gq_ne (d := 214) (by decide) (fT8__9)))))))))))))))))))))))))
      have fT9__10 : T9_[10]? = _ := (congrArg (fun X_ : Array Value => X_[10]?) hT).trans (gq_ne (d := 22) (by decide) (gq_ne (d := 236) (by decide) (gq_ne (d := 235) (by decide) (gq_ne (d := 234) (by decide) (gq_ne (d := 231) (by decide) (gq_ne (d := 228) (by decide) (gq_ne (d := 227) (by decide) (gq_ne (d := 226) (by decide) (gq_ne (d := 223) (by decide) (gq_ne (d := 220) (by decide) (gq_ne (d := 219) (by decide) (gq_ne (d := 216) (by decide) (gq_ne (d := 233) (by decide) (gq_ne (d := 232) (by decide) (gq_ne (d := 230) (by decide) (gq_ne (d := 229) (by decide) (gq_ne (d := 225) (by decide) (gq_ne (d := 224) (by decide) (gq_ne (d := 222) (by decide) (gq_ne (d := 221) (by decide) (gq_ne (d := 218) (by decide) (gq_ne (d := 217) (by decide) (gq_ne (d := 215) (by decide) (gq_ne (d := 214) (by decide) (fT8__10)))))))))))))))))))))))))
      have fT9__16 : T9_[16]? = _ := (congrArg (fun X_ : Array Value => X_[16]?) hT).trans (gq_ne (d := 22) (by decide) (gq_ne (d := 236) (by decide) (gq_ne (d := 235) (by decide) (gq_ne (d := 234) (by decide) (gq_ne (d := 231) (by decide) (gq_ne (d := 228) (by decide) (gq_ne (d := 227) (by decide) (gq_ne (d := 226) (by decide) (gq_ne (d := 223) (by decide) (gq_ne (d := 220) (by decide) (gq_ne (d := 219) (by decide) (gq_ne (d := 216) (by decide) (gq_ne (d := 233) (by decide) (gq_ne (d := 232) (by decide) (gq_ne (d := 230) (by decide) (gq_ne (d := 229) (by decide) (gq_ne (d := 225) (by decide) (gq_ne (d := 224) (by decide) (gq_ne (d := 222) (by decide) (gq_ne (d := 221) (by decide) (gq_ne (d := 218) (by decide) (gq_ne (d := 217) (by decide) (gq_ne (d := 215) (by decide) (gq_ne (d := 214) (by decide) (fT8__16)))))))))))))))))))))))))
      have fT9__146 : T9_[146]? = _ := (congrArg (fun X_ : Array Value => X_[146]?) hT).trans (gq_ne (d := 22) (by decide) (gq_ne (d := 236) (by decide) (gq_ne (d := 235) (by decide) (gq_ne (d := 234) (by decide) (gq_ne (d := 231) (by decide) (gq_ne (d := 228) (by decide) (gq_ne (d := 227) (by decide) (gq_ne (d := 226) (by decide) (gq_ne (d := 223) (by decide) (gq_ne (d := 220) (by decide) (gq_ne (d := 219) (by decide) (gq_ne (d := 216) (by decide) (gq_ne (d := 233) (by decide) (gq_ne (d := 232) (by decide) (gq_ne (d := 230) (by decide) (gq_ne (d := 229) (by decide) (gq_ne (d := 225) (by decide) (gq_ne (d := 224) (by decide) (gq_ne (d := 222) (by decide) (gq_ne (d := 221) (by decide) (gq_ne (d := 218) (by decide) (gq_ne (d := 217) (by decide) (gq_ne (d := 215) (by decide) (gq_ne (d := 214) (by decide) (fT8__146)))))))))))))))))))))))))
      have fT9__20 : T9_[20]? = _ := (congrArg (fun X_ : Array Value => X_[20]?) hT).trans (gq_ne (d := 22) (by decide) (gq_ne (d := 236) (by decide) (gq_ne (d := 235) (by decide) (gq_ne (d := 234) (by decide) (gq_ne (d := 231) (by decide) (gq_ne (d := 228) (by decide) (gq_ne (d := 227) (by decide) (gq_ne (d := 226) (by decide) (gq_ne (d := 223) (by decide) (gq_ne (d := 220) (by decide) (gq_ne (d := 219) (by decide) (gq_ne (d := 216) (by decide) (gq_ne (d := 233) (by decide) (gq_ne (d := 232) (by decide) (gq_ne (d := 230) (by decide) (gq_ne (d := 229) (by decide) (gq_ne (d := 225) (by decide) (gq_ne (d := 224) (by decide) (gq_ne (d := 222) (by decide) (gq_ne (d := 221) (by decide) (gq_ne (d := 218) (by decide) (gq_ne (d := 217) (by decide) (gq_ne (d := 215) (by decide) (gq_ne (d := 214) (by decide) (fT8__20)))))))))))))))))))))))))
      have fT9__21 : T9_[21]? = _ := (congrArg (fun X_ : Array Value => X_[21]?) hT).trans (gq_ne (d := 22) (by decide) (gq_ne (d := 236) (by decide) (gq_ne (d := 235) (by decide) (gq_ne (d := 234) (by decide) (gq_ne (d := 231) (by decide) (gq_ne (d := 228) (by decide) (gq_ne (d := 227) (by decide) (gq_ne (d := 226) (by decide) (gq_ne (d := 223) (by decide) (gq_ne (d := 220) (by decide) (gq_ne (d := 219) (by decide) (gq_ne (d := 216) (by decide) (gq_ne (d := 233) (by decide) (gq_ne (d := 232) (by decide) (gq_ne (d := 230) (by decide) (gq_ne (d := 229) (by decide) (gq_ne (d := 225) (by decide) (gq_ne (d := 224) (by decide) (gq_ne (d := 222) (by decide) (gq_ne (d := 221) (by decide) (gq_ne (d := 218) (by decide) (gq_ne (d := 217) (by decide) (gq_ne (d := 215) (by decide) (gq_ne (d := 214) (by decide) (fT8__21)))))))))))))))))))))))))
      have fT9__22 : T9_[22]? = _ := (congrArg (fun X_ : Array Value => X_[22]?) hT).trans (gq_eq (i := 22) (by simp only [Array.size_setIfInBounds, hsT8_]; decide))
      clear hT
      clear fT8__3 tT8__3 fT8__4 tT8__4 fT8__6 tT8__6 fT8__8 tT8__8 fT8__9 tT8__9 fT8__10 tT8__10 fT8__16 tT8__16 fT8__146 tT8__146 fT8__20 tT8__20 fT8__21 tT8__21 hsT8_
      have tT9__3 := gat hsT9_ (by decide) fT9__3
      have tT9__4 := gat hsT9_ (by decide) fT9__4
      have tT9__6 := gat hsT9_ (by decide) fT9__6
      have tT9__8 := gat hsT9_ (by decide) fT9__8
      have tT9__9 := gat hsT9_ (by decide) fT9__9
      have tT9__10 := gat hsT9_ (by decide) fT9__10
      have tT9__16 := gat hsT9_ (by decide) fT9__16
      have tT9__146 := gat hsT9_ (by decide) fT9__146
      have tT9__20 := gat hsT9_ (by decide) fT9__20
      have tT9__21 := gat hsT9_ (by decide) fT9__21
      have tT9__22 := gat hsT9_ (by decide) fT9__22
      replace fT9__22 : T9_[22]? = some (.int .u32 (fmaj a0 a1 a2)) := fT9__22
      replace tT9__22 := gat hsT9_ (by decide) fT9__22
      have HW := Aside0.mk (HS4.out.step (below_drew (Below.refl _ _)))
      have HX := Aside0.mk (HV4.out.step (below_drew (Below.refl _ _)))
      refine hideQ (fun QQ hQQ => ?_)
      refine start_ (n := 30) (S := fun w' => w'.cell? ⟨gv, 0, none⟩ = some (.int .u32 a0) ∧ w'.cell? ⟨gv, 1, none⟩ = some (.int .u32 a1) ∧ w'.cell? ⟨gv, 2, none⟩ = some (.int .u32 a2) ∧ w'.cell? ⟨gv, 3, none⟩ = some (.int .u32 a3) ∧ w'.cell? ⟨gv, 4, none⟩ = some (.int .u32 a4) ∧ w'.cell? ⟨gv, 5, none⟩ = some (.int .u32 a5) ∧ w'.cell? ⟨gv, 6, none⟩ = some (.int .u32 a6)) (ds := []) #[false, false, false, false, false, false, false, false, false, false, false, false, false, false, false, false, false, false, false, false, false, false, false, false, false, false, false, false, false, false] (by kernel_rfl) rfl rfl ⟨HA0.out ▸ HX.out.get 0 (by decide), HA1.out ▸ HX.out.get 1 (by decide), HA2.out ▸ HX.out.get 2 (by decide), HA3.out ▸ HX.out.get 3 (by decide), HA4.out ▸ HX.out.get 4 (by decide), HA5.out ▸ HX.out.get 5 (by decide), HA6.out ▸ HX.out.get 6 (by decide)⟩ (fun hHeld => ?_)
      refine with_tabW su41.tab su41.bits (fun HT_ HW_ => ?_)
      refine pure_ (i := 0) (N := some 237) (v := ?_) (a' := ?_) #[true, false, false, false, false, false, false, false, false, false, false, false, false, false, false, false, false, false, false, false, false, false, false, false, false, false, false, false, false, false] rfl rfl (any_of HT_.out (by kernel_rfl)) (fun _ _ _ h => h) (Or.inl ⟨by rfl, ?_⟩) ?_ ?_
      rotate_left
      · intro w'
        go_simp
        with_reducible rfl
      rotate_left
      · simp only [Act.put, qA, q0, qS, i64_w, i32_w]
        rfl
      refine pure_ (i := 1) (N := some 238) (v := ?_) (a' := ?_) #[true, true, false, false, false, false, false, false, false, false, false, false, false, false, false, false, false, false, false, false, false, false, false, false, false, false, false, false, false, false] rfl rfl (any_of HT_.out (by kernel_rfl)) (fun _ _ _ h => h) (Or.inl ⟨by rfl, ?_⟩) ?_ ?_
      rotate_left
      · intro w'
        go_simp
        with_reducible rfl
      rotate_left
      · simp only [Act.put, qA, q0, qS, i64_w, i32_w]
        rfl
      refine pure_ (i := 2) (N := some 239) (v := ?_) (a' := ?_) #[true, true, true, false, false, false, false, false, false, false, false, false, false, false, false, false, false, false, false, false, false, false, false, false, false, false, false, false, false, false] rfl rfl (any_of HT_.out (by kernel_rfl)) (fun _ _ _ h => h) (Or.inl ⟨by rfl, ?_⟩) ?_ ?_
      rotate_left
      · intro w'
        go_simp
        with_reducible rfl
      rotate_left
      · simp only [Act.put, qA, q0, qS, i64_w, i32_w]
        rfl
      refine pure_ (i := 3) (N := some 240) (v := ?_) (a' := ?_) #[true, true, true, true, false, false, false, false, false, false, false, false, false, false, false, false, false, false, false, false, false, false, false, false, false, false, false, false, false, false] rfl rfl (any_of HT_.out (by kernel_rfl)) (fun _ _ _ h => h) (Or.inl ⟨by rfl, ?_⟩) ?_ ?_
      rotate_left
      · intro w'
        go_simp
        with_reducible rfl
      rotate_left
      · simp only [Act.put, qA, q0, qS, i64_w, i32_w]
        rfl
      refine pure_ (i := 4) (N := some 241) (v := ?_) (a' := ?_) #[true, true, true, true, true, false, false, false, false, false, false, false, false, false, false, false, false, false, false, false, false, false, false, false, false, false, false, false, false, false] rfl rfl (any_of HT_.out (by kernel_rfl)) (fun _ _ _ h => h) (Or.inl ⟨by rfl, ?_⟩) ?_ ?_
      rotate_left
      · intro w'
        go_simp
        with_reducible rfl
      rotate_left
      · simp only [Act.put, qA, q0, qS, i64_w, i32_w]
        rfl
      refine pure_ (i := 5) (N := some 242) (v := ?_) (a' := ?_) #[true, true, true, true, true, true, false, false, false, false, false, false, false, false, false, false, false, false, false, false, false, false, false, false, false, false, false, false, false, false] rfl rfl (any_of HT_.out (by kernel_rfl)) (fun _ _ _ h => h) (Or.inl ⟨by rfl, ?_⟩) ?_ ?_
      rotate_left
      · intro w'
        go_simp
        with_reducible rfl
      rotate_left
      · simp only [Act.put, qA, q0, qS, i64_w, i32_w]
        rfl
      refine pure_ (i := 6) (N := some 243) (v := ?_) (a' := ?_) #[true, true, true, true, true, true, true, false, false, false, false, false, false, false, false, false, false, false, false, false, false, false, false, false, false, false, false, false, false, false] rfl rfl (any_of HT_.out (by kernel_rfl)) (fun _ _ _ h => h) (Or.inl ⟨by rfl, ?_⟩) ?_ ?_
      rotate_left
      · intro w'
        go_simp
        with_reducible rfl
      rotate_left
      · simp only [Act.put, qA, q0, qS, i64_w, i32_w]
        rfl
      refine pure_ (i := 8) (N := some 245) (v := ?_) (a' := ?_) #[true, true, true, true, true, true, true, false, true, false, false, false, false, false, false, false, false, false, false, false, false, false, false, false, false, false, false, false, false, false] rfl rfl (any_of HT_.out (by kernel_rfl)) (fun _ _ _ h => h) (Or.inl ⟨by rfl, ?_⟩) ?_ ?_
      rotate_left
      · intro w'
        go_simp
        with_reducible rfl
      rotate_left
      · simp only [Act.put, qA, q0, qS, i64_w, i32_w]
        rfl
      refine pure_ (i := 9) (N := some 246) (v := ?_) (a' := ?_) #[true, true, true, true, true, true, true, false, true, true, false, false, false, false, false, false, false, false, false, false, false, false, false, false, false, false, false, false, false, false] rfl rfl (any_of HT_.out (by kernel_rfl)) (fun _ _ _ h => h) (Or.inl ⟨by rfl, ?_⟩) ?_ ?_
      rotate_left
      · intro w'
        go_simp
        with_reducible rfl
      rotate_left
      · simp only [Act.put, qA, q0, qS, i64_w, i32_w]
        rfl
      refine pure_ (i := 11) (N := some 248) (v := ?_) (a' := ?_) #[true, true, true, true, true, true, true, false, true, true, false, true, false, false, false, false, false, false, false, false, false, false, false, false, false, false, false, false, false, false] rfl rfl (any_of HT_.out (by kernel_rfl)) (fun _ _ _ h => h) (Or.inl ⟨by rfl, ?_⟩) ?_ ?_
      rotate_left
      · intro w'
        go_simp
        with_reducible rfl
      rotate_left
      · simp only [Act.put, qA, q0, qS, i64_w, i32_w]
        rfl
      refine pure_ (i := 12) (N := some 249) (v := ?_) (a' := ?_) #[true, true, true, true, true, true, true, false, true, true, false, true, true, false, false, false, false, false, false, false, false, false, false, false, false, false, false, false, false, false] rfl rfl (any_of HT_.out (by kernel_rfl)) (fun _ _ _ h => h) (Or.inl ⟨by rfl, ?_⟩) ?_ ?_
      rotate_left
      · intro w'
        go_simp
        with_reducible rfl
      rotate_left
      · simp only [Act.put, qA, q0, qS, i64_w, i32_w]
        rfl
      refine pure_ (i := 14) (N := some 251) (v := ?_) (a' := ?_) #[true, true, true, true, true, true, true, false, true, true, false, true, true, false, true, false, false, false, false, false, false, false, false, false, false, false, false, false, false, false] rfl rfl (any_of HT_.out (by kernel_rfl)) (fun _ _ _ h => h) (Or.inl ⟨by rfl, ?_⟩) ?_ ?_
      rotate_left
      · intro w'
        go_simp
        with_reducible rfl
      rotate_left
      · simp only [Act.put, qA, q0, qS, i64_w, i32_w]
        rfl
      refine pure_ (i := 15) (N := some 252) (v := ?_) (a' := ?_) #[true, true, true, true, true, true, true, false, true, true, false, true, true, false, true, true, false, false, false, false, false, false, false, false, false, false, false, false, false, false] rfl rfl (any_of HT_.out (by kernel_rfl)) (fun _ _ _ h => h) (Or.inl ⟨by rfl, ?_⟩) ?_ ?_
      rotate_left
      · intro w'
        go_simp
        with_reducible rfl
      rotate_left
      · simp only [Act.put, qA, q0, qS, i64_w, i32_w]
        rfl
      refine pure_ (i := 17) (N := some 254) (v := ?_) (a' := ?_) #[true, true, true, true, true, true, true, false, true, true, false, true, true, false, true, true, false, true, false, false, false, false, false, false, false, false, false, false, false, false] rfl rfl (any_of HT_.out (by kernel_rfl)) (fun _ _ _ h => h) (Or.inl ⟨by rfl, ?_⟩) ?_ ?_
      rotate_left
      · intro w'
        go_simp
        with_reducible rfl
      rotate_left
      · simp only [Act.put, qA, q0, qS, i64_w, i32_w]
        rfl
      refine pure_ (i := 19) (N := some 256) (v := ?_) (a' := ?_) #[true, true, true, true, true, true, true, false, true, true, false, true, true, false, true, true, false, true, false, true, false, false, false, false, false, false, false, false, false, false] rfl rfl (any_of HT_.out (by kernel_rfl)) (fun _ _ _ h => h) (Or.inl ⟨by rfl, ?_⟩) ?_ ?_
      rotate_left
      · intro w'
        go_simp
        with_reducible rfl
      rotate_left
      · simp only [Act.put, qA, q0, qS, i64_w, i32_w]
        rfl
      refine pure_ (i := 20) (N := some 257) (v := ?_) (a' := ?_) #[true, true, true, true, true, true, true, false, true, true, false, true, true, false, true, true, false, true, false, true, true, false, false, false, false, false, false, false, false, false] rfl rfl (any_of HT_.out (by kernel_rfl)) (fun _ _ _ h => h) (Or.inl ⟨by rfl, ?_⟩) ?_ ?_
      rotate_left
      · intro w'
        go_simp
        with_reducible rfl
      rotate_left
      · simp only [Act.put, qA, q0, qS, i64_w, i32_w]
        rfl
      refine pure_ (i := 22) (N := some 259) (v := ?_) (a' := ?_) #[true, true, true, true, true, true, true, false, true, true, false, true, true, false, true, true, false, true, false, true, true, false, true, false, false, false, false, false, false, false] rfl rfl (any_of HT_.out (by kernel_rfl)) (fun _ _ _ h => h) (Or.inl ⟨by rfl, ?_⟩) ?_ ?_
      rotate_left
      · intro w'
        go_simp
        with_reducible rfl
      rotate_left
      · simp only [Act.put, qA, q0, qS, i64_w, i32_w]
        rfl
      refine pure_ (i := 23) (N := some 260) (v := ?_) (a' := ?_) #[true, true, true, true, true, true, true, false, true, true, false, true, true, false, true, true, false, true, false, true, true, false, true, true, false, false, false, false, false, false] rfl rfl (any_of HT_.out (by kernel_rfl)) (fun _ _ _ h => h) (Or.inl ⟨by rfl, ?_⟩) ?_ ?_
      rotate_left
      · intro w'
        go_simp
        with_reducible rfl
      rotate_left
      · simp only [Act.put, qA, q0, qS, i64_w, i32_w]
        rfl
      refine pure_ (i := 25) (N := some 262) (v := ?_) (a' := ?_) #[true, true, true, true, true, true, true, false, true, true, false, true, true, false, true, true, false, true, false, true, true, false, true, true, false, true, false, false, false, false] rfl rfl (any_of HT_.out (by kernel_rfl)) (fun _ _ _ h => h) (Or.inl ⟨by rfl, ?_⟩) ?_ ?_
      rotate_left
      · intro w'
        go_simp
        with_reducible rfl
      rotate_left
      · simp only [Act.put, qA, q0, qS, i64_w, i32_w]
        rfl
      refine pure_ (i := 26) (N := some 263) (v := ?_) (a' := ?_) #[true, true, true, true, true, true, true, false, true, true, false, true, true, false, true, true, false, true, false, true, true, false, true, true, false, true, true, false, false, false] rfl rfl (any_of HT_.out (by kernel_rfl)) (fun _ _ _ h => h) (Or.inl ⟨by rfl, ?_⟩) ?_ ?_
      rotate_left
      · intro w'
        go_simp
        with_reducible rfl
      rotate_left
      · simp only [Act.put, qA, q0, qS, i64_w, i32_w]
        rfl
      refine take_ (i := 7) (N := some 244) (v := ?_) (a' := ?_) #[true, true, true, true, true, true, true, true, true, true, false, true, true, false, true, true, false, true, false, true, true, false, true, true, false, true, true, false, false, false] rfl rfl (take_ofW HT_.out HW_.out (by kernel_rfl)) (fun _ _ _ h => h) (Or.inl ⟨by rfl, ?_⟩) hHeld ?_ ?_
      rotate_left
      · rintro w' ⟨s0, s1, s2, s3, s4, s5, s6⟩
        go_simp
        with_reducible rfl
      rotate_left
      · simp only [Act.put, qA, q0, qS, i64_w, i32_w]
        rfl
      refine take_ (i := 10) (N := some 247) (v := ?_) (a' := ?_) #[true, true, true, true, true, true, true, true, true, true, true, true, true, false, true, true, false, true, false, true, true, false, true, true, false, true, true, false, false, false] rfl rfl (take_ofW HT_.out HW_.out (by kernel_rfl)) (fun _ _ _ h => h) (Or.inl ⟨by rfl, ?_⟩) hHeld ?_ ?_
      rotate_left
      · rintro w' ⟨s0, s1, s2, s3, s4, s5, s6⟩
        go_simp
        with_reducible rfl
      rotate_left
      · simp only [Act.put, qA, q0, qS, i64_w, i32_w]
        rfl
      refine take_ (i := 13) (N := some 250) (v := ?_) (a' := ?_) #[true, true, true, true, true, true, true, true, true, true, true, true, true, true, true, true, false, true, false, true, true, false, true, true, false, true, true, false, false, false] rfl rfl (take_ofW HT_.out HW_.out (by kernel_rfl)) (fun _ _ _ h => h) (Or.inl ⟨by rfl, ?_⟩) hHeld ?_ ?_
      rotate_left
      · rintro w' ⟨s0, s1, s2, s3, s4, s5, s6⟩
        go_simp
        with_reducible rfl
      rotate_left
      · simp only [Act.put, qA, q0, qS, i64_w, i32_w]
        rfl
      refine take_ (i := 16) (N := some 253) (v := ?_) (a' := ?_) #[true, true, true, true, true, true, true, true, true, true, true, true, true, true, true, true, true, true, false, true, true, false, true, true, false, true, true, false, false, false] rfl rfl (take_ofW HT_.out HW_.out (by kernel_rfl)) (fun _ _ _ h => h) (Or.inl ⟨by rfl, ?_⟩) hHeld ?_ ?_
      rotate_left
      · rintro w' ⟨s0, s1, s2, s3, s4, s5, s6⟩
        go_simp
        with_reducible rfl
      rotate_left
      · simp only [Act.put, qA, q0, qS, i64_w, i32_w]
        rfl
      refine pure_ (i := 18) (N := some 255) (v := ?_) (a' := ?_) #[true, true, true, true, true, true, true, true, true, true, true, true, true, true, true, true, true, true, true, true, true, false, true, true, false, true, true, false, false, false] rfl rfl (any_of HT_.out (by kernel_rfl)) (fun _ _ _ h => h) (Or.inl ⟨by rfl, ?_⟩) ?_ ?_
      rotate_left
      · intro w'
        go_simp
        with_reducible rfl
      rotate_left
      · simp only [Act.put, qA, q0, qS, i64_w, i32_w]
        rfl
      refine take_ (i := 21) (N := some 258) (v := ?_) (a' := ?_) #[true, true, true, true, true, true, true, true, true, true, true, true, true, true, true, true, true, true, true, true, true, true, true, true, false, true, true, false, false, false] rfl rfl (take_ofW HT_.out HW_.out (by kernel_rfl)) (fun _ _ _ h => h) (Or.inl ⟨by rfl, ?_⟩) hHeld ?_ ?_
      rotate_left
      · rintro w' ⟨s0, s1, s2, s3, s4, s5, s6⟩
        go_simp
        with_reducible rfl
      rotate_left
      · simp only [Act.put, qA, q0, qS, i64_w, i32_w]
        rfl
      refine take_ (i := 24) (N := some 261) (v := ?_) (a' := ?_) #[true, true, true, true, true, true, true, true, true, true, true, true, true, true, true, true, true, true, true, true, true, true, true, true, true, true, true, false, false, false] rfl rfl (take_ofW HT_.out HW_.out (by kernel_rfl)) (fun _ _ _ h => h) (Or.inl ⟨by rfl, ?_⟩) hHeld ?_ ?_
      rotate_left
      · rintro w' ⟨s0, s1, s2, s3, s4, s5, s6⟩
        go_simp
        with_reducible rfl
      rotate_left
      · simp only [Act.put, qA, q0, qS, i64_w, i32_w]
        rfl
      refine take_ (i := 27) (N := some 264) (v := ?_) (a' := ?_) #[true, true, true, true, true, true, true, true, true, true, true, true, true, true, true, true, true, true, true, true, true, true, true, true, true, true, true, true, false, false] rfl rfl (take_ofW HT_.out HW_.out (by kernel_rfl)) (fun _ _ _ h => h) (Or.inl ⟨by rfl, ?_⟩) hHeld ?_ ?_
      rotate_left
      · rintro w' ⟨s0, s1, s2, s3, s4, s5, s6⟩
        go_simp
        with_reducible rfl
      rotate_left
      · simp only [Act.put, qA, q0, qS, i64_w, i32_w]
        rfl
      refine one_valueS (w1 := ?_) (v := ?_) (i := 28) (N := some 265) #[true, true, true, true, true, true, true, true, true, true, true, true, true, true, true, true, true, true, true, true, true, true, true, true, true, true, true, true, true, false] rfl rfl (one_of HT_.out (by kernel_rfl)) (by decide) (by rfl) ?_ ?_
      rotate_left 2
      · go_simp
        constructor
        · rfl
        · rfl
      refine and_held ⟨HA0.out ▸ (HX.out.step (below_alloc (Below.refl _ _) _)).get 0 (by decide), HA1.out ▸ (HX.out.step (below_alloc (Below.refl _ _) _)).get 1 (by decide), HA2.out ▸ (HX.out.step (below_alloc (Below.refl _ _) _)).get 2 (by decide), HA3.out ▸ (HX.out.step (below_alloc (Below.refl _ _) _)).get 3 (by decide), HA4.out ▸ (HX.out.step (below_alloc (Below.refl _ _) _)).get 4 (by decide), HA5.out ▸ (HX.out.step (below_alloc (Below.refl _ _) _)).get 5 (by decide), HA6.out ▸ (HX.out.step (below_alloc (Below.refl _ _) _)).get 6 (by decide)⟩ (fun hHeld => ?_)
      refine norm_ (a' := ?_) ?_ ?_
      rotate_left
      · show Act.put _ (some 265) _ = _
        simp only [Act.put, qA, q0, qS, i64_w, i32_w]
        rfl
      refine pure_ (i := 29) (N := some 16) (v := ?_) (a' := ?_) #[true, true, true, true, true, true, true, true, true, true, true, true, true, true, true, true, true, true, true, true, true, true, true, true, true, true, true, true, true, true] rfl rfl (any_of HT_.out (by kernel_rfl)) (fun _ _ _ h => h) (Or.inl ⟨by rfl, ?_⟩) ?_ ?_
      rotate_left
      · intro w'
        go_simp
        with_reducible rfl
      rotate_left
      · simp only [Act.put, qA, q0, qS, i64_w, i32_w]
        rfl
      refine done_ (done_of HT_.out (by kernel_rfl)) ?_
      refine hQQ _ _ ?_
      clear hQQ QQ
      refine hK4 _ _ ?_
      clear hK4 K4
      have qk : IntKind.i64.wrap ((k : Int) + 1) = ((k + 1 : Nat) : Int) := by rw [IntKind.wrap_i64]; omega
      clear hk3
      refine wp_region_lit ?_
      refine wpList_plain rfl (fun K hK => ?_); go_simp; refine hK _ _ ?_; clear hK K
      refine wpList_plain rfl (fun K hK => ?_); go_simp; refine hK _ _ ?_; clear hK K
      refine wpList_nil ?_
      refine absG (R := Exit.then _ _ Exit.normal) (fun T10_ hT => ?_)
      have hsT10_ : T10_.size = 300 := by rw [hT]; simp only [Array.size_setIfInBounds]; exact hsT9_
      have fT10__3 : T10_[3]? = _ := (congrArg (fun X_ : Array Value => X_[3]?) hT).trans (gq_ne (d := 146) (by decide) (gq_ne (d := 266) (by decide) (gq_ne (d := 16) (by decide) (gq_ne (d := 265) (by decide) (gq_ne (d := 264) (by decide) (gq_ne (d := 261) (by decide) (gq_ne (d := 258) (by decide) (gq_ne (d := 255) (by decide) (gq_ne (d := 253) (by decide) (gq_ne (d := 250) (by decide) (gq_ne (d := 247) (by decide) (gq_ne (d := 244) (by decide) (gq_ne (d := 263) (by decide) (gq_ne (d := 262) (by decide) (gq_ne (d := 260) (by decide) (gq_ne (d := 259) (by decide) (gq_ne (d := 257) (by decide) (gq_ne (d := 256) (by decide) (gq_ne (d := 254) (by decide) (gq_ne (d := 252) (by decide) (gq_ne (d := 251) (by decide) (gq_ne (d := 249) (by decide) (gq_ne (d := 248) (by decide) (gq_ne (d := 246) (by decide) (gq_ne (d := 245) (by decide) (gq_ne (d := 243) (by decide) (gq_ne (d := 242) (by decide) (gq_ne (d := 241) (by decide) (gq_ne (d := 240) (by decide) (gq_ne (d := 239) (by decide) (gq_ne (d := 238) (by decide) (gq_ne (d := 237) (by decide) (fT9__3)))))))))))))))))))))))))))))))))
      have fT10__4 : T10_[4]? = _ := (congrArg (fun X_ : Array Value => X_[4]?) hT).trans (gq_ne (d := 146) (by decide) (gq_ne (d := 266) (by decide) (gq_ne (d := 16) (by decide) (gq_ne (d := 265) (by decide) (gq_ne (d := 264) (by decide) (gq_ne (d := 261) (by decide) (gq_ne (d := 258) (by decide) (gq_ne (d := 255) (by decide) (gq_ne (d := 253) (by decide) (gq_ne (d := 250) (by decide) (gq_ne (d := 247) (by decide) (gq_ne (d := 244) (by decide) (gq_ne (d := 263) (by decide) (gq_ne (d := 262) (by decide) (gq_ne (d := 260) (by decide) (gq_ne (d := 259) (by decide) (gq_ne (d := 257) (by decide) (gq_ne (d := 256) (by decide) (gq_ne (d := 254) (by decide) (gq_ne (d := 252) (by decide) (gq_ne (d := 251) (by decide) (gq_ne (d := 249) (by decide) (gq_ne (d := 248) (by decide) (gq_ne (d := 246) (by decide) (gq_ne (d := 245) (by decide) (gq_ne (d := 243) (by decide) (gq_ne (d := 242) (by decide) (gq_ne (d := 241) (by decide) (gq_ne (d := 240) (by decide) (gq_ne (d := 239) (by decide) (gq_ne (d := 238) (by decide) (gq_ne (d := 237) (by decide) (fT9__4)))))))))))))))))))))))))))))))))
      have fT10__6 : T10_[6]? = _ := (congrArg (fun X_ : Array Value => X_[6]?) hT).trans (gq_ne (d := 146) (by decide) (gq_ne (d := 266) (by decide) (gq_ne (d := 16) (by decide) (gq_ne (d := 265) (by decide) (gq_ne (d := 264) (by decide) (gq_ne (d := 261) (by decide) (gq_ne (d := 258) (by decide) (gq_ne (d := 255) (by decide) (gq_ne (d := 253) (by decide) (gq_ne (d := 250) (by decide) (gq_ne (d := 247) (by decide) (gq_ne (d := 244) (by decide) (gq_ne (d := 263) (by decide) (gq_ne (d := 262) (by decide) (gq_ne (d := 260) (by decide) (gq_ne (d := 259) (by decide) (gq_ne (d := 257) (by decide) (gq_ne (d := 256) (by decide) (gq_ne (d := 254) (by decide) (gq_ne (d := 252) (by decide) (gq_ne (d := 251) (by decide) (gq_ne (d := 249) (by decide) (gq_ne (d := 248) (by decide) (gq_ne (d := 246) (by decide) (gq_ne (d := 245) (by decide) (gq_ne (d := 243) (by decide) (gq_ne (d := 242) (by decide) (gq_ne (d := 241) (by decide) (gq_ne (d := 240) (by decide) (gq_ne (d := 239) (by decide) (gq_ne (d := 238) (by decide) (gq_ne (d := 237) (by decide) (fT9__6)))))))))))))))))))))))))))))))))
      have fT10__8 : T10_[8]? = _ := (congrArg (fun X_ : Array Value => X_[8]?) hT).trans (gq_ne (d := 146) (by decide) (gq_ne (d := 266) (by decide) (gq_ne (d := 16) (by decide) (gq_ne (d := 265) (by decide) (gq_ne (d := 264) (by decide) (gq_ne (d := 261) (by decide) (gq_ne (d := 258) (by decide) (gq_ne (d := 255) (by decide) (gq_ne (d := 253) (by decide) (gq_ne (d := 250) (by decide) (gq_ne (d := 247) (by decide) (gq_ne (d := 244) (by decide) (gq_ne (d := 263) (by decide) (gq_ne (d := 262) (by decide) (gq_ne (d := 260) (by decide) (gq_ne (d := 259) (by decide) (gq_ne (d := 257) (by decide) (gq_ne (d := 256) (by decide) (gq_ne (d := 254) (by decide) (gq_ne (d := 252) (by decide) (gq_ne (d := 251) (by decide) (gq_ne (d := 249) (by decide) (gq_ne (d := 248) (by decide) (gq_ne (d := 246) (by decide) (gq_ne (d := 245) (by decide) (gq_ne (d := 243) (by decide) (gq_ne (d := 242) (by decide) (gq_ne (d := 241) (by decide) (gq_ne (d := 240) (by decide) (gq_ne (d := 239) (by decide) (gq_ne (d := 238) (by decide) (gq_ne (d := 237) (by decide) (fT9__8)))))))))))))))))))))))))))))))))
      have fT10__9 : T10_[9]? = _ := (congrArg (fun X_ : Array Value => X_[9]?) hT).trans (gq_ne (d := 146) (by decide) (gq_ne (d := 266) (by decide) (gq_ne (d := 16) (by decide) (gq_ne (d := 265) (by decide) (gq_ne (d := 264) (by decide) (gq_ne (d := 261) (by decide) (gq_ne (d := 258) (by decide) (gq_ne (d := 255) (by decide) (gq_ne (d := 253) (by decide) (gq_ne (d := 250) (by decide) (gq_ne (d := 247) (by decide) (gq_ne (d := 244) (by decide) (gq_ne (d := 263) (by decide) (gq_ne (d := 262) (by decide) (gq_ne (d := 260) (by decide) (gq_ne (d := 259) (by decide) (gq_ne (d := 257) (by decide) (gq_ne (d := 256) (by decide) (gq_ne (d := 254) (by decide) (gq_ne (d := 252) (by decide) (gq_ne (d := 251) (by decide) (gq_ne (d := 249) (by decide) (gq_ne (d := 248) (by decide) (gq_ne (d := 246) (by decide) (gq_ne (d := 245) (by decide) (gq_ne (d := 243) (by decide) (gq_ne (d := 242) (by decide) (gq_ne (d := 241) (by decide) (gq_ne (d := 240) (by decide) (gq_ne (d := 239) (by decide) (gq_ne (d := 238) (by decide) (gq_ne (d := 237) (by decide) (fT9__9)))))))))))))))))))))))))))))))))
      have fT10__10 : T10_[10]? = _ := (congrArg (fun X_ : Array Value => X_[10]?) hT).trans (gq_ne (d := 146) (by decide) (gq_ne (d := 266) (by decide) (gq_ne (d := 16) (by decide) (gq_ne (d := 265) (by decide) (gq_ne (d := 264) (by decide) (gq_ne (d := 261) (by decide) (gq_ne (d := 258) (by decide) (gq_ne (d := 255) (by decide) (gq_ne (d := 253) (by decide) (gq_ne (d := 250) (by decide) (gq_ne (d := 247) (by decide) (gq_ne (d := 244) (by decide) (gq_ne (d := 263) (by decide) (gq_ne (d := 262) (by decide) (gq_ne (d := 260) (by decide) (gq_ne (d := 259) (by decide) (gq_ne (d := 257) (by decide) (gq_ne (d := 256) (by decide) (gq_ne (d := 254) (by decide) (gq_ne (d := 252) (by decide) (gq_ne (d := 251) (by decide) (gq_ne (d := 249) (by decide) (gq_ne (d := 248) (by decide) (gq_ne (d := 246) (by decide) (gq_ne (d := 245) (by decide) (gq_ne (d := 243) (by decide) (gq_ne (d := 242) (by decide) (gq_ne (d := 241) (by decide) (gq_ne (d := 240) (by decide) (gq_ne (d := 239) (by decide) (gq_ne (d := 238) (by decide) (gq_ne (d := 237) (by decide) (fT9__10)))))))))))))))))))))))))))))))))
      have fT10__16 : T10_[16]? = _ := (congrArg (fun X_ : Array Value => X_[16]?) hT).trans (gq_ne (d := 146) (by decide) (gq_ne (d := 266) (by decide) (gq_eq (i := 16) (by simp only [Array.size_setIfInBounds, hsT9_]; decide))))
      have fT10__146 : T10_[146]? = _ := (congrArg (fun X_ : Array Value => X_[146]?) hT).trans (gq_eq (i := 146) (by simp only [Array.size_setIfInBounds, hsT9_]; decide))
      clear hT
      clear fT9__3 tT9__3 fT9__4 tT9__4 fT9__6 tT9__6 fT9__8 tT9__8 fT9__9 tT9__9 fT9__10 tT9__10 fT9__16 tT9__16 fT9__146 tT9__146 fT9__20 tT9__20 fT9__21 tT9__21 fT9__22 tT9__22 hsT9_
      have tT10__3 := gat hsT10_ (by decide) fT10__3
      have tT10__4 := gat hsT10_ (by decide) fT10__4
      have tT10__6 := gat hsT10_ (by decide) fT10__6
      have tT10__8 := gat hsT10_ (by decide) fT10__8
      have tT10__9 := gat hsT10_ (by decide) fT10__9
      have tT10__10 := gat hsT10_ (by decide) fT10__10
      have tT10__16 := gat hsT10_ (by decide) fT10__16
      have tT10__146 := gat hsT10_ (by decide) fT10__146
      refine ⟨⟨_, k + 1, _, _, rfl, hsT10_, fT10__3, fT10__4, fT10__6, fT10__8, fT10__9, fT10__10, fT10__16, fT10__146, by omega, ⟨HW.out.step (below_dad _)⟩, ⟨by rw [rdI, ← HYS.out, rdS, ← HT1.out, ← HA0.out, ← HA1.out, ← HA2.out, ← HA3.out, ← HA4.out, ← HA5.out, ← HA6.out]; exact V8.newdd _ _ _ _ _ _ _ _ _⟩⟩, by show _ - (intOf (T10_[146]?.getD undef)).toNat < _ - (intOf (T2_[146]?.getD undef)).toNat; rw [fT10__146, fT2__146]; simp [intOf]; omega⟩
    · obtain rfl : k = 64 := by omega
      refine wp_seq_k (fun K11 hK11 => ?_)
      refine wp_region_lit ?_
      refine wpList_plain rfl (fun K hK => ?_); go_simp; refine hK _ _ ?_; clear hK K
      refine wpList_nil ?_
      refine hK11 _ _ ?_
      clear hK11 K11
      refine absR (fun T11_ hT => ?_)
      have hsT11_ : T11_.size = 300 := by rw [hT]; simp only [Array.size_setIfInBounds]; exact hsT2_
      have fT11__3 : T11_[3]? = _ := (congrArg (fun X_ : Array Value => X_[3]?) hT).trans (gq_ne (d := 147) (by decide) (fT2__3))
      have fT11__4 : T11_[4]? = _ := (congrArg (fun X_ : Array Value => X_[4]?) hT).trans (gq_ne (d := 147) (by decide) (fT2__4))
      have fT11__6 : T11_[6]? = _ := (congrArg (fun X_ : Array Value => X_[6]?) hT).trans (gq_ne (d := 147) (by decide) (fT2__6))
      have fT11__8 : T11_[8]? = _ := (congrArg (fun X_ : Array Value => X_[8]?) hT).trans (gq_ne (d := 147) (by decide) (fT2__8))
      have fT11__9 : T11_[9]? = _ := (congrArg (fun X_ : Array Value => X_[9]?) hT).trans (gq_ne (d := 147) (by decide) (fT2__9))
      have fT11__10 : T11_[10]? = _ := (congrArg (fun X_ : Array Value => X_[10]?) hT).trans (gq_ne (d := 147) (by decide) (fT2__10))
      have fT11__16 : T11_[16]? = _ := (congrArg (fun X_ : Array Value => X_[16]?) hT).trans (gq_ne (d := 147) (by decide) (fT2__16))
      have fT11__147 : T11_[147]? = _ := (congrArg (fun X_ : Array Value => X_[147]?) hT).trans (gq_eq (i := 147) (by simp only [Array.size_setIfInBounds, hsT2_]; decide))
      clear hT
      clear tT2__3 tT2__4 tT2__6 tT2__8 tT2__9 tT2__10 tT2__16 tT2__146
      have tT11__3 := gat hsT11_ (by decide) fT11__3
      have tT11__4 := gat hsT11_ (by decide) fT11__4
      have tT11__6 := gat hsT11_ (by decide) fT11__6
      have tT11__8 := gat hsT11_ (by decide) fT11__8
      have tT11__9 := gat hsT11_ (by decide) fT11__9
      have tT11__10 := gat hsT11_ (by decide) fT11__10
      have tT11__16 := gat hsT11_ (by decide) fT11__16
      have tT11__147 := gat hsT11_ (by decide) fT11__147
      refine wp_seq_k (fun K12 hK12 => ?_)
      refine wp_cond_false ((gev fT11__147).trans (congrArg Value.bool (by first | rfl | (simp; omega) | (simp; done)))) ?_
      refine wp_exit ?_
      exact HQ.out _ _ _ _ hsT11_ fT11__3 fT11__4 fT11__6 fT11__8 fT11__9 fT11__16 HS4 HV4
end Go.Proofs.Ytlnknihjccdgkaa.M
