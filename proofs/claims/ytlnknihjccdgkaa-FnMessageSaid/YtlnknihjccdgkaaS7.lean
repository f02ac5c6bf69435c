/- The reference's SHA-256: the walk of Sum. -/
import Derived.Test.YtlnknihjccdgkaaS6
namespace Go.Proofs.Ytlnknihjccdgkaa.M
open Go.RowKit Go.Proofs.YtlnknihjccdgkaaW.PrintWords Go.Proofs.YtlnknihjccdgkaaW.PrintLast Go.Proofs.YtlnknihjccdgkaaW.PrintMore Go.Proofs.Ytlnknihjccdgkaa.PFnMessage
set_option linter.unusedVariables false
set_option linter.unusedSimpArgs false

/-! ### the plain function -/
/-- So many zeros stand behind the first 0x80. -/
def padN (n : Nat) : Nat := (119 - n % 64) % 64
def lenB (n : Nat) (i : Nat) : Int := (n : Int) * 8 / 2 ^ (56 - 8 * i) % 256
def msgL (l : List Int) : List Int := l ++ [128] ++ List.replicate (padN l.length) 0 ++ (List.range 8).map (lenB l.length)

/-- One block into the state. -/
def blkH (m : List Int) (at_ : Nat) (hs : List Int) : List Int := adI hs (rdI (exI (ldI m at_ 16) 48) hs 64) 8
def hst (m : List Int) : Nat → List Int
  | 0 => beginL
  | b + 1 => blkH m (64 * b) (hst m b)
theorem hst_len (m : List Int) : ∀ b, (hst m b).length = 8
  | 0 => rfl
  | b + 1 => by rw [hst, blkH, adI_len, hst_len]
/-- The sum of a text. -/
def sumF (l : List Int) : List Int := outL (hst (msgL l) ((msgL l).length / 64)) 8
theorem sumF_len (l : List Int) : (sumF l).length = 32 := by rw [sumF, outL_len]
theorem V8.of_R {W : World} {base : Nat} {ok : Nat → Prop} {v : Value} {xs : List Int} (h : Kd.R (Kd.int .u32) 50 W base ok v xs) (h8 : xs.length = 8) : ∃ gv cv, v = .slice (some ⟨gv, 0, none⟩) 8 cv ∧ V8 W gv xs := by
  obtain ⟨inner, ho⟩ := Kd.R_own h
  rcases ho.2 with ⟨_, h0⟩ | ⟨g, cap, cur, hv, hb, hg, _⟩
  · omega
  · subst hv
    rw [h8] at h
    refine ⟨g, cap, by rw [h8], cur, hg, ?_⟩
    intro i hi
    have := (Kd.R_celln (0 : Int) h (i : Int) (by omega) (by omega)).1
    rw [← blk_cell hg i]
    simpa [rdOf] using this
/-- The state as a slice. -/
theorem rdW {W : World} {g : Nat} {hs : List Int} (h : W.heap[g]? = some (.cells (nums .u32 hs).toArray 51 (0, 0))) (h8 : hs.length = 8) : Kd.C (Kd.int .u32) W (some ⟨g, 0, none⟩) 8 hs := by
  refine C_of_ints ⟨h8, by show (8 : Nat) ≤ _; decide, fun _ => ⟨_, rfl, ?_⟩⟩
  intro j hj
  have e : Addr.add ⟨g, 0, none⟩ j = ⟨g, j, none⟩ := by simp [Addr.add]; intro h; exact h.symm
  rw [e, blk_cell h]
  exact nums_get (by omega)
theorem w_append {P : Program} {ops : Array Oper} {rest : List Oper} {o : Oper} {a : Act} {Q : Exit → Act → World → Prop} {W : World} {g : Nat} {hs : List Int} (hP : P = Try.prog) (hgd : o.guard = none) (x : Operand) (ho : o.op = .call { callee := .builtin .append, args := #[.const (.slice none 0 0), x], argTypes := #[57, 57] })
    (hx : a.eval x = .slice (some ⟨g, 0, none⟩) 8 8) (hg : W.heap[g]? = some (.cells (nums .u32 hs).toArray 51 (0, 0))) (h8 : hs.length = 8)
    (h : ∀ gv cv w1, V8 w1 gv hs → Below W.heap.size W w1 → wpList P ops Q rest (a.put o.dst (.slice (some ⟨gv, 0, none⟩) 8 cv)) w1) : wpList P ops Q (o :: rest) a W := by
  subst hP
  exact Kd.R_append_rows (Kd.int .u32) (w0 := W) W.heap.size hgd (.const (.slice none 0 0)) x 57 50 (.int .u32 0) 4 ho Try.underlying57 (by kernel_rfl) rfl (by decide) (by omega) (.slice none 0 0) [] hs _ 8 8 (fun k => W.heap.size ≤ k) (fun _ => False) rfl hx (Kd.R_nil _ _ _ _ _) (rdW hg h8) (fun _ _ h => h) (fun _ h => h.elim)
    (fun k h => h) (Below.refl _ _) (Nat.le_refl _) (by simp) fun v1 w1 h1 h2 h3 _ => by
      obtain ⟨gv, cv, rfl, hv⟩ := V8.of_R (xs := [] ++ hs) h1 (by simpa using h8)
      exact h gv cv w1 hv h2

def su23.T : Bool × List (List Nat × List Nat) := (true, [([], []), ([], []), ([1], [1]), ([2], [2]), ([3], [3]), ([], []), ([], []), ([], []), ([7], [7]), ([6, 8], [6, 8]), ([], []), ([9, 10], [9, 10]), ([5, 11], [5, 11]), ([12], [12]), ([13], [13]), ([4, 14], [4, 14]), ([0, 0, 1, 2, 3, 4, 5, 6, 7, 8, 9, 10, 11, 12, 13, 14, 15], [0]), ([16, 15, 0, 1, 2, 3, 4, 5, 6, 7, 8, 9, 10, 11, 12, 13, 14, 15], [15, 16])])
def su23.B : List Nat := [0, 0, 2, 6, 14, 0, 0, 0, 128, 448, 0, 1984, 4064, 8160, 16352, 32766, 65535, 131071]
theorem su23.tab : rtab .any (opsOf Try.f9 23) = su23.T := by kernel_rfl
theorem su23.bits : waitsOk su23.T.2 su23.B = true := by kernel_rfl
set_option maxHeartbeats 8000000 in
set_option maxRecDepth 1000000 in
theorem sum_c (A : Option Addr) (l : List Int) (c : Nat) (w : World) (hr : RdB w (.slice A l.length c) l) (hl : l.length < 2 ^ 40) :
    Calls Try.prog 9 #[.slice A l.length c] w (Chain w (sumF l)) := by
  have HR := Aside0.mk hr
  have HL := Aside0.mk hl
  clear hr hl
  go_enter Try.func9, Try.ntmps9
  go_wp2_with fail
  refine (begin_c w).mono ?_
  rintro e w1 ⟨rfl, hb⟩
  have HB1 := Aside0.mk hb
  clear hb
  go_wp2_with (first | ((with_reducible refine gate_dst (N := 3) rfl ?_); refine box_event rfl (N := 3) rfl (cs := (nums .u32 (List.replicate 8 0)).toArray) (t := 51) (by kernel_rfl) ?_; intro gh hg w2 hbox hb; have HG := Aside0.mk hg; have HK := Aside0.mk hbox; have HB := Aside0.mk hb; clear hg hbox hb) | (refine store_row_event rfl 51 (.tmp 3) (.tmp 27) rfl rfl gh (nums .u32 beginL).toArray rfl rfl 51 _ HK.out (by kernel_rfl) rfl (nums_one _ _) ?_; intro w3 h2 hk2 hb2; have KH := Aside0.mk h2; have HB2 := Aside0.mk hb2; clear h2 hk2 hb2) | fail)
  have HB3 := Aside0.mk (below_row HB1.out HG.out HB.out HB2.out)
  have HGH := Aside0.mk (show w.heap.size ≤ gh from by rw [HG.out]; exact HB1.out.size)
  clear HB1 HB HB2 HK HG
  refine (rounds_c w3).mono ?_
  rintro e w4 ⟨rfl, hb⟩
  have HB4 := Aside0.mk (below_step HB3.out hb)
  have KH4 := Aside0.mk (blk_below KH.out hb)
  clear hb KH HB3
  go_wp2_with (first | ((with_reducible refine gate_dst (N := 4) rfl ?_); refine box_event rfl (N := 4) rfl (cs := (nums .u32 (List.replicate 64 0)).toArray) (t := 53) (by kernel_rfl) ?_; intro gk hg w5 hbox hb; have HG := Aside0.mk hg; have HK := Aside0.mk hbox; have HB := Aside0.mk hb; clear hg hbox hb) | (refine store_row_event rfl 53 (.tmp 4) (.tmp 28) rfl rfl gk (nums .u32 roundsL).toArray rfl rfl 53 _ HK.out (by kernel_rfl) rfl (nums_one _ _) ?_; intro w6 h2 hk2 hb2; have KK := Aside0.mk h2; have HM := Aside0.mk (below_row HB4.out HG.out HB.out hb2); have KH := Aside0.mk (hk2.2 gh (by have := blk_lt KH4.out; have := HB.out.size; omega) (by rintro rfl; have := blk_lt KH4.out; have := HG.out; omega) (by simp) |>.trans (blk_below KH4.out HB.out)); clear h2 hk2 hb2 HG HK HB HB4 KH4) | ((with_reducible refine gate_builtin (b := .append) (xs := #[.const (.slice none 0 0), .tmp 31]) rfl ?_); at_builtin; refine own_appendN (w0 := w) rfl (.const (.slice none 0 0)) (.tmp 31) rfl (.slice none 0 0) (.slice A l.length c) [] l rfl rfl ⟨Kd.R_nil _ _ _ _ _, HM.out⟩ (HR.out.below HM.out) (by have := HL.out; simp; omega) ?_; intro v1 w7 ho hoth; have HO := Aside0.mk ho; have HT := Aside0.mk hoth; clear ho hoth) | ((with_reducible refine gate_builtin (b := .append) (xs := #[.tmp 32, .tmp 33]) rfl ?_); at_builtin; refine own_append1 (w0 := w) rfl (.tmp 32) (.tmp 33) rfl v1 l 128 rfl rfl HO.out (by have := HL.out; omega) ?_; intro v2 w8 ho hoth; have HO2 := Aside0.mk ho; have HT2 := Aside0.mk hoth; clear ho hoth) | fail)
  have hgh : w.heap.size ≤ gh := HGH.out
  have HGH2 := Aside0.mk hgh
  clear hgh
  have KH8 := Aside0.mk (HT2.out gh _ _ (by decide) (HT.out gh _ _ (by decide) KH.out))
  have KK8 := Aside0.mk (HT2.out gk _ _ (by decide) (HT.out gk _ _ (by decide) KK.out))
  clear HM KH KK HT HT2 HO HR
  have hpn : padN l.length < 64 := Nat.mod_lt _ (by omega)
  have HPN := Aside0.mk hpn
  clear hpn
  go_loopw [6] (fun v W => ∃ z, z ≤ padN l.length ∧ Aside0 (Own w W v (l ++ [128] ++ List.replicate z 0)) ∧ Aside0 (W.heap[gh]? = some (.cells (nums .u32 beginL).toArray 51 (0, 0))) ∧ Aside0 (W.heap[gk]? = some (.cells (nums .u32 roundsL).toArray 53 (0, 0)))) (fun v W => padN l.length + l.length + 1 - slen v)
  case atStart => exact ⟨0, Nat.zero_le _, ⟨HO2.out.of_eq (by simp)⟩, KH8, KK8⟩
  case round =>
    clear HO2 KH8 KK8
    obtain ⟨z, hz, HO, KH, KK⟩ := hrel
    obtain ⟨m, hm⟩ : ∃ m, m = l ++ [128] ++ List.replicate z 0 := ⟨_, rfl⟩
    have hml : m.length = l.length + 1 + z := by rw [hm]; simp; omega
    rw [← hm] at HO
    have HMm := Aside0.mk hm
    have HML := Aside0.mk hml
    clear hm hml
    obtain ⟨A6, c6, e6, hc6⟩ := HO.out.drewn
    subst e6
    have hpd : padN l.length = (119 - l.length % 64) % 64 := rfl
    by_cases hlt : z < padN l.length
    · have hmod : ¬ m.length % 64 = 56 := by have := HML.out; omega
      have ht1 : ((m.length : Int) % 64 == 56) = false := by rw [beq_eq_false_iff_ne]; omega
      have ht2 : ((m.length : Int) % 64 != 56) = true := by rw [bne_iff_ne]; omega
      have HLT := Aside0.mk hlt
      have HZ := Aside0.mk hz
      clear hmod hpd hlt hz hc6
      go_wp2_with (first | ((with_reducible refine gate_builtin (b := .append) (xs := #[.tmp 39, .tmp 40]) rfl ?_); at_builtin; refine own_append1 (w0 := w) rfl (.tmp 39) (.tmp 40) rfl (.slice A6 m.length c6) m 0 rfl rfl HO.out (by have := HL.out; have := HML.out; have := HPN.out; have := HZ.out; omega) ?_; intro v3 w9 ho hoth; have HO3 := Aside0.mk ho; have HT3 := Aside0.mk hoth; clear ho hoth) | fail)
      go_roundw
      case rel => exact ⟨z + 1, HLT.out, ⟨HO3.out.of_eq (by rw [HMm.out]; simp [List.replicate_succ'])⟩, ⟨HT3.out gh _ _ (by decide) KH.out⟩, ⟨HT3.out gk _ _ (by decide) KK.out⟩⟩
      case measure =>
        obtain ⟨A7, c7, e7, _⟩ := HO3.out.drewn
        have := HML.out
        have := HLT.out
        simp [e7, slen]
        omega
    · obtain rfl : z = padN l.length := by omega
      have hmod : m.length % 64 = 56 := by have := HML.out; omega
      have ht1 : ((m.length : Int) % 64 == 56) = true := by rw [beq_iff_eq]; omega
      have ht2 : ((m.length : Int) % 64 != 56) = false := by rw [bne_eq_false_iff_eq]; omega
      clear hmod hpd hlt hz hc6
      go_wp2_with fail
      go_loopw [6, 42] (fun v i W => ∃ k : Nat, k ≤ 8 ∧ i = .int .i64 k ∧ Aside0 (Own w W v (m ++ (List.range k).map (lenB l.length))) ∧ Aside0 (W.heap[gh]? = some (.cells (nums .u32 beginL).toArray 51 (0, 0))) ∧ Aside0 (W.heap[gk]? = some (.cells (nums .u32 roundsL).toArray 53 (0, 0)))) (fun _ i _ => 8 - (intOf i).toNat)
      case atStart => exact ⟨0, by omega, rfl, ⟨HO.out.of_eq (by simp)⟩, KH, KK⟩
      case round =>
        clear HO KH KK
        obtain ⟨k, hk, rfl, HO, KH, KK⟩ := hrel
        obtain ⟨m2, hm2⟩ : ∃ m2, m2 = m ++ (List.range k).map (lenB l.length) := ⟨_, rfl⟩
        rw [← hm2] at HO
        have HM2 := Aside0.mk hm2
        have HML2 := Aside0.mk (show m2.length = m.length + k from by rw [hm2]; simp)
        clear hm2
        have hl40 : l.length < 1099511627776 := by have := HL.out; omega
        by_cases hlt : k < 8
        · have hs : 0 ≤ 56 - 8 * (k : Int) := by omega
          have HK8 := Aside0.mk hlt
          clear hlt
          go_wp2_with (first | ((with_reducible refine gate_builtin (b := .append) (xs := #[.tmp 45, .tmp 53]) rfl ?_); at_builtin; refine own_append1 (w0 := w) rfl (.tmp 45) (.tmp 53) rfl u6 m2 (lenB l.length k) rfl rfl HO.out (by have := HL.out; have := HML.out; have := HPN.out; have := HML2.out; omega) ?_; intro v3 w9 ho hoth; have HO3 := Aside0.mk ho; have HT3 := Aside0.mk hoth; clear ho hoth) | fail)
          go_roundw
          case rel => exact ⟨k + 1, by have := HK8.out; omega, by go_num, ⟨HO3.out.of_eq (by rw [HM2.out, List.range_succ]; simp)⟩, ⟨HT3.out gh _ _ (by decide) KH.out⟩, ⟨HT3.out gk _ _ (by decide) KK.out⟩⟩
          case measure => have := HK8.out; simp [intOf]; omega
        · obtain rfl : k = 8 := by omega
          have HMsg := Aside0.mk (show m2 = msgL l from by rw [HM2.out, HMm.out]; rfl)
          have HMb := Aside0.mk (show m2.length = l.length + padN l.length + 9 from by rw [HML2.out, HML.out]; omega)
          clear hk hlt HM2 HMm HML HML2 hl40
          go_wp2_with fail
          rename_i KX hKX
          have HN := Aside0.mk (show m2.length % 64 = 0 from by have := HMb.out; simp only [padN] at this; omega)
          refine absR (fun T0_ hT => ?_)
          have hsT0_ : T0_.size = 300 := by rw [hT]; rfl
          have fT0__3 : T0_[3]? = _ := (congrArg (fun X_ : Array Value => X_[3]?) hT).trans rfl
          have fT0__4 : T0_[4]? = _ := (congrArg (fun X_ : Array Value => X_[4]?) hT).trans rfl
          have fT0__6 : T0_[6]? = _ := (congrArg (fun X_ : Array Value => X_[6]?) hT).trans rfl
          have fT0__8 : T0_[8]? = _ := (congrArg (fun X_ : Array Value => X_[8]?) hT).trans rfl
          have fT0__9 : T0_[9]? = _ := (congrArg (fun X_ : Array Value => X_[9]?) hT).trans rfl
          clear hT
          have tT0__3 := gat hsT0_ (by decide) fT0__3
          have tT0__4 := gat hsT0_ (by decide) fT0__4
          have tT0__6 := gat hsT0_ (by decide) fT0__6
          have tT0__8 := gat hsT0_ (by decide) fT0__8
          have tT0__9 := gat hsT0_ (by decide) fT0__9
          refine wp_loop (fun a W => ∃ (T : Array Value) (b : Nat), a = ⟨T, []⟩ ∧ T.size = 300 ∧ T[3]? = some (.pointer (some ⟨gh, 0, none⟩)) ∧ T[4]? = some (.pointer (some ⟨gk, 0, none⟩)) ∧ T[6]? = some (u6) ∧ T[8]? = some (.func (.func 23) #[] #[]) ∧ T[9]? = some (.int .i64 ((64 * b : Nat) : Int)) ∧ b * 64 ≤ m2.length ∧ Aside0 (Own w W u6 m2) ∧ Aside0 (W.heap[gh]? = some (.cells (nums .u32 (hst m2 b)).toArray 51 (0, 0))) ∧ Aside0 (W.heap[gk]? = some (.cells (nums .u32 roundsL).toArray 53 (0, 0)))) (fun a W => m2.length - (intOf (a.tmps[9]?.getD undef)).toNat) ?_ ?_
          · exact ⟨_, 0, rfl, hsT0_, fT0__3, fT0__4, fT0__6, fT0__8, fT0__9, by omega, HO, KH, KK⟩
          · rintro _ wr ⟨T1_, b, rfl, hsT1_, fT1__3, fT1__4, fT1__6, fT1__8, fT1__9, hb, HO1, KH1, KK1⟩
            have tT1__3 := gat hsT1_ (by decide) fT1__3
            have tT1__4 := gat hsT1_ (by decide) fT1__4
            have tT1__6 := gat hsT1_ (by decide) fT1__6
            have tT1__8 := gat hsT1_ (by decide) fT1__8
            have tT1__9 := gat hsT1_ (by decide) fT1__9
            clear HO KH KK
            obtain ⟨gm, cm, e6⟩ := HO1.out.form (by have := HMb.out; omega)
            subst e6
            obtain ⟨at_, hat⟩ : ∃ at_, at_ = 64 * b := ⟨_, rfl⟩
            rw [← hat] at fT1__9 tT1__9
            have HAT := Aside0.mk hat
            have HBB := Aside0.mk hb
            have hm40 : m2.length < 1099511627976 := by have := HMb.out; have := HL.out; have := HPN.out; omega
            by_cases hlt : at_ < m2.length
            · skip
              have HLT := Aside0.mk (show at_ + 64 ≤ m2.length from by have := HN.out; omega)
              have HM40 := Aside0.mk hm40
              clear hat hb
              refine wp_seq_k (fun K1 hK1 => ?_)
              refine wp_seq_k (fun K2 hK2 => ?_)
              refine wp_region_lit ?_
              refine wpList_plain rfl (fun K hK => ?_); go_simp; refine hK _ _ ?_; clear hK K
              refine wpList_plain rfl (fun K hK => ?_); go_simp; refine hK _ _ ?_; clear hK K
              refine wpList_plain rfl (fun K hK => ?_); go_simp; refine hK _ _ ?_; clear hK K
              refine wpList_plain rfl (fun K hK => ?_); go_simp; refine hK _ _ ?_; clear hK K
              refine wpList_nil ?_
              refine hK2 _ _ ?_
              clear hK2 K2
              refine absR (fun T2_ hT => ?_)
              have hsT2_ : T2_.size = 300 := by rw [hT]; simp only [Array.size_setIfInBounds]; exact hsT1_
              have fT2__3 : T2_[3]? = _ := (congrArg (fun X_ : Array Value => X_[3]?) hT).trans (gq_ne (d := 59) (by decide) (gq_ne (d := 58) (by decide) (gq_ne (d := 57) (by decide) (gq_ne (d := 56) (by decide) (fT1__3)))))
              have fT2__4 : T2_[4]? = _ := (congrArg (fun X_ : Array Value => X_[4]?) hT).trans (gq_ne (d := 59) (by decide) (gq_ne (d := 58) (by decide) (gq_ne (d := 57) (by decide) (gq_ne (d := 56) (by decide) (fT1__4)))))
              have fT2__6 : T2_[6]? = _ := (congrArg (fun X_ : Array Value => X_[6]?) hT).trans (gq_ne (d := 59) (by decide) (gq_ne (d := 58) (by decide) (gq_ne (d := 57) (by decide) (gq_ne (d := 56) (by decide) (fT1__6)))))
              have fT2__8 : T2_[8]? = _ := (congrArg (fun X_ : Array Value => X_[8]?) hT).trans (gq_ne (d := 59) (by decide) (gq_ne (d := 58) (by decide) (gq_ne (d := 57) (by decide) (gq_ne (d := 56) (by decide) (fT1__8)))))
              have fT2__9 : T2_[9]? = _ := (congrArg (fun X_ : Array Value => X_[9]?) hT).trans (gq_ne (d := 59) (by decide) (gq_ne (d := 58) (by decide) (gq_ne (d := 57) (by decide) (gq_ne (d := 56) (by decide) (fT1__9)))))
              have fT2__59 : T2_[59]? = _ := (congrArg (fun X_ : Array Value => X_[59]?) hT).trans (gq_eq (i := 59) (by simp only [Array.size_setIfInBounds, hsT1_]; decide))
              clear hT
              clear tT1__3 tT1__4 tT1__6 tT1__8 tT1__9
              have tT2__3 := gat hsT2_ (by decide) fT2__3
              have tT2__4 := gat hsT2_ (by decide) fT2__4
              have tT2__6 := gat hsT2_ (by decide) fT2__6
              have tT2__8 := gat hsT2_ (by decide) fT2__8
              have tT2__9 := gat hsT2_ (by decide) fT2__9
              have tT2__59 := gat hsT2_ (by decide) fT2__59
              refine wp_cond_true ((gev fT2__59).trans (congrArg Value.bool (by first | rfl | (simp; omega) | (simp; done)))) ?_
              refine wp_skip ?_
              refine hK1 _ _ ?_
              clear hK1 K1
              clear hlt
              refine wp_seq_k (fun K3 hK3 => ?_)
              refine wp_block ?_
              refine wp_seq_k (fun K4 hK4 => ?_)
              refine wp_region_lit ?_
              refine box_event rfl (N := 10) rfl (cs := (nums .u32 (List.replicate 64 0)).toArray) (t := 53) (by kernel_rfl) ?_
              intro gw hg w5 hbox hb
              have HS := Aside0.mk (St.mk (HO1.out.step hb) (blk_below KH1.out hb) (blk_below KK1.out hb) hbox HGH2.out (by rw [hg]; exact HO1.out.below.size) (by have := blk_lt KK1.out; omega))
              clear hg hbox hb HO1 KH1 KK1
              refine wpList_nil ?_
              refine hK4 _ _ ?_
              clear hK4 K4
              refine wp_seq_k (fun K5 hK5 => ?_)
              refine wp_seq_k (fun K6 hK6 => ?_)
              refine wp_region_lit ?_
              refine wpList_plain rfl (fun K hK => ?_); go_simp; refine hK _ _ ?_; clear hK K
              refine wpList_nil ?_
              refine hK6 _ _ ?_
              clear hK6 K6
              refine absR (fun T3_ hT => ?_)
              have hsT3_ : T3_.size = 300 := by rw [hT]; simp only [Array.size_setIfInBounds]; exact hsT2_
              have fT3__3 : T3_[3]? = _ := (congrArg (fun X_ : Array Value => X_[3]?) hT).trans (gq_ne (d := 62) (by decide) (gq_ne (d := 10) (by decide) (fT2__3)))
              have fT3__4 : T3_[4]? = _ := (congrArg (fun X_ : Array Value => X_[4]?) hT).trans (gq_ne (d := 62) (by decide) (gq_ne (d := 10) (by decide) (fT2__4)))
              have fT3__6 : T3_[6]? = _ := (congrArg (fun X_ : Array Value => X_[6]?) hT).trans (gq_ne (d := 62) (by decide) (gq_ne (d := 10) (by decide) (fT2__6)))
              have fT3__8 : T3_[8]? = _ := (congrArg (fun X_ : Array Value => X_[8]?) hT).trans (gq_ne (d := 62) (by decide) (gq_ne (d := 10) (by decide) (fT2__8)))
              have fT3__9 : T3_[9]? = _ := (congrArg (fun X_ : Array Value => X_[9]?) hT).trans (gq_ne (d := 62) (by decide) (gq_ne (d := 10) (by decide) (fT2__9)))
              have fT3__10 : T3_[10]? = _ := (congrArg (fun X_ : Array Value => X_[10]?) hT).trans (gq_ne (d := 62) (by decide) (gq_eq (i := 10) (by simp only [Array.size_setIfInBounds, hsT2_]; decide)))
              have fT3__62 : T3_[62]? = _ := (congrArg (fun X_ : Array Value => X_[62]?) hT).trans (gq_eq (i := 62) (by simp only [Array.size_setIfInBounds, hsT2_]; decide))
              clear hT
              clear fT2__3 tT2__3 fT2__4 tT2__4 fT2__6 tT2__6 fT2__8 tT2__8 fT2__9 tT2__9 fT2__59 tT2__59 hsT2_
              have tT3__3 := gat hsT3_ (by decide) fT3__3
              have tT3__4 := gat hsT3_ (by decide) fT3__4
              have tT3__6 := gat hsT3_ (by decide) fT3__6
              have tT3__8 := gat hsT3_ (by decide) fT3__8
              have tT3__9 := gat hsT3_ (by decide) fT3__9
              have tT3__10 := gat hsT3_ (by decide) fT3__10
              have tT3__62 := gat hsT3_ (by decide) fT3__62
              refine wp_block ?_
              refine wp_loop (fun a W => ∃ (T : Array Value) (i : Nat), a = ⟨T, []⟩ ∧ T.size = 300 ∧ T[3]? = some (.pointer (some ⟨gh, 0, none⟩)) ∧ T[4]? = some (.pointer (some ⟨gk, 0, none⟩)) ∧ T[6]? = some (.slice (some ⟨gm, 0, none⟩) m2.length cm) ∧ T[8]? = some (.func (.func 23) #[] #[]) ∧ T[9]? = some (.int .i64 (at_ : Int)) ∧ T[10]? = some (.pointer (some ⟨gw, 0, none⟩)) ∧ T[62]? = some (.int .i64 (i : Int)) ∧ i ≤ 16 ∧ Aside0 (St w W gh gk gw (.slice (some ⟨gm, 0, none⟩) m2.length cm) m2 (hst m2 b) (ldI m2 at_ i))) (fun a W => 16 - (intOf (a.tmps[62]?.getD undef)).toNat) ?_ ?_
              · exact ⟨_, 0, rfl, hsT3_, fT3__3, fT3__4, fT3__6, fT3__8, fT3__9, fT3__10, fT3__62, by omega, HS⟩
              · rintro _ wr ⟨T4_, i, rfl, hsT4_, fT4__3, fT4__4, fT4__6, fT4__8, fT4__9, fT4__10, fT4__62, hi, HS1⟩
                have tT4__3 := gat hsT4_ (by decide) fT4__3
                have tT4__4 := gat hsT4_ (by decide) fT4__4
                have tT4__6 := gat hsT4_ (by decide) fT4__6
                have tT4__8 := gat hsT4_ (by decide) fT4__8
                have tT4__9 := gat hsT4_ (by decide) fT4__9
                have tT4__10 := gat hsT4_ (by decide) fT4__10
                have tT4__62 := gat hsT4_ (by decide) fT4__62
                clear HS
                by_cases hi2 : i < 16
                · skip
                  refine wp_seq_k (fun K7 hK7 => ?_)
                  refine wp_region_lit ?_
                  refine wpList_plain rfl (fun K hK => ?_); go_simp; refine hK _ _ ?_; clear hK K
                  refine wpList_nil ?_
                  refine hK7 _ _ ?_
                  clear hK7 K7
                  refine absR (fun T5_ hT => ?_)
                  have hsT5_ : T5_.size = 300 := by rw [hT]; simp only [Array.size_setIfInBounds]; exact hsT4_
                  have fT5__3 : T5_[3]? = _ := (congrArg (fun X_ : Array Value => X_[3]?) hT).trans (gq_ne (d := 63) (by decide) (fT4__3))
                  have fT5__4 : T5_[4]? = _ := (congrArg (fun X_ : Array Value => X_[4]?) hT).trans (gq_ne (d := 63) (by decide) (fT4__4))
                  have fT5__6 : T5_[6]? = _ := (congrArg (fun X_ : Array Value => X_[6]?) hT).trans (gq_ne (d := 63) (by decide) (fT4__6))
                  have fT5__8 : T5_[8]? = _ := (congrArg (fun X_ : Array Value => X_[8]?) hT).trans (gq_ne (d := 63) (by decide) (fT4__8))
                  have fT5__9 : T5_[9]? = _ := (congrArg (fun X_ : Array Value => X_[9]?) hT).trans (gq_ne (d := 63) (by decide) (fT4__9))
                  have fT5__10 : T5_[10]? = _ := (congrArg (fun X_ : Array Value => X_[10]?) hT).trans (gq_ne (d := 63) (by decide) (fT4__10))
                  have fT5__62 : T5_[62]? = _ := (congrArg (fun X_ : Array Value => X_[62]?) hT).trans (gq_ne (d := 63) (by decide) (fT4__62))
                  have fT5__63 : T5_[63]? = _ := (congrArg (fun X_ : Array Value => X_[63]?) hT).trans (gq_eq (i := 63) (by simp only [Array.size_setIfInBounds, hsT4_]; decide))
                  clear hT
                  clear tT4__3 tT4__4 tT4__6 tT4__8 tT4__9 tT4__10 tT4__62
                  have tT5__3 := gat hsT5_ (by decide) fT5__3
                  have tT5__4 := gat hsT5_ (by decide) fT5__4
                  have tT5__6 := gat hsT5_ (by decide) fT5__6
                  have tT5__8 := gat hsT5_ (by decide) fT5__8
                  have tT5__9 := gat hsT5_ (by decide) fT5__9
                  have tT5__10 := gat hsT5_ (by decide) fT5__10
                  have tT5__62 := gat hsT5_ (by decide) fT5__62
                  have tT5__63 := gat hsT5_ (by decide) fT5__63
                  refine wp_seq_k (fun K8 hK8 => ?_)
                  refine wp_cond_true ((gev fT5__63).trans (congrArg Value.bool (by first | rfl | (simp; omega) | (simp; done)))) ?_
                  refine wp_skip ?_
                  refine hK8 _ _ ?_
                  clear hK8 K8
                  refine wp_seq_k (fun K9 hK9 => ?_)
                  refine wp_block ?_
                  refine wp_seq_k (fun K10 hK10 => ?_)
                  refine wp_region_lit ?_
                  refine wpList_plain rfl (fun K hK => ?_); go_simp; refine hK _ _ ?_; clear hK K
                  refine wpList_plain rfl (fun K hK => ?_); go_simp; refine hK _ _ ?_; clear hK K
                  refine wpList_nil ?_
                  refine hK10 _ _ ?_
                  clear hK10 K10
                  refine wp_seq_k (fun K11 hK11 => ?_)
                  refine wp_region_lit ?_
                  refine wpList_plain rfl (fun K hK => ?_); go_simp; refine hK _ _ ?_; clear hK K
                  refine wpList_nil ?_
                  refine hK11 _ _ ?_
                  clear hK11 K11
                  refine absR (fun T6_ hT => ?_)
                  have hsT6_ : T6_.size = 300 := by rw [hT]; simp only [Array.size_setIfInBounds]; exact hsT5_
                  have fT6__3 : T6_[3]? = _ := (congrArg (fun X_ : Array Value => X_[3]?) hT).trans (gq_ne (d := 65) (by decide) (gq_ne (d := 11) (by decide) (gq_ne (d := 64) (by decide) (fT5__3))))
                  have fT6__4 : T6_[4]? = _ := (congrArg (fun X_ : Array Value => X_[4]?) hT).trans (gq_ne (d := 65) (by decide) (gq_ne (d := 11) (by decide) (gq_ne (d := 64) (by decide) (fT5__4))))
                  have fT6__6 : T6_[6]? = _ := (congrArg (fun X_ : Array Value => X_[6]?) hT).trans (gq_ne (d := 65) (by decide) (gq_ne (d := 11) (by decide) (gq_ne (d := 64) (by decide) (fT5__6))))
                  have fT6__8 : T6_[8]? = _ := (congrArg (fun X_ : Array Value => X_[8]?) hT).trans (gq_ne (d := 65) (by decide) (gq_ne (d := 11) (by decide) (gq_ne (d := 64) (by decide) (fT5__8))))
                  have fT6__9 : T6_[9]? = _ := (congrArg (fun X_ : Array Value => X_[9]?) hT).trans (gq_ne (d := 65) (by decide) (gq_ne (d := 11) (by decide) (gq_ne (d := 64) (by decide) (fT5__9))))
                  have fT6__10 : T6_[10]? = _ := (congrArg (fun X_ : Array Value => X_[10]?) hT).trans (gq_ne (d := 65) (by decide) (gq_ne (d := 11) (by decide) (gq_ne (d := 64) (by decide) (fT5__10))))
                  have fT6__62 : T6_[62]? = _ := (congrArg (fun X_ : Array Value => X_[62]?) hT).trans (gq_ne (d := 65) (by decide) (gq_ne (d := 11) (by decide) (gq_ne (d := 64) (by decide) (fT5__62))))
                  have fT6__11 : T6_[11]? = _ := (congrArg (fun X_ : Array Value => X_[11]?) hT).trans (gq_ne (d := 65) (by decide) (gq_eq (i := 11) (by simp only [Array.size_setIfInBounds, hsT5_]; decide)))
                  have fT6__65 : T6_[65]? = _ := (congrArg (fun X_ : Array Value => X_[65]?) hT).trans (gq_eq (i := 65) (by simp only [Array.size_setIfInBounds, hsT5_]; decide))
                  clear hT
                  clear fT5__3 tT5__3 fT5__4 tT5__4 fT5__6 tT5__6 fT5__8 tT5__8 fT5__9 tT5__9 fT5__10 tT5__10 fT5__62 tT5__62 fT5__63 tT5__63 hsT5_
                  have tT6__3 := gat hsT6_ (by decide) fT6__3
                  have tT6__4 := gat hsT6_ (by decide) fT6__4
                  have tT6__6 := gat hsT6_ (by decide) fT6__6
                  have tT6__8 := gat hsT6_ (by decide) fT6__8
                  have tT6__9 := gat hsT6_ (by decide) fT6__9
                  have tT6__10 := gat hsT6_ (by decide) fT6__10
                  have tT6__62 := gat hsT6_ (by decide) fT6__62
                  have tT6__11 := gat hsT6_ (by decide) fT6__11
                  have tT6__65 := gat hsT6_ (by decide) fT6__65
                  refine wp_block ?_
                  refine wp_loop (fun a W => ∃ (T : Array Value) (c_ : Nat), a = ⟨T, []⟩ ∧ T.size = 300 ∧ T[3]? = some (.pointer (some ⟨gh, 0, none⟩)) ∧ T[4]? = some (.pointer (some ⟨gk, 0, none⟩)) ∧ T[6]? = some (.slice (some ⟨gm, 0, none⟩) m2.length cm) ∧ T[8]? = some (.func (.func 23) #[] #[]) ∧ T[9]? = some (.int .i64 (at_ : Int)) ∧ T[10]? = some (.pointer (some ⟨gw, 0, none⟩)) ∧ T[11]? = some (.int .i64 (i : Int)) ∧ T[62]? = some (.int .i64 (i : Int)) ∧ T[65]? = some (.int .i64 (c_ : Int)) ∧ c_ ≤ 4 ∧ Aside0 (St w W gh gk gw (.slice (some ⟨gm, 0, none⟩) m2.length cm) m2 (hst m2 b) (ldC m2 at_ (ldI m2 at_ i) i c_))) (fun a W => 4 - (intOf (a.tmps[65]?.getD undef)).toNat) ?_ ?_
                  · exact ⟨_, 0, rfl, hsT6_, fT6__3, fT6__4, fT6__6, fT6__8, fT6__9, fT6__10, fT6__11, fT6__62, fT6__65, by omega, HS1⟩
                  · rintro _ wr ⟨T7_, c_, rfl, hsT7_, fT7__3, fT7__4, fT7__6, fT7__8, fT7__9, fT7__10, fT7__11, fT7__62, fT7__65, hc, HS2⟩
                    have tT7__3 := gat hsT7_ (by decide) fT7__3
                    have tT7__4 := gat hsT7_ (by decide) fT7__4
                    have tT7__6 := gat hsT7_ (by decide) fT7__6
                    have tT7__8 := gat hsT7_ (by decide) fT7__8
                    have tT7__9 := gat hsT7_ (by decide) fT7__9
                    have tT7__10 := gat hsT7_ (by decide) fT7__10
                    have tT7__11 := gat hsT7_ (by decide) fT7__11
                    have tT7__62 := gat hsT7_ (by decide) fT7__62
                    have tT7__65 := gat hsT7_ (by decide) fT7__65
                    clear HS1
                    by_cases hc2 : c_ < 4
                    · skip
                      refine wp_seq_k (fun K12 hK12 => ?_)
                      refine wp_region_lit ?_
                      refine wpList_plain rfl (fun K hK => ?_); go_simp; refine hK _ _ ?_; clear hK K
                      refine wpList_nil ?_
                      refine hK12 _ _ ?_
                      clear hK12 K12
                      refine absR (fun T8_ hT => ?_)
                      have hsT8_ : T8_.size = 300 := by rw [hT]; simp only [Array.size_setIfInBounds]; exact hsT7_
                      have fT8__3 : T8_[3]? = _ := (congrArg (fun X_ : Array Value => X_[3]?) hT).trans (gq_ne (d := 66) (by decide) (fT7__3))
                      have fT8__4 : T8_[4]? = _ := (congrArg (fun X_ : Array Value => X_[4]?) hT).trans (gq_ne (d := 66) (by decide) (fT7__4))
                      have fT8__6 : T8_[6]? = _ := (congrArg (fun X_ : Array Value => X_[6]?) hT).trans (gq_ne (d := 66) (by decide) (fT7__6))
                      have fT8__8 : T8_[8]? = _ := (congrArg (fun X_ : Array Value => X_[8]?) hT).trans (gq_ne (d := 66) (by decide) (fT7__8))
                      have fT8__9 : T8_[9]? = _ := (congrArg (fun X_ : Array Value => X_[9]?) hT).trans (gq_ne (d := 66) (by decide) (fT7__9))
                      have fT8__10 : T8_[10]? = _ := (congrArg (fun X_ : Array Value => X_[10]?) hT).trans (gq_ne (d := 66) (by decide) (fT7__10))
                      have fT8__62 : T8_[62]? = _ := (congrArg (fun X_ : Array Value => X_[62]?) hT).trans (gq_ne (d := 66) (by decide) (fT7__62))
                      have fT8__11 : T8_[11]? = _ := (congrArg (fun X_ : Array Value => X_[11]?) hT).trans (gq_ne (d := 66) (by decide) (fT7__11))
                      have fT8__65 : T8_[65]? = _ := (congrArg (fun X_ : Array Value => X_[65]?) hT).trans (gq_ne (d := 66) (by decide) (fT7__65))
                      have fT8__66 : T8_[66]? = _ := (congrArg (fun X_ : Array Value => X_[66]?) hT).trans (gq_eq (i := 66) (by simp only [Array.size_setIfInBounds, hsT7_]; decide))
                      clear hT
                      clear tT7__3 tT7__4 tT7__6 tT7__8 tT7__9 tT7__10 tT7__11 tT7__62 tT7__65
                      have tT8__3 := gat hsT8_ (by decide) fT8__3
                      have tT8__4 := gat hsT8_ (by decide) fT8__4
                      have tT8__6 := gat hsT8_ (by decide) fT8__6
                      have tT8__8 := gat hsT8_ (by decide) fT8__8
                      have tT8__9 := gat hsT8_ (by decide) fT8__9
                      have tT8__10 := gat hsT8_ (by decide) fT8__10
                      have tT8__62 := gat hsT8_ (by decide) fT8__62
                      have tT8__11 := gat hsT8_ (by decide) fT8__11
                      have tT8__65 := gat hsT8_ (by decide) fT8__65
                      have tT8__66 := gat hsT8_ (by decide) fT8__66
                      refine wp_seq_k (fun K13 hK13 => ?_)
                      refine wp_cond_true ((gev fT8__66).trans (congrArg Value.bool (by first | rfl | (simp; omega) | (simp; done)))) ?_
                      refine wp_skip ?_
                      refine hK13 _ _ ?_
                      clear hK13 K13
                      refine wp_seq_k (fun K14 hK14 => ?_)
                      refine wp_block ?_
                      refine wp_seq_k (fun K15 hK15 => ?_)
                      refine wp_region_lit ?_
                      refine wpList_plain rfl (fun K hK => ?_); go_simp; refine hK _ _ ?_; clear hK K
                      refine wpList_plain rfl (fun K hK => ?_); go_simp; refine hK _ _ ?_; clear hK K
                      refine wpList_nil ?_
                      refine hK15 _ _ ?_
                      clear hK15 K15
                      refine absR (fun T9_ hT => ?_)
                      have hsT9_ : T9_.size = 300 := by rw [hT]; simp only [Array.size_setIfInBounds]; exact hsT8_
                      have fT9__3 : T9_[3]? = _ := (congrArg (fun X_ : Array Value => X_[3]?) hT).trans (gq_ne (d := 12) (by decide) (gq_ne (d := 67) (by decide) (fT8__3)))
                      have fT9__4 : T9_[4]? = _ := (congrArg (fun X_ : Array Value => X_[4]?) hT).trans (gq_ne (d := 12) (by decide) (gq_ne (d := 67) (by decide) (fT8__4)))
                      have fT9__6 : T9_[6]? = _ := (congrArg (fun X_ : Array Value => X_[6]?) hT).trans (gq_ne (d := 12) (by decide) (gq_ne (d := 67) (by decide) (fT8__6)))
                      have fT9__8 : T9_[8]? = _ := (congrArg (fun X_ : Array Value => X_[8]?) hT).trans (gq_ne (d := 12) (by decide) (gq_ne (d := 67) (by decide) (fT8__8)))
                      have fT9__9 : T9_[9]? = _ := (congrArg (fun X_ : Array Value => X_[9]?) hT).trans (gq_ne (d := 12) (by decide) (gq_ne (d := 67) (by decide) (fT8__9)))
                      have fT9__10 : T9_[10]? = _ := (congrArg (fun X_ : Array Value => X_[10]?) hT).trans (gq_ne (d := 12) (by decide) (gq_ne (d := 67) (by decide) (fT8__10)))
                      have fT9__62 : T9_[62]? = _ := (congrArg (fun X_ : Array Value => X_[62]?) hT).trans (gq_ne (d := 12) (by decide) (gq_ne (d := 67) (by decide) (fT8__62)))
                      have fT9__11 : T9_[11]? = _ := (congrArg (fun X_ : Array Value => X_[11]?) hT).trans (gq_ne (d := 12) (by decide) (gq_ne (d := 67) (by decide) (fT8__11)))
                      have fT9__65 : T9_[65]? = _ := (congrArg (fun X_ : Array Value => X_[65]?) hT).trans (gq_ne (d := 12) (by decide) (gq_ne (d := 67) (by decide) (fT8__65)))
                      have fT9__12 : T9_[12]? = _ := (congrArg (fun X_ : Array Value => X_[12]?) hT).trans (gq_eq (i := 12) (by simp only [Array.size_setIfInBounds, hsT8_]; decide))
                      clear hT
                      clear fT8__3 tT8__3 fT8__4 tT8__4 fT8__6 tT8__6 fT8__8 tT8__8 fT8__9 tT8__9 fT8__10 tT8__10 fT8__62 tT8__62 fT8__11 tT8__11 fT8__65 tT8__65 fT8__66 tT8__66 hsT8_
                      have tT9__3 := gat hsT9_ (by decide) fT9__3
                      have tT9__4 := gat hsT9_ (by decide) fT9__4
                      have tT9__6 := gat hsT9_ (by decide) fT9__6
                      have tT9__8 := gat hsT9_ (by decide) fT9__8
                      have tT9__9 := gat hsT9_ (by decide) fT9__9
                      have tT9__10 := gat hsT9_ (by decide) fT9__10
                      have tT9__62 := gat hsT9_ (by decide) fT9__62
                      have tT9__11 := gat hsT9_ (by decide) fT9__11
                      have tT9__65 := gat hsT9_ (by decide) fT9__65
                      have tT9__12 := gat hsT9_ (by decide) fT9__12
                      obtain ⟨idx, hidx⟩ : ∃ idx, idx = at_ + 4 * i + c_ := ⟨_, rfl⟩
                      have q0 : idx < m2.length := by have := HLT.out; omega
                      have q1 : IntKind.i64.wrap (4 * (i : Int)) = 4 * i := by rw [IntKind.wrap_i64]; omega
                      have q2 : IntKind.i64.wrap ((at_ : Int) + 4 * i) = at_ + 4 * i := by rw [IntKind.wrap_i64]; have := HM40.out; omega
                      have q3 : IntKind.i64.wrap ((at_ : Int) + 4 * i + c_) = idx := by rw [IntKind.wrap_i64]; have := HM40.out; omega
                      have q4 : (idx : Int) < (m2.length : Int) := by omega
                      have q5 : (i : Int) < 64 := by omega
                      have q6 : i < 64 := by omega
                      have HX := Aside0.mk hidx
                      clear hidx
                      have HW := Aside0.mk (HS2.out.step (below_drew (Below.refl _ _)))
                      obtain ⟨x_, hx⟩ : ∃ x_, x_ = (ldC m2 at_ (ldI m2 at_ i) i c_).getD i 0 := ⟨_, rfl⟩
                      obtain ⟨y_, hy⟩ : ∃ y_, y_ = m2.getD idx 0 := ⟨_, rfl⟩
                      have HXX := Aside0.mk hx
                      have HYY := Aside0.mk hy
                      clear hx hy
                      refine hideQ (fun QQ hQQ => ?_)
                      refine start_ (n := 18) (S := fun w' => w'.cell? ⟨gw, i, none⟩ = some (.int .u32 x_) ∧ w'.cell? ⟨gm, idx, none⟩ = some (.int .u8 y_)) (ds := [17]) #[false, false, false, false, false, false, false, false, false, false, false, false, false, false, false, false, false, false] (by kernel_rfl) rfl rfl ⟨HXX.out ▸ HW.out.w i (by rw [ldC_len, ldI_len]; omega), HYY.out ▸ HW.out.m idx (by omega)⟩ (fun hHeld => ?_)
                      refine with_tabW su23.tab su23.bits (fun HT_ HW_ => ?_)
                      have fz : (World.drew _).frozen? ⟨gw, i, none⟩ = false := blk_frozen HW.out.kw i
                      refine pure_ (i := 0) (N := some 68) (v := ?_) (a' := ?_) #[true, false, false, false, false, false, false, false, false, false, false, false, false, false, false, false, false, false] rfl rfl (any_of HT_.out (by kernel_rfl)) (fun _ _ _ h => h) (Or.inl ⟨by rfl, ?_⟩) ?_ ?_
                      rotate_left
                      · intro w'
                        go_simp
                        with_reducible rfl
                      rotate_left
                      · simp only [Act.put, qA, q0, qS, i64_w, i32_w]
                        rfl
                      refine pure_ (i := 1) (N := some 69) (v := ?_) (a' := ?_) #[true, true, false, false, false, false, false, false, false, false, false, false, false, false, false, false, false, false] rfl rfl (any_of HT_.out (by kernel_rfl)) (fun _ _ _ h => h) (Or.inl ⟨by rfl, ?_⟩) ?_ ?_
                      rotate_left
                      · intro w'
                        go_simp
                        with_reducible rfl
                      rotate_left
                      · simp only [Act.put, qA, q0, qS, i64_w, i32_w]
                        rfl
                      refine pure_ (i := 2) (N := some 70) (v := ?_) (a' := ?_) #[true, true, true, false, false, false, false, false, false, false, false, false, false, false, false, false, false, false] rfl rfl (any_of HT_.out (by kernel_rfl)) (fun _ _ _ h => h) (Or.inl ⟨by rfl, ?_⟩) ?_ ?_
                      rotate_left
                      · intro w'
                        go_simp
                        with_reducible rfl
                      rotate_left
                      · simp only [Act.put, qA, q0, qS, i64_w, i32_w]
                        rfl
                      refine pure_ (i := 5) (N := some 73) (v := ?_) (a' := ?_) #[true, true, true, false, false, true, false, false, false, false, false, false, false, false, false, false, false, false] rfl rfl (any_of HT_.out (by kernel_rfl)) (fun _ _ _ h => h) (Or.inl ⟨by rfl, ?_⟩) ?_ ?_
                      rotate_left
                      · intro w'
                        go_simp
                        with_reducible rfl
                      rotate_left
                      · simp only [Act.put, qA, q0, qS, i64_w, i32_w]
                        rfl
                      refine pure_ (i := 6) (N := some 74) (v := ?_) (a' := ?_) #[true, true, true, false, false, true, true, false, false, false, false, false, false, false, false, false, false, false] rfl rfl (any_of HT_.out (by kernel_rfl)) (fun _ _ _ h => h) (Or.inl ⟨by rfl, ?_⟩) ?_ ?_
                      rotate_left
                      · intro w'
                        go_simp
                        with_reducible rfl
                      rotate_left
                      · simp only [Act.put, qA, q0, qS, i64_w, i32_w]
                        rfl
                      refine pure_ (i := 7) (N := some 75) (v := ?_) (a' := ?_) #[true, true, true, false, false, true, true, true, false, false, false, false, false, false, false, false, false, false] rfl rfl (any_of HT_.out (by kernel_rfl)) (fun _ _ _ h => h) (Or.inl ⟨by rfl, ?_⟩) ?_ ?_
                      rotate_left
                      · intro w'
                        go_simp
                        with_reducible rfl
                      rotate_left
                      · simp only [Act.put, qA, q0, qS, i64_w, i32_w]
                        rfl
                      refine pure_ (i := 8) (N := some 76) (v := ?_) (a' := ?_) #[true, true, true, false, false, true, true, true, true, false, false, false, false, false, false, false, false, false] rfl rfl (any_of HT_.out (by kernel_rfl)) (fun _ _ _ h => h) (Or.inl ⟨by rfl, ?_⟩) ?_ ?_
                      rotate_left
                      · intro w'
                        go_simp
                        with_reducible rfl
                      rotate_left
                      · simp only [Act.put, qA, q0, qS, i64_w, i32_w]
                        rfl
                      refine pure_ (i := 9) (N := some 77) (v := ?_) (a' := ?_) #[true, true, true, false, false, true, true, true, true, true, false, false, false, false, false, false, false, false] rfl rfl (any_of HT_.out (by kernel_rfl)) (fun _ _ _ h => h) (Or.inl ⟨by rfl, ?_⟩) ?_ ?_
                      rotate_left
                      · intro w'
                        go_simp
                        with_reducible rfl
                      rotate_left
                      · simp only [Act.put, qA, q0, qS, i64_w, i32_w]
                        rfl
                      refine pure_ (i := 10) (N := some 78) (v := ?_) (a' := ?_) #[true, true, true, false, false, true, true, true, true, true, true, false, false, false, false, false, false, false] rfl rfl (any_of HT_.out (by kernel_rfl)) (fun _ _ _ h => h) (Or.inl ⟨by rfl, ?_⟩) ?_ ?_
                      rotate_left
                      · intro w'
                        go_simp
                        with_reducible rfl
                      rotate_left
                      · simp only [Act.put, qA, q0, qS, i64_w, i32_w]
                        rfl
                      refine pure_ (i := 11) (N := some 79) (v := ?_) (a' := ?_) #[true, true, true, false, false, true, true, true, true, true, true, true, false, false, false, false, false, false] rfl rfl (any_of HT_.out (by kernel_rfl)) (fun _ _ _ h => h) (Or.inl ⟨by rfl, ?_⟩) ?_ ?_
                      rotate_left
                      · intro w'
                        go_simp
                        with_reducible rfl
                      rotate_left
                      · simp only [Act.put, qA, q0, qS, i64_w, i32_w]
                        rfl
                      refine pure_ (i := 12) (N := some 80) (v := ?_) (a' := ?_) #[true, true, true, false, false, true, true, true, true, true, true, true, true, false, false, false, false, false] rfl rfl (any_of HT_.out (by kernel_rfl)) (fun _ _ _ h => h) (Or.inl ⟨by rfl, ?_⟩) ?_ ?_
                      rotate_left
                      · intro w'
                        go_simp
                        with_reducible rfl
                      rotate_left
                      · simp only [Act.put, qA, q0, qS, i64_w, i32_w]
                        rfl
                      refine take_ (i := 3) (N := some 71) (v := ?_) (a' := ?_) #[true, true, true, true, false, true, true, true, true, true, true, true, true, false, false, false, false, false] rfl rfl (take_ofW HT_.out HW_.out (by kernel_rfl)) (fun _ _ _ h => h) (Or.inl ⟨by rfl, ?_⟩) hHeld ?_ ?_
                      rotate_left
                      · rintro w' ⟨s0, s1⟩
                        go_simp
                        with_reducible rfl
                      rotate_left
                      · simp only [Act.put, qA, q0, qS, i64_w, i32_w]
                        rfl
                      refine pure_ (i := 4) (N := some 72) (v := ?_) (a' := ?_) #[true, true, true, true, true, true, true, true, true, true, true, true, true, false, false, false, false, false] rfl rfl (any_of HT_.out (by kernel_rfl)) (fun _ _ _ h => h) (Or.inl ⟨by rfl, ?_⟩) ?_ ?_
                      rotate_left
                      · intro w'
                        go_simp
                        with_reducible rfl
                      rotate_left
                      · simp only [Act.put, qA, q0, qS, i64_w, i32_w]
                        rfl
                      refine take_ (i := 13) (N := some 81) (v := ?_) (a' := ?_) #[true, true, true, true, true, true, true, true, true, true, true, true, true, true, false, false, false, false] rfl rfl (take_ofW HT_.out HW_.out (by kernel_rfl)) (fun _ _ _ h => h) (Or.inl ⟨by rfl, ?_⟩) hHeld ?_ ?_
                      rotate_left
                      · rintro w' ⟨s0, s1⟩
                        go_simp
                        with_reducible rfl
                      rotate_left
                      · simp only [Act.put, qA, q0, qS, i64_w, i32_w]
                        rfl
                      refine pure_ (i := 14) (N := some 82) (v := ?_) (a' := ?_) #[true, true, true, true, true, true, true, true, true, true, true, true, true, true, true, false, false, false] rfl rfl (any_of HT_.out (by kernel_rfl)) (fun _ _ _ h => h) (Or.inl ⟨by rfl, ?_⟩) ?_ ?_
                      rotate_left
                      · intro w'
                        go_simp
                        with_reducible rfl
                      rotate_left
                      · simp only [Act.put, qA, q0, qS, i64_w, i32_w]
                        rfl
                      refine pure_ (i := 15) (N := some 83) (v := ?_) (a' := ?_) #[true, true, true, true, true, true, true, true, true, true, true, true, true, true, true, true, false, false] rfl rfl (any_of HT_.out (by kernel_rfl)) (fun _ _ _ h => h) (Or.inl ⟨by rfl, ?_⟩) ?_ ?_
                      rotate_left
                      · intro w'
                        go_simp
                        with_reducible rfl
                      rotate_left
                      · simp only [Act.put, qA, q0, qS, i64_w, i32_w]
                        rfl
                      refine pure_ (i := 16) (N := some 84) (v := ?_) (a' := ?_) #[true, true, true, true, true, true, true, true, true, true, true, true, true, true, true, true, true, false] rfl rfl (any_of HT_.out (by kernel_rfl)) (fun _ _ _ h => h) (Or.inl ⟨by rfl, ?_⟩) ?_ ?_
                      rotate_left
                      · intro w'
                        go_simp
                        with_reducible rfl
                      rotate_left
                      · simp only [Act.put, qA, q0, qS, i64_w, i32_w]
                        rfl
                      refine last_store (w1 := ?_) (i := 17) #[true, true, true, true, true, true, true, true, true, true, true, true, true, true, true, true, true, true] rfl rfl (one_of HT_.out (by kernel_rfl)) (by decide) (by rfl) ?_ ?_
                      rotate_left
                      · go_simp
                        rfl
                      refine done_ (done_of HT_.out (by kernel_rfl)) ?_
                      refine hQQ _ _ ?_
                      clear hQQ QQ
                      refine hK14 _ _ ?_
                      clear hK14 K14
                      clear q1 q2 q3 q4 q5 fz
                      have q7 : IntKind.i64.wrap ((c_ : Int) + 1) = ((c_ + 1 : Nat) : Int) := by rw [IntKind.wrap_i64]; omega
                      refine wp_region_lit ?_
                      refine wpList_plain rfl (fun K hK => ?_); go_simp; refine hK _ _ ?_; clear hK K
                      refine wpList_plain rfl (fun K hK => ?_); go_simp; refine hK _ _ ?_; clear hK K
                      refine wpList_nil ?_
                      refine absG (R := Exit.then _ _ Exit.normal) (fun T10_ hT => ?_)
                      have hsT10_ : T10_.size = 300 := by rw [hT]; simp only [Array.size_setIfInBounds]; exact hsT9_
                      have fT10__3 : T10_[3]? = _ := (congrArg (fun X_ : Array Value => X_[3]?) hT).trans (gq_ne (d := 65) (by decide) (gq_ne (d := 85) (by decide) (gq_ne (d := 84) (by decide) (gq_ne (d := 83) (by decide) (gq_ne (d := 82) (by decide) (gq_ne (d := 81) (by decide) (gq_ne (d := 72) (by decide) (gq_ne (d := 71) (by decide) (gq_ne (d := 80) (by decide) (gq_ne (d := 79) (by decide) (gq_ne (d := 78) (by decide) (gq_ne (d := 77) (by decide) (gq_ne (d := 76) (by decide) (gq_ne (d := 75) (by decide) (gq_ne (d := 74) (by decide) (gq_ne (d := 73) (by decide) (gq_ne (d := 70) (by decide) (gq_ne (d := 69) (by decide) (gq_ne (d := 68) (by decide) (fT9__3))))))))))))))))))))
                      have fT10__4 : T10_[4]? = _ := (congrArg (fun X_ : Array Value => X_[4]?) hT).trans (gq_ne (d := 65) (by decide) (gq_ne (d := 85) (by decide) (gq_ne (d := 84) (by decide) (gq_ne (d := 83) (by decide) (gq_ne (d := 82) (by decide) (gq_ne (d := 81) (by decide) (gq_ne (d := 72) (by decide) (gq_ne (d := 71) (by decide) (gq_ne (d := 80) (by decide) (gq_ne (d := 79) (by decide) (gq_ne (d := 78) (by decide) (gq_ne (d := 77) (by decide) (gq_ne (d := 76) (by decide) (gq_ne (d := 75) (by decide) (gq_ne (d := 74) (by decide) (gq_ne (d := 73) (by decide) (gq_ne (d := 70) (by decide) (gq_ne (d := 69) (by decide) (gq_ne (d := 68) (by decide) (fT9__4))))))))))))))))))))
                      have fT10__6 : T10_[6]? = _ := (congrArg (fun X_ : Array Value => X_[6]?) hT).trans (gq_ne (d := 65) (by decide) (gq_ne (d := 85) (by decide) (gq_ne (d := 84) (by decide) (gq_ne (d := 83) (by decide) (gq_ne (d := 82) (by decide) (gq_ne (d := 81) (by decide) (gq_ne (d := 72) (by decide) (gq_ne (d := 71) (by decide) (gq_ne (d := 80) (by decide) (gq_ne (d := 79) (by decide) (gq_ne (d := 78) (by decide) (gq_ne (d := 77) (by decide) (gq_ne (d := 76) (by decide) (gq_ne (d := 75) (by decide) (gq_ne (d := 74) (by decide) (gq_ne (d := 73) (by decide) (gq_ne (d := 70) (by decide) (gq_ne (d := 69) (by decide) (gq_ne (d := 68) (by decide) (fT9__6))))))))))))))))))))
                      have fT10__8 : T10_[8]? = _ := (congrArg (fun X_ : Array Value => X_[8]?) hT).trans (gq_ne (d := 65) (by decide) (gq_ne (d := 85) (by decide) (gq_ne (d := 84) (by decide) (gq_ne (d := 83) (by decide) (gq_ne (d := 82) (by decide) (gq_ne (d := 81) (by decide) (gq_ne (d := 72) (by decide) (gq_ne (d := 71) (by decide) (gq_ne (d := 80) (by decide) (gq_ne (d := 79) (by decide) (gq_ne (d := 78) (by decide) (gq_ne (d := 77) (by decide) (gq_ne (d := 76) (by decide) (gq_ne (d := 75) (by decide) (gq_ne (d := 74) (by decide) (gq_ne (d := 73) (by decide) (gq_ne (d := 70) (by decide) (gq_ne (d := 69) (by decide) (gq_ne (d := 68) (by decide) (fT9__8))))))))))))))))))))
                      have fT10__9 : T10_[9]? = _ := (congrArg (fun X_ : Array Value => X_[9]?) hT).trans (gq_ne (d := 65) (by decide) (gq_ne (d := 85) (by decide) (gq_ne (d := 84) (by decide) (gq_ne (d := 83) (by decide) (gq_ne (d := 82) (by decide) (gq_ne (d := 81) (by decide) (gq_ne (d := 72) (by decide) (gq_ne (d := 71) (by decide) (gq_ne (d := 80) (by decide) (gq_ne (d := 79) (by decide) (gq_ne (d := 78) (by decide) (gq_ne (d := 77) (by decide) (gq_ne (d := 76) (by decide) (gq_ne (d := 75) (by decide) (gq_ne (d := 74) (by decide) (gq_ne (d := 73) (by decide) (gq_ne (d := 70) (by decide) (gq_ne (d := 69) (by decide) (gq_ne (d := 68) (by decide) (fT9__9))))))))))))))))))))
                      have fT10__10 : T10_[10]? = _ := (congrArg (fun X_ : Array Value => X_[10]?) hT).trans (gq_ne (d := 65) (by decide) (gq_ne (d := 85) (by decide) (gq_ne (d := 84) (by decide) (gq_ne (d := 83) (by decide) (gq_ne (d := 82) (by decide) (gq_ne (d := 81) (by decide) (gq_ne (d := 72) (by decide) (gq_ne (d := 71) (by decide) (gq_ne (d := 80) (by decide) (gq_ne (d := 79) (by decide) (gq_ne (d := 78) (by decide) (gq_ne (d := 77) (by decide) (gq_ne (d := 76) (by decide) (gq_ne (d := 75) (by decide) (gq_ne (d := 74) (by decide) (gq_ne (d := 73) (by decide) (gq_ne (d := 70) (by decide) (gq_ne (d := 69) (by decide) (gq_ne (d := 68) (by decide) (fT9__10))))))))))))))))))))
                      have fT10__62 : T10_[62]? = _ := (congrArg (fun X_ : Array Value => X_[62]?) hT).trans (gq_ne (d := 65) (by decide) (gq_ne (d := 85) (by decide) (gq_ne (d := 84) (by decide) (gq_ne (d := 83) (by decide) (gq_ne (d := 82) (by decide) (gq_ne (d := 81) (by decide) (gq_ne (d := 72) (by decide) (gq_ne (d := 71) (by decide) (gq_ne (d := 80) (by decide) (gq_ne (d := 79) (by decide) (gq_ne (d := 78) (by decide) (gq_ne (d := 77) (by decide) (gq_ne (d := 76) (by decide) (gq_ne (d := 75) (by decide) (gq_ne (d := 74) (by decide) (gq_ne (d := 73) (by decide) (gq_ne (d := 70) (by decide) (gq_ne (d := 69) (by decide) (gq_ne (d := 68) (by decide) (fT9__62))))))))))))))))))))
                      have fT10__11 : T10_[11]? = _ := (congrArg (fun X_ : Array Value => X_[11]?) hT).trans (gq_ne (d := 65) (by decide) (gq_ne (d := 85) (by decide) (gq_ne (d := 84) (by decide) (gq_ne (d := 83) (by decide) (gq_ne (d := 82) (by decide) (gq_ne (d := 81) (by decide) (gq_ne (d := 72) (by decide) (gq_ne (d := 71) (by decide) (gq_ne (d := 80) (by decide) (gq_ne (d := 79) (by decide) (gq_ne (d := 78) (by decide) (gq_ne (d := 77) (by decide) (gq_ne (d := 76) (by decide) (gq_ne (d := 75) (by decide) (gq_ne (d := 74) (by decide) (gq_ne (d := 73) (by decide) (gq_ne (d := 70) (by decide) (gq_ne (d := 69) (by decide) (gq_ne (d := 68) (by decide) (fT9__11))))))))))))))))))))
                      have fT10__65 : T10_[65]? = _ := (congrArg (fun X_ : Array Value => X_[65]?) hT).trans (gq_eq (i := 65) (by simp only [Array.size_setIfInBounds, hsT9_]; decide))
                      clear hT
                      clear fT9__3 tT9__3 fT9__4 tT9__4 fT9__6 tT9__6 fT9__8 tT9__8 fT9__9 tT9__9 fT9__10 tT9__10 fT9__62 tT9__62 fT9__11 tT9__11 fT9__65 tT9__65 fT9__12 tT9__12 hsT9_
                      have tT10__3 := gat hsT10_ (by decide) fT10__3
                      have tT10__4 := gat hsT10_ (by decide) fT10__4
                      have tT10__6 := gat hsT10_ (by decide) fT10__6
                      have tT10__8 := gat hsT10_ (by decide) fT10__8
                      have tT10__9 := gat hsT10_ (by decide) fT10__9
                      have tT10__10 := gat hsT10_ (by decide) fT10__10
                      have tT10__62 := gat hsT10_ (by decide) fT10__62
                      have tT10__11 := gat hsT10_ (by decide) fT10__11
                      have tT10__65 := gat hsT10_ (by decide) fT10__65
                      have HWX := (HS2.out.setW i (bits .or .u32 (IntKind.u32.wrap (x_ * 256)) (IntKind.u32.wrap y_))).step (below_drew (Below.refl _ _))
                      refine ⟨⟨_, c_ + 1, rfl, hsT10_, fT10__3, fT10__4, fT10__6, fT10__8, fT10__9, fT10__10, fT10__11, fT10__62, fT10__65, by omega, ⟨by rw [ldC, ldS, ← HX.out, ← HXX.out, ← HYY.out]; exact HWX⟩⟩, by show _ - (intOf (T10_[65]?.getD undef)).toNat < _ - (intOf (T7_[65]?.getD undef)).toNat; rw [fT10__65, fT7__65]; simp [intOf]; omega⟩
                    · obtain rfl : c_ = 4 := by omega
                      refine wp_seq_k (fun K16 hK16 => ?_)
                      refine wp_region_lit ?_
                      refine wpList_plain rfl (fun K hK => ?_); go_simp; refine hK _ _ ?_; clear hK K
                      refine wpList_nil ?_
                      refine hK16 _ _ ?_
                      clear hK16 K16
                      refine absR (fun T11_ hT => ?_)
                      have hsT11_ : T11_.size = 300 := by rw [hT]; simp only [Array.size_setIfInBounds]; exact hsT7_
                      have fT11__3 : T11_[3]? = _ := (congrArg (fun X_ : Array Value => X_[3]?) hT).trans (gq_ne (d := 66) (by decide) (fT7__3))
                      have fT11__4 : T11_[4]? = _ := (congrArg (fun X_ : Array Value => X_[4]?) hT).trans (gq_ne (d := 66) (by decide) (fT7__4))
                      have fT11__6 : T11_[6]? = _ := (congrArg (fun X_ : Array Value => X_[6]?) hT).trans (gq_ne (d := 66) (by decide) (fT7__6))
                      have fT11__8 : T11_[8]? = _ := (congrArg (fun X_ : Array Value => X_[8]?) hT).trans (gq_ne (d := 66) (by decide) (fT7__8))
                      have fT11__9 : T11_[9]? = _ := (congrArg (fun X_ : Array Value => X_[9]?) hT).trans (gq_ne (d := 66) (by decide) (fT7__9))
                      have fT11__10 : T11_[10]? = _ := (congrArg (fun X_ : Array Value => X_[10]?) hT).trans (gq_ne (d := 66) (by decide) (fT7__10))
                      have fT11__62 : T11_[62]? = _ := (congrArg (fun X_ : Array Value => X_[62]?) hT).trans (gq_ne (d := 66) (by decide) (fT7__62))
                      have fT11__66 : T11_[66]? = _ := (congrArg (fun X_ : Array Value => X_[66]?) hT).trans (gq_eq (i := 66) (by simp only [Array.size_setIfInBounds, hsT7_]; decide))
                      clear hT
                      clear tT7__3 tT7__4 tT7__6 tT7__8 tT7__9 tT7__10 tT7__11 tT7__62 tT7__65
                      have tT11__3 := gat hsT11_ (by decide) fT11__3
                      have tT11__4 := gat hsT11_ (by decide) fT11__4
                      have tT11__6 := gat hsT11_ (by decide) fT11__6
                      have tT11__8 := gat hsT11_ (by decide) fT11__8
                      have tT11__9 := gat hsT11_ (by decide) fT11__9
                      have tT11__10 := gat hsT11_ (by decide) fT11__10
                      have tT11__62 := gat hsT11_ (by decide) fT11__62
                      have tT11__66 := gat hsT11_ (by decide) fT11__66
                      refine wp_seq_k (fun K17 hK17 => ?_)
                      refine wp_cond_false ((gev fT11__66).trans (congrArg Value.bool (by first | rfl | (simp; omega) | (simp; done)))) ?_
                      refine wp_exit ?_
                      refine hK9 _ _ ?_
                      clear hK17 K17
                      clear hK9 K9
                      have q7 : IntKind.i64.wrap ((i : Int) + 1) = ((i + 1 : Nat) : Int) := by rw [IntKind.wrap_i64]; omega
                      refine wp_region_lit ?_
                      refine wpList_plain rfl (fun K hK => ?_); go_simp; refine hK _ _ ?_; clear hK K
                      refine wpList_plain rfl (fun K hK => ?_); go_simp; refine hK _ _ ?_; clear hK K
                      refine wpList_nil ?_
                      refine absG (R := Exit.then _ _ Exit.normal) (fun T12_ hT => ?_)
                      have hsT12_ : T12_.size = 300 := by rw [hT]; simp only [Array.size_setIfInBounds]; exact hsT11_
                      have fT12__3 : T12_[3]? = _ := (congrArg (fun X_ : Array Value => X_[3]?) hT).trans (gq_ne (d := 62) (by decide) (gq_ne (d := 86) (by decide) (fT11__3)))
                      have fT12__4 : T12_[4]? = _ := (congrArg (fun X_ : Array Value => X_[4]?) hT).trans (gq_ne (d := 62) (by decide) (gq_ne (d := 86) (by decide) (fT11__4)))
                      have fT12__6 : T12_[6]? = _ := (congrArg (fun X_ : Array Value => X_[6]?) hT).trans (gq_ne (d := 62) (by decide) (gq_ne (d := 86) (by decide) (fT11__6)))
                      have fT12__8 : T12_[8]? = _ := (congrArg (fun X_ : Array Value => X_[8]?) hT).trans (gq_ne (d := 62) (by decide) (gq_ne (d := 86) (by decide) (fT11__8)))
                      have fT12__9 : T12_[9]? = _ := (congrArg (fun X_ : Array Value => X_[9]?) hT).trans (gq_ne (d := 62) (by decide) (gq_ne (d := 86) (by decide) (fT11__9)))
                      have fT12__10 : T12_[10]? = _ := (congrArg (fun X_ : Array Value => X_[10]?) hT).trans (gq_ne (d := 62) (by decide) (gq_ne (d := 86) (by decide) (fT11__10)))
                      have fT12__62 : T12_[62]? = _ := (congrArg (fun X_ : Array Value => X_[62]?) hT).trans (gq_eq (i := 62) (by simp only [Array.size_setIfInBounds, hsT11_]; decide))
                      clear hT
                      clear fT11__3 tT11__3 fT11__4 tT11__4 fT11__6 tT11__6 fT11__8 tT11__8 fT11__9 tT11__9 fT11__10 tT11__10 fT11__62 tT11__62 fT11__66 tT11__66 hsT11_
                      have tT12__3 := gat hsT12_ (by decide) fT12__3
                      have tT12__4 := gat hsT12_ (by decide) fT12__4
                      have tT12__6 := gat hsT12_ (by decide) fT12__6
                      have tT12__8 := gat hsT12_ (by decide) fT12__8
                      have tT12__9 := gat hsT12_ (by decide) fT12__9
                      have tT12__10 := gat hsT12_ (by decide) fT12__10
                      have tT12__62 := gat hsT12_ (by decide) fT12__62
                      refine ⟨⟨_, i + 1, rfl, hsT12_, fT12__3, fT12__4, fT12__6, fT12__8, fT12__9, fT12__10, fT12__62, by omega, ⟨by rw [ldI]; exact HS2.out⟩⟩, by show _ - (intOf (T12_[62]?.getD undef)).toNat < _ - (intOf (T4_[62]?.getD undef)).toNat; rw [fT12__62, fT4__62]; simp [intOf]; omega⟩
                · obtain rfl : i = 16 := by omega
                  refine wp_seq_k (fun K18 hK18 => ?_)
                  refine wp_region_lit ?_
                  refine wpList_plain rfl (fun K hK => ?_); go_simp; refine hK _ _ ?_; clear hK K
                  refine wpList_nil ?_
                  refine hK18 _ _ ?_
                  clear hK18 K18
                  refine absR (fun T13_ hT => ?_)
                  have hsT13_ : T13_.size = 300 := by rw [hT]; simp only [Array.size_setIfInBounds]; exact hsT4_
                  have fT13__3 : T13_[3]? = _ := (congrArg (fun X_ : Array Value => X_[3]?) hT).trans (gq_ne (d := 63) (by decide) (fT4__3))
                  have fT13__4 : T13_[4]? = _ := (congrArg (fun X_ : Array Value => X_[4]?) hT).trans (gq_ne (d := 63) (by decide) (fT4__4))
                  have fT13__6 : T13_[6]? = _ := (congrArg (fun X_ : Array Value => X_[6]?) hT).trans (gq_ne (d := 63) (by decide) (fT4__6))
                  have fT13__8 : T13_[8]? = _ := (congrArg (fun X_ : Array Value => X_[8]?) hT).trans (gq_ne (d := 63) (by decide) (fT4__8))
                  have fT13__9 : T13_[9]? = _ := (congrArg (fun X_ : Array Value => X_[9]?) hT).trans (gq_ne (d := 63) (by decide) (fT4__9))
                  have fT13__10 : T13_[10]? = _ := (congrArg (fun X_ : Array Value => X_[10]?) hT).trans (gq_ne (d := 63) (by decide) (fT4__10))
                  have fT13__63 : T13_[63]? = _ := (congrArg (fun X_ : Array Value => X_[63]?) hT).trans (gq_eq (i := 63) (by simp only [Array.size_setIfInBounds, hsT4_]; decide))
                  clear hT
                  clear tT4__3 tT4__4 tT4__6 tT4__8 tT4__9 tT4__10 tT4__62
                  have tT13__3 := gat hsT13_ (by decide) fT13__3
                  have tT13__4 := gat hsT13_ (by decide) fT13__4
                  have tT13__6 := gat hsT13_ (by decide) fT13__6
                  have tT13__8 := gat hsT13_ (by decide) fT13__8
                  have tT13__9 := gat hsT13_ (by decide) fT13__9
                  have tT13__10 := gat hsT13_ (by decide) fT13__10
                  have tT13__63 := gat hsT13_ (by decide) fT13__63
                  refine wp_seq_k (fun K19 hK19 => ?_)
                  refine wp_cond_false ((gev fT13__63).trans (congrArg Value.bool (by first | rfl | (simp; omega) | (simp; done)))) ?_
                  refine wp_exit ?_
                  refine hK5 _ _ ?_
                  clear hK19 K19
                  clear hK5 K5
                  have HS3 := HS1
                  clear HS1
                  obtain ⟨hs, hhs⟩ : ∃ hs, hs = hst m2 b := ⟨_, rfl⟩
                  have hs8 : hs.length = 8 := by rw [hhs]; exact hst_len _ _
                  rw [← hhs] at HS3
                  have HHS := Aside0.mk hhs
                  have HS8 := Aside0.mk hs8
                  clear hhs hs8
                  obtain ⟨ws, hws⟩ : ∃ ws, ws = exI (ldI m2 at_ 16) 48 := ⟨_, rfl⟩
                  have HWS := Aside0.mk hws
                  have hw64 : ws.length = 64 := by rw [hws, exI_len, ldI_len]
                  have HW64 := Aside0.mk hw64
                  clear hws hw64
                  refine wp_seq_k (fun K20 hK20 => ?_)
                  refine su_words _ rfl _ T13_ w _ gh gk gw _ (at_ : Int) m2 hs (ldI m2 at_ 16) hsT13_ fT13__3 fT13__4 fT13__6 fT13__8 fT13__9 fT13__10 HS3 (ldI_len _ _ _) ?_
                  intro U1_ w9  hsU1_ fU1__3 fU1__4 fU1__6 fU1__8 fU1__9 fU1__10 HS4
                  clear fT13__3 fT13__4 fT13__6 fT13__8 fT13__9 fT13__10 fT13__63 tT13__3 tT13__4 tT13__6 tT13__8 tT13__9 tT13__10 tT13__63
                  have tU1__3 := gat hsU1_ (by decide) fU1__3
                  have tU1__4 := gat hsU1_ (by decide) fU1__4
                  have tU1__6 := gat hsU1_ (by decide) fU1__6
                  have tU1__8 := gat hsU1_ (by decide) fU1__8
                  have tU1__9 := gat hsU1_ (by decide) fU1__9
                  have tU1__10 := gat hsU1_ (by decide) fU1__10
                  refine hK20 _ _ ?_
                  clear hK20 K20
                  rw [← HWS.out] at HS4
                  clear HS3
                  refine wp_seq_k (fun K21 hK21 => ?_)
                  refine wp_region_lit ?_
                  refine wpList_plain rfl (fun K hK => ?_); go_simp; refine hK _ _ ?_; clear hK K
                  refine w_append rfl rfl (.tmp 144) rfl (by go_simp) HS4.out.kh HS8.out ?_
                  intro gv cv w5 hv hb
                  have HV4 := Aside0.mk hv
                  have HS5 := Aside0.mk (HS4.out.step hb)
                  clear hv hb
                  simp only [Act.put]
                  refine wpList_plain rfl (fun K hK => ?_); go_simp; refine hK _ _ ?_; clear hK K
                  refine wpList_nil ?_
                  refine hK21 _ _ ?_
                  clear hK21 K21
                  refine absR (fun T14_ hT => ?_)
                  have hsT14_ : T14_.size = 300 := by rw [hT]; simp only [Array.size_setIfInBounds]; exact hsU1_
                  have fT14__3 : T14_[3]? = _ := (congrArg (fun X_ : Array Value => X_[3]?) hT).trans (gq_ne (d := 16) (by decide) (gq_ne (d := 145) (by decide) (gq_ne (d := 144) (by decide) (fU1__3))))
                  have fT14__4 : T14_[4]? = _ := (congrArg (fun X_ : Array Value => X_[4]?) hT).trans (gq_ne (d := 16) (by decide) (gq_ne (d := 145) (by decide) (gq_ne (d := 144) (by decide) (fU1__4))))
                  have fT14__6 : T14_[6]? = _ := (congrArg (fun X_ : Array Value => X_[6]?) hT).trans (gq_ne (d := 16) (by decide) (gq_ne (d := 145) (by decide) (gq_ne (d := 144) (by decide) (fU1__6))))
                  have fT14__8 : T14_[8]? = _ := (congrArg (fun X_ : Array Value => X_[8]?) hT).trans (gq_ne (d := 16) (by decide) (gq_ne (d := 145) (by decide) (gq_ne (d := 144) (by decide) (fU1__8))))
                  have fT14__9 : T14_[9]? = _ := (congrArg (fun X_ : Array Value => X_[9]?) hT).trans (gq_ne (d := 16) (by decide) (gq_ne (d := 145) (by decide) (gq_ne (d := 144) (by decide) (fU1__9))))
                  have fT14__10 : T14_[10]? = _ := (congrArg (fun X_ : Array Value => X_[10]?) hT).trans (gq_ne (d := 16) (by decide) (gq_ne (d := 145) (by decide) (gq_ne (d := 144) (by decide) (fU1__10))))
                  have fT14__16 : T14_[16]? = _ := (congrArg (fun X_ : Array Value => X_[16]?) hT).trans (gq_eq (i := 16) (by simp only [Array.size_setIfInBounds, hsU1_]; decide))
                  clear hT
                  clear fU1__3 tU1__3 fU1__4 tU1__4 fU1__6 tU1__6 fU1__8 tU1__8 fU1__9 tU1__9 fU1__10 tU1__10 hsU1_
                  have tT14__3 := gat hsT14_ (by decide) fT14__3
                  have tT14__4 := gat hsT14_ (by decide) fT14__4
                  have tT14__6 := gat hsT14_ (by decide) fT14__6
                  have tT14__8 := gat hsT14_ (by decide) fT14__8
                  have tT14__9 := gat hsT14_ (by decide) fT14__9
                  have tT14__10 := gat hsT14_ (by decide) fT14__10
                  have tT14__16 := gat hsT14_ (by decide) fT14__16
                  clear HS4
                  refine wp_seq_k (fun K22 hK22 => ?_)
                  refine su_rounds _ rfl _ T14_ w _ gh gk gw gv cv _ (at_ : Int) m2 hs ws hs hsT14_ fT14__3 fT14__4 fT14__6 fT14__8 fT14__9 fT14__10 fT14__16 HS5 HV4 HW64.out ?_
                  intro U2_ w9 gv1 cv1 hsU2_ fU2__3 fU2__4 fU2__6 fU2__8 fU2__9 fU2__16 HS6 HV6
                  clear fT14__3 fT14__4 fT14__6 fT14__8 fT14__9 fT14__10 fT14__16 tT14__3 tT14__4 tT14__6 tT14__8 tT14__9 tT14__10 tT14__16
                  have tU2__3 := gat hsU2_ (by decide) fU2__3
                  have tU2__4 := gat hsU2_ (by decide) fU2__4
                  have tU2__6 := gat hsU2_ (by decide) fU2__6
                  have tU2__8 := gat hsU2_ (by decide) fU2__8
                  have tU2__9 := gat hsU2_ (by decide) fU2__9
                  have tU2__16 := gat hsU2_ (by decide) fU2__16
                  refine hK22 _ _ ?_
                  clear hK22 K22
                  clear HS5 HV4
                  refine su_add _ rfl _ U2_ w _ gh gk gw gv1 cv1 _ (at_ : Int) m2 hs ws (rdI ws hs 64) hsU2_ fU2__3 fU2__4 fU2__6 fU2__8 fU2__9 fU2__16 HS6 HV6 HS8.out ?_
                  intro U3_ w9  hsU3_ fU3__3 fU3__4 fU3__6 fU3__8 fU3__9 HS7
                  clear fU2__3 fU2__4 fU2__6 fU2__8 fU2__9 fU2__16 tU2__3 tU2__4 tU2__6 tU2__8 tU2__9 tU2__16
                  have tU3__3 := gat hsU3_ (by decide) fU3__3
                  have tU3__4 := gat hsU3_ (by decide) fU3__4
                  have tU3__6 := gat hsU3_ (by decide) fU3__6
                  have tU3__8 := gat hsU3_ (by decide) fU3__8
                  have tU3__9 := gat hsU3_ (by decide) fU3__9
                  refine hK3 _ _ ?_
                  clear hK3 K3
                  have hst1 : adI hs (rdI ws hs 64) 8 = hst m2 (b + 1) := by rw [HWS.out, HHS.out, HAT.out]; rfl
                  rw [hst1] at HS7
                  clear hst1 HS6 HV6
                  have qa : IntKind.i64.wrap ((at_ : Int) + 64) = ((64 * (b + 1) : Nat) : Int) := by rw [IntKind.wrap_i64]; have := HAT.out; have := HM40.out; have := HLT.out; omega
                  refine wp_region_lit ?_
                  refine wpList_plain rfl (fun K hK => ?_); go_simp; refine hK _ _ ?_; clear hK K
                  refine wpList_plain rfl (fun K hK => ?_); go_simp; refine hK _ _ ?_; clear hK K
                  refine wpList_plain rfl (fun K hK => ?_); go_simp; refine hK _ _ ?_; clear hK K
                  refine wpList_nil ?_
                  refine absG (R := Exit.then _ _ Exit.normal) (fun T15_ hT => ?_)
                  have hsT15_ : T15_.size = 300 := by rw [hT]; simp only [Array.size_setIfInBounds]; exact hsU3_
                  have fT15__3 : T15_[3]? = _ := (congrArg (fun X_ : Array Value => X_[3]?) hT).trans (gq_ne (d := 9) (by decide) (gq_ne (d := 61) (by decide) (gq_ne (d := 60) (by decide) (fU3__3))))
                  have fT15__4 : T15_[4]? = _ := (congrArg (fun X_ : Array Value => X_[4]?) hT).trans (gq_ne (d := 9) (by decide) (gq_ne (d := 61) (by decide) (gq_ne (d := 60) (by decide) (fU3__4))))
                  have fT15__6 : T15_[6]? = _ := (congrArg (fun X_ : Array Value => X_[6]?) hT).trans (gq_ne (d := 9) (by decide) (gq_ne (d := 61) (by decide) (gq_ne (d := 60) (by decide) (fU3__6))))
                  have fT15__8 : T15_[8]? = _ := (congrArg (fun X_ : Array Value => X_[8]?) hT).trans (gq_ne (d := 9) (by decide) (gq_ne (d := 61) (by decide) (gq_ne (d := 60) (by decide) (fU3__8))))
                  have fT15__9 : T15_[9]? = _ := (congrArg (fun X_ : Array Value => X_[9]?) hT).trans (gq_eq (i := 9) (by simp only [Array.size_setIfInBounds, hsU3_]; decide))
                  clear hT
                  clear fU3__3 tU3__3 fU3__4 tU3__4 fU3__6 tU3__6 fU3__8 tU3__8 fU3__9 tU3__9 hsU3_
                  have tT15__3 := gat hsT15_ (by decide) fT15__3
                  have tT15__4 := gat hsT15_ (by decide) fT15__4
                  have tT15__6 := gat hsT15_ (by decide) fT15__6
                  have tT15__8 := gat hsT15_ (by decide) fT15__8
                  have tT15__9 := gat hsT15_ (by decide) fT15__9
                  have hm8 : (at_ : Int) + 64 ≤ (m2.length : Int) := by have := HLT.out; omega
                  refine ⟨⟨_, b + 1, rfl, hsT15_, fT15__3, fT15__4, fT15__6, fT15__8, fT15__9, by have := HAT.out; have := HLT.out; omega, ⟨HS7.out.own⟩, ⟨HS7.out.kh⟩, ⟨HS7.out.kk⟩⟩, by show _ - (intOf (T15_[9]?.getD undef)).toNat < _ - (intOf (T1_[9]?.getD undef)).toNat; rw [fT15__9, fT1__9]; show m2.length - ((64 * (b + 1) : Nat) : Int).toNat < m2.length - ((at_ : Nat) : Int).toNat; rw [Int.toNat_natCast, Int.toNat_natCast]; have := HAT.out; have := HLT.out; omega⟩
            · skip
              have hb64 : b = m2.length / 64 := by have := HN.out; omega
              have hle : ¬ ((at_ : Int) < (m2.length : Int)) := by omega
              refine wp_seq_k (fun K23 hK23 => ?_)
              refine wp_seq_k (fun K24 hK24 => ?_)
              refine wp_region_lit ?_
              refine wpList_plain rfl (fun K hK => ?_); go_simp; refine hK _ _ ?_; clear hK K
              refine wpList_plain rfl (fun K hK => ?_); go_simp; refine hK _ _ ?_; clear hK K
              refine wpList_plain rfl (fun K hK => ?_); go_simp; refine hK _ _ ?_; clear hK K
              refine wpList_plain rfl (fun K hK => ?_); go_simp; refine hK _ _ ?_; clear hK K
              refine wpList_nil ?_
              refine hK24 _ _ ?_
              clear hK24 K24
              refine absR (fun T16_ hT => ?_)
              have hsT16_ : T16_.size = 300 := by rw [hT]; simp only [Array.size_setIfInBounds]; exact hsT1_
              have fT16__3 : T16_[3]? = _ := (congrArg (fun X_ : Array Value => X_[3]?) hT).trans (gq_ne (d := 59) (by decide) (gq_ne (d := 58) (by decide) (gq_ne (d := 57) (by decide) (gq_ne (d := 56) (by decide) (fT1__3)))))
              have fT16__59 : T16_[59]? = _ := (congrArg (fun X_ : Array Value => X_[59]?) hT).trans (gq_eq (i := 59) (by simp only [Array.size_setIfInBounds, hsT1_]; decide))
              clear hT
              clear tT1__3 tT1__4 tT1__6 tT1__8 tT1__9
              have tT16__3 := gat hsT16_ (by decide) fT16__3
              have tT16__59 := gat hsT16_ (by decide) fT16__59
              refine wp_cond_false ((gev fT16__59).trans (congrArg Value.bool (by first | rfl | (simp; omega) | (simp; done)))) ?_
              refine wp_exit ?_
              refine hKX _ _ ?_
              clear hK23 K23 hKX KX
              obtain ⟨hs, hhs⟩ : ∃ hs, hs = hst m2 b := ⟨_, rfl⟩
              have hs8 : hs.length = 8 := by rw [hhs]; exact hst_len _ _
              rw [← hhs] at KH1
              have HFIN := Aside0.mk (show outL hs 8 = sumF l from by rw [hhs, hb64, HMsg.out]; rfl)
              clear hhs
              refine wp_seq_k (fun K25 hK25 => ?_)
              refine wp_region_lit ?_
              refine wpList_plain rfl (fun K hK => ?_); go_simp; refine hK _ _ ?_; clear hK K
              refine wpList_nil ?_
              refine hK25 _ _ ?_
              clear hK25 K25
              refine absR (fun T17_ hT => ?_)
              have hsT17_ : T17_.size = 300 := by rw [hT]; simp only [Array.size_setIfInBounds]; exact hsT16_
              have fT17__3 : T17_[3]? = _ := (congrArg (fun X_ : Array Value => X_[3]?) hT).trans (gq_ne (d := 24) (by decide) (fT16__3))
              have fT17__24 : T17_[24]? = _ := (congrArg (fun X_ : Array Value => X_[24]?) hT).trans (gq_eq (i := 24) (by simp only [Array.size_setIfInBounds, hsT16_]; decide))
              clear hT
              clear fT16__3 tT16__3 fT16__59 tT16__59 hsT16_
              have tT17__3 := gat hsT17_ (by decide) fT17__3
              have tT17__24 := gat hsT17_ (by decide) fT17__24
              refine wp_seq_k (fun K26 hK26 => ?_)
              refine su_out _ rfl _ T17_ w _ gh hs hsT17_ fT17__3 fT17__24 ⟨⟨Kd.R_nil _ _ _ _ _, HO1.out.below⟩⟩ KH1 hs8 ?_
              intro U4_ w9 v9 hsU4_ fU4__24 HO9
              clear fT17__3 fT17__24 tT17__3 tT17__24
              have tU4__24 := gat hsU4_ (by decide) fU4__24
              refine hK26 _ _ ?_
              clear hK26 K26
              refine wp_seq_k (fun K27 hK27 => ?_)
              refine wp_region_lit ?_
              refine wpList_plain rfl (fun K hK => ?_); go_simp; refine hK _ _ ?_; clear hK K
              refine wpList_plain rfl (fun K hK => ?_); go_simp; refine hK _ _ ?_; clear hK K
              refine wpList_nil ?_
              refine hK27 _ _ ?_
              clear hK27 K27
              refine absR (fun T18_ hT => ?_)
              have hsT18_ : T18_.size = 300 := by rw [hT]; simp only [Array.size_setIfInBounds]; exact hsU4_
              have fT18__2 : T18_[2]? = _ := (congrArg (fun X_ : Array Value => X_[2]?) hT).trans (gq_eq (i := 2) (by simp only [Array.size_setIfInBounds, hsU4_]; decide))
              clear hT
              clear fU4__24 tU4__24 hsU4_
              have tT18__2 := gat hsT18_ (by decide) fT18__2
              refine wp_ret ?_
              refine bodyPost_ret (results_tmp rfl _ _ _) rfl ?_
              exact ⟨v9, by rw [Array.getD_eq_getD_getElem?, fT18__2]; rfl, HO9.out.of_eq HFIN.out⟩
end Go.Proofs.Ytlnknihjccdgkaa.M
