/- The law's end: two messages, told as strings, are the same. -/
import Derived.Test.YtlnknihjccdgkaaF1
namespace Go.Proofs.Ytlnknihjccdgkaa.M
open Go.RowKit Go.Proofs.YtlnknihjccdgkaaW.PrintWords Go.Proofs.YtlnknihjccdgkaaW.PrintLast Go.Proofs.YtlnknihjccdgkaaW.PrintMore Go.Proofs.Ytlnknihjccdgkaa.PFnMessage
set_option linter.unusedVariables false
set_option linter.unusedSimpArgs false

/-- Bytes stay readable where a block without bytes is written. -/
theorem RdB.keep {w w1 : World} {v : Value} {l : List Int} {g t : Nat} {cs : Array Value} (h : RdB w v l) (hg : w.heap[g]? = some (.cells cs t (0, 0))) (hno : ∀ (o : Nat) (x : Int), cs[o]? ≠ some (.int .u8 x)) (hk : KeepBut w w1 g none) : RdB w1 v l := by
  obtain ⟨A, c, rfl, hc, hr⟩ := h
  refine ⟨A, c, rfl, hc, Kd.C_foot_ne (d := Kd.int .u8) (fun h => h) hr ?_ w1 hk⟩
  intro ad e hn e2
  obtain ⟨ad', e', hcell⟩ := hr.2.2 hn
  rw [e] at e'
  injection e' with e'
  subst e'
  obtain ⟨x, hx⟩ : ∃ x, l[0]? = some x := ⟨_, List.getElem?_eq_getElem hn⟩
  obtain ⟨c', hl, hK, hcc⟩ := hcell 0 x hx
  have hK' : c' = [.int .u8 x] := hK
  subst hK'
  have h0 := hcc 0 _ rfl
  unfold World.cell? at h0
  rw [show (ad.add (0 * (Kd.int .u8).sz + 0)).block = ad.block from rfl, e2, hg] at h0
  simp only [] at h0
  split at h0
  · cases h0
  · exact hno _ _ h0
theorem IdOk.keep {w w1 : World} {v1 v2 : Value} {p : Int} {ob : Option (List Int × Int × List Int)} {g t : Nat} {cs : Array Value} (h : IdOk w v1 p v2 ob) (hg : w.heap[g]? = some (.cells cs t (0, 0))) (hno : ∀ (o : Nat) (x : Int), cs[o]? ≠ some (.int .u8 x)) (hk : KeepBut w w1 g none) : IdOk w1 v1 p v2 ob := by
  rcases ob with _ | ⟨l1, q, l2⟩
  · exact ⟨h.1.keep hg hno hk, h.2.1, h.2.2.keep hg hno hk⟩
  · exact ⟨h.1.keep hg hno hk, h.2.1, h.2.2.1.keep hg hno hk, h.2.2.2⟩
theorem ivote_one (kind height round place : Int) (addr : ByteArray) (A1 : Option Addr) (n1 c1 : Nat) (parts : Int) (A2 : Option Addr) (n2 c2 : Nat) (s ns : Int) (A3 : Option Addr) (n3 c3 : Nat) : (ivoteCells kind height round place addr (.slice A1 n1 c1) parts (.slice A2 n2 c2) s ns (.slice A3 n3 c3)).all (·.oneCell') = true := by
  simp [ivoteCells, Value.oneCell']
def zcells : Array Value := #[.int .i64 0, .int .i64 0, .int .i64 0, .int .i64 0, .string ByteArray.empty, .slice none 0 0, .int .i64 0, .slice none 0 0, .int .i64 0, .int .i64 0, .slice none 0 0]
theorem zcells_no (o : Nat) (x : Int) : zcells[o]? ≠ some (.int .u8 x) := by
  intro h
  have hm := Array.mem_of_getElem? h
  simp [zcells] at hm

theorem str_of {w : World} {A : Option Addr} {l : List Int} {c : Nat} (h : RdB w (.slice A l.length c) l) : (convert 25 9 (.slice A l.length c)).run Try.prog w = .ok (.string (strOfNums l)) w := by
  obtain ⟨A', c', e, _, hr⟩ := h
  injection e with e1 _ e3
  subst e1
  exact Kd.C_string Try.underlying25 Try.underlying5 Try.underlying9 hr
set_option maxHeartbeats 8000000 in
set_option maxRecDepth 1000000 in
theorem msg_tail (C : Code) (hC : C = at_ [1, 1, 1] (Try.f3.body.getD .skip)) (w wr : World) (chain : ByteArray) (ga : Nat) (kind height round : Int) (A1 : Option Addr) (n1 c1 : Nat) (p : Int) (A2 : Option Addr) (n2 c2 : Nat) (s ns : Int) (ob : Option (List Int × Int × List Int)) (u1 u2 u3 u4 u5 u6 u7 u8 u9 u10 u11 u12 u14 u15 u16 u17 u18 u19 u20 u21 u22 u23 u24 u25 u26 u27 u28 u29 u30 u31 u32 u33 u34 u35 u36 u37 u38 u39 u40 u41 u42 u43 u44 u45 u46 u47 u48 u49 u50 u51 : Value)
    (hN : NumOk kind height round s ns) (HI : Aside0 (IdOk wr (.slice A1 n1 c1) p (.slice A2 n2 c2) ob)) (HB : Aside0 (Below w.heap.size w wr))
    (HA : Aside0 (wr.heap[ga]? = some (.cells (ivoteCells kind height round 0 ByteArray.empty (.slice A1 n1 c1) p (.slice A2 n2 c2) s ns (.slice none 0 0)) 31 (0, 0)))) (hch : chain.size ≤ 2147483647) :
    Code.wp Try.prog C (bodyPost Try.prog Try.f3 (fun e w' => e = .returned (.bool true) ∧ Below w.heap.size w w')) ⟨#[.string chain, u1, u2, u3, u4, u5, u6, u7, u8, u9, u10, u11, u12, .pointer (some ⟨ga, 0, none⟩), u14, u15, u16, u17, u18, u19, u20, u21, u22, u23, u24, u25, u26, u27, u28, u29, u30, u31, u32, u33, u34, u35, u36, u37, u38, u39, u40, u41, u42, u43, u44, u45, u46, u47, u48, u49, u50, u51], []⟩ wr := by
  subst hC
  conv => arg 2; whnf
  have HN := Aside0.mk hN
  clear hN
  have hmin : (0 ≤ if (200 : Int) < (chain.size : Int) then 200 else (chain.size : Int)) ∧ (if (200 : Int) < (chain.size : Int) then 200 else (chain.size : Int)) ≤ (chain.size : Int) := ⟨by split <;> omega, by split <;> omega⟩
  refine wp_seq_k (fun K1 hK1 => ?_)
  refine wp_region_lit ?_
  refine wpList_plain rfl (fun K hK => ?_); go_simp; refine hK _ _ ?_; clear hK K
  refine wpList_plain rfl (fun K hK => ?_); go_simp; refine hK _ _ ?_; clear hK K
  refine wpList_plain rfl (fun K hK => ?_); go_simp; refine hK _ _ ?_; clear hK K
  refine wpList_plain rfl (fun K hK => ?_); go_simp; refine hK _ _ ?_; clear hK K
  refine wpList_plain rfl (fun K hK => ?_); go_simp; refine hK _ _ ?_; clear hK K
  refine wpList_plain rfl (fun K hK => ?_); go_simp; refine hK _ _ ?_; clear hK K
  refine wpList_nil ?_
  refine hK1 _ _ ?_
  clear hK1 K1
  obtain ⟨ch, hc2⟩ : ∃ ch, ch = chain.extract 0 (if (200 : Int) < (chain.size : Int) then 200 else (chain.size : Int)).toNat := ⟨_, rfl⟩
  rw [← hc2]
  have hcs : ch.size ≤ 2147483647 := by rw [hc2, ByteArray.size_extract]; omega
  have HCS := Aside0.mk hcs
  clear hc2 hcs hmin hch
  refine wp_seq_k (fun K1 hK1 => ?_)
  have HB1 := Aside0.mk (below_drew HB.out)
  have HI1 := Aside0.mk (HI.out.below (below_drew (Below.refl _ _)))
  have HA1 := Aside0.mk (blk_drew HA.out)
  clear HB HI HA
  obtain ⟨L, hL⟩ : ∃ L, L = delim (body (bytesOf ch) kind height round (idB ob) s ns) := ⟨_, rfl⟩
  have HL := Aside0.mk hL
  clear hL
  refine start_ (n := 11) (S := fun w' => w'.cell? ⟨ga, 0, none⟩ = some (.int .i64 kind) ∧ w'.cell? ⟨ga, 1, none⟩ = some (.int .i64 height) ∧ w'.cell? ⟨ga, 2, none⟩ = some (.int .i64 round) ∧ w'.cell? ⟨ga, 3, none⟩ = some (.int .i64 0) ∧ w'.cell? ⟨ga, 4, none⟩ = some (.string ByteArray.empty) ∧ w'.cell? ⟨ga, 5, none⟩ = some (.slice A1 n1 c1) ∧ w'.cell? ⟨ga, 6, none⟩ = some (.int .i64 p) ∧ w'.cell? ⟨ga, 7, none⟩ = some (.slice A2 n2 c2) ∧ w'.cell? ⟨ga, 8, none⟩ = some (.int .i64 s) ∧ w'.cell? ⟨ga, 9, none⟩ = some (.int .i64 ns) ∧ w'.cell? ⟨ga, 10, none⟩ = some (.slice none 0 0)) (ds := []) #[false, false, false, false, false, false, false, false, false, false, false] (by kernel_rfl) rfl rfl ⟨(blk_cell HA1.out 0).trans rfl, (blk_cell HA1.out 1).trans rfl, (blk_cell HA1.out 2).trans rfl, (blk_cell HA1.out 3).trans rfl, (blk_cell HA1.out 4).trans rfl, (blk_cell HA1.out 5).trans rfl, (blk_cell HA1.out 6).trans rfl, (blk_cell HA1.out 7).trans rfl, (blk_cell HA1.out 8).trans rfl, (blk_cell HA1.out 9).trans rfl, (blk_cell HA1.out 10).trans rfl⟩ (fun hHeld => ?_)
  generalize (World.drew wr) = w1 at HB1 HI1 HA1 hHeld ⊢
  refine pure_ (i := 0) (N := some 42) (v := ?_) (a' := ?_) #[true, false, false, false, false, false, false, false, false, false, false] rfl rfl (by kernel_rfl) (fun _ _ _ h => h) (Or.inl ⟨by rfl, ?_⟩) ?_ ?_
  rotate_left
  · intro w'
    go_simp
    with_reducible rfl
  rotate_left
  · simp only [Act.put, qA, q0, qS, i64_w, i32_w]
    rfl
  refine pure_ (i := 6) (N := some 48) (v := ?_) (a' := ?_) #[true, false, false, false, false, false, true, false, false, false, false] rfl rfl (by kernel_rfl) (fun _ _ _ h => h) (Or.inl ⟨by rfl, ?_⟩) ?_ ?_
  rotate_left
  · intro w'
    go_simp
    with_reducible rfl
  rotate_left
  · simp only [Act.put, qA, q0, qS, i64_w, i32_w]
    rfl
  refine take_ (i := 1) (N := some 43) (v := ?_) (a' := ?_) #[true, true, false, false, false, false, true, false, false, false, false] rfl rfl (by kernel_rfl) (fun _ _ _ h => h) (Or.inl ⟨by rfl, ?_⟩) hHeld ?_ ?_
  rotate_left
  · rintro w' ⟨s0, s1, s2, s3, s4, s5, s6, s7, s8, s9, s10⟩
    go_simp
    with_reducible rfl
  rotate_left
  · simp only [Act.put, qA, q0, qS, i64_w, i32_w]
    rfl
  refine take_ (i := 4) (N := some 46) (v := ?_) (a' := ?_) #[true, true, false, false, true, false, true, false, false, false, false] rfl rfl (by kernel_rfl) (fun _ _ _ h => h) (Or.inl ⟨by rfl, ?_⟩) hHeld ?_ ?_
  rotate_left
  · rintro w' ⟨s0, s1, s2, s3, s4, s5, s6, s7, s8, s9, s10⟩
    go_simp
    with_reducible rfl
  rotate_left
  · simp only [Act.put, qA, q0, qS, i64_w, i32_w]
    rfl
  refine one_ (i := 2) (N := some 44) #[true, true, true, false, true, false, true, false, false, false, false] rfl rfl (by kernel_rfl) (by decide) (fun K hK => ?_)
  have hcl := imessage ch kind height round 0 ByteArray.empty (.slice A1 n1 c1) p (.slice A2 n2 c2) s ns (.slice none 0 0) w1 ob HN.out HI1.out ⟨_, _, _, rfl⟩ (by decide) (by decide) (by have := HCS.out; omega)
  unfold ivoteCells at hcl
  refine goes_ Try.func6 (by kernel_rfl) rfl #[.string ch, .agg #[.int .i64 kind, .int .i64 height, .int .i64 round, .int .i64 0, .string ByteArray.empty, .slice A1 n1 c1, .int .i64 p, .slice A2 n2 c2, .int .i64 s, .int .i64 ns, .slice none 0 0]] (by rfl) rfl rfl (by simp only [List.map_toArray, List.map_cons, List.map_nil]; rfl) ?_
  with_reducible refine (hcl).mono ?_
  rintro e w3 ⟨u1, rfl, ho⟩
  refine ⟨_, rfl, ?_⟩
  rw [← HL.out] at ho
  obtain ⟨A3, c3, e3, _⟩ := ho.drewn
  subst e3
  have hr1 := Aside0.mk ho.rdB
  have n0_ := Aside0.mk (below_step HB1.out ho.below)
  have n1_ := Aside0.mk (IdOk.below HI1.out ho.below)
  have n2_ := Aside0.mk (blk_below HA1.out ho.below)
  clear HB1 HI1 HA1
  have HB1 := n0_
  have HI1 := n1_
  have HA1 := n2_
  clear n0_ n1_ n2_
  have R1 := hr1
  clear hr1 ho hcl
  refine hK.out _ _ ⟨(blk_cell HA1.out 0).trans rfl, (blk_cell HA1.out 1).trans rfl, (blk_cell HA1.out 2).trans rfl, (blk_cell HA1.out 3).trans rfl, (blk_cell HA1.out 4).trans rfl, (blk_cell HA1.out 5).trans rfl, (blk_cell HA1.out 6).trans rfl, (blk_cell HA1.out 7).trans rfl, (blk_cell HA1.out 8).trans rfl, (blk_cell HA1.out 9).trans rfl, (blk_cell HA1.out 10).trans rfl⟩ (fun hHeld => ?_)
  clear hK K
  refine norm_ (a' := ?_) ?_ ?_
  rotate_left
  · show Act.put _ (some 44) _ = _
    simp only [Act.put, qA, q0, qS, i64_w, i32_w]
    rfl
  refine join_ (σ := Option Addr × Nat) 2 #[true, true, true, true, true, true, true, true, true, false, false] (fun s_ => [(45, .string (strOfNums L)), (47, .agg #[.int .i64 kind, .int .i64 height, .int .i64 round, .int .i64 0, .string ByteArray.empty, .slice A1 n1 c1, .int .i64 p, .slice A2 n2 c2, .int .i64 s, .int .i64 ns, .slice none 0 0]), (49, .slice s_.1 L.length s_.2), (50, .string (strOfNums L))]) (fun s_ w' => Below w.heap.size w w' ∧ w'.heap[ga]? = some (.cells #[.int .i64 kind, .int .i64 height, .int .i64 round, .int .i64 0, .string ByteArray.empty, .slice A1 n1 c1, .int .i64 p, .slice A2 n2 c2, .int .i64 s, .int .i64 ns, .slice none 0 0] 31 (0, 0))) ?_ ?_
  rotate_left
  · intro hCont
    refine two_ (i := 3) (j := 5) (Ni := some 45) (Nj := some 47) #[true, true, true, true, true, false, true, false, false, false, false] #[true, true, true, false, true, true, true, false, false, false, false] rfl rfl rfl rfl (by kernel_rfl) (by decide) (by decide) (fun K hK => ?_) (fun K hK => ?_)
    · skip
      have hcv := str_of R1.out
      refine value_ (w1 := ?_) (v := ?_) (by rfl) rfl ?_ ?_
      rotate_left 2
      · go_simp
        constructor
        · rfl
        · rfl
      clear hcv
      refine hK.out _ _ ⟨(blk_cell HA1.out 0).trans rfl, (blk_cell HA1.out 1).trans rfl, (blk_cell HA1.out 2).trans rfl, (blk_cell HA1.out 3).trans rfl, (blk_cell HA1.out 4).trans rfl, (blk_cell HA1.out 5).trans rfl, (blk_cell HA1.out 6).trans rfl, (blk_cell HA1.out 7).trans rfl, (blk_cell HA1.out 8).trans rfl, (blk_cell HA1.out 9).trans rfl, (blk_cell HA1.out 10).trans rfl⟩ (fun hHeld => ?_)
      clear hK K
      refine norm_ (a' := ?_) ?_ ?_
      rotate_left
      · show Act.put _ (some 45) _ = _
        simp only [Act.put, qA, q0, qS, i64_w, i32_w]
        rfl
      refine one_ (i := 5) (N := some 47) #[true, true, true, true, true, true, true, false, false, false, false] rfl rfl (by kernel_rfl) (by decide) (fun K hK => ?_)
      have hcl := vote_c kind height round 0 ByteArray.empty A1 n1 c1 p A2 n2 c2 s ns none 0 0 w3
      unfold ivoteCells at hcl
      refine goes_ Try.func7 (by kernel_rfl) rfl #[.agg #[.int .i64 kind, .int .i64 height, .int .i64 round, .int .i64 0, .string ByteArray.empty, .slice A1 n1 c1, .int .i64 p, .slice A2 n2 c2, .int .i64 s, .int .i64 ns, .slice none 0 0]] (by rfl) rfl rfl (by simp only [List.map_toArray, List.map_cons, List.map_nil]; rfl) ?_
      with_reducible refine (hcl).mono ?_
      rintro e w3 ⟨rfl, hb⟩
      refine ⟨_, rfl, ?_⟩
      have n0_ := Aside0.mk (below_step HB1.out hb)
      have n1_ := Aside0.mk (IdOk.below HI1.out hb)
      have n2_ := Aside0.mk (blk_below HA1.out hb)
      have n3_ := Aside0.mk (RdB.below R1.out hb)
      clear HB1 HI1 HA1 R1
      have HB1 := n0_
      have HI1 := n1_
      have HA1 := n2_
      have R1 := n3_
      clear n0_ n1_ n2_ n3_
      clear hb hcl
      refine hK.out _ _ ⟨(blk_cell HA1.out 0).trans rfl, (blk_cell HA1.out 1).trans rfl, (blk_cell HA1.out 2).trans rfl, (blk_cell HA1.out 3).trans rfl, (blk_cell HA1.out 4).trans rfl, (blk_cell HA1.out 5).trans rfl, (blk_cell HA1.out 6).trans rfl, (blk_cell HA1.out 7).trans rfl, (blk_cell HA1.out 8).trans rfl, (blk_cell HA1.out 9).trans rfl, (blk_cell HA1.out 10).trans rfl⟩ (fun hHeld => ?_)
      clear hK K
      refine norm_ (a' := ?_) ?_ ?_
      rotate_left
      · show Act.put _ (some 47) _ = _
        simp only [Act.put, qA, q0, qS, i64_w, i32_w]
        rfl
      refine one_ (i := 7) (N := some 49) #[true, true, true, true, true, true, true, true, false, false, false] rfl rfl (by kernel_rfl) (by decide) (fun K hK => ?_)
      have hcl := smessage ch kind height round 0 ByteArray.empty A1 n1 c1 p A2 n2 c2 s ns none 0 0 ob w3 HN.out HI1.out (by have := HCS.out; omega)
      unfold ivoteCells at hcl
      refine goes_ Try.func8 (by kernel_rfl) rfl #[.agg #[.int .i64 kind, .int .i64 height, .int .i64 round, .int .i64 0, .string ByteArray.empty, .slice A1 n1 c1, .int .i64 p, .slice A2 n2 c2, .int .i64 s, .int .i64 ns, .slice none 0 0], .string ch] (by rfl) rfl rfl (by simp only [List.map_toArray, List.map_cons, List.map_nil]; rfl) ?_
      with_reducible refine (hcl).mono ?_
      rintro e w4 ⟨u2, rfl, ho⟩
      refine ⟨_, rfl, ?_⟩
      rw [← HL.out] at ho
      obtain ⟨A4, c4, e4, _⟩ := ho.drewn
      subst e4
      have hr2 := Aside0.mk ho.rdB
      have n0_ := Aside0.mk (below_step HB1.out ho.below)
      have n1_ := Aside0.mk (IdOk.below HI1.out ho.below)
      have n2_ := Aside0.mk (blk_below HA1.out ho.below)
      have n3_ := Aside0.mk (RdB.below R1.out ho.below)
      clear HB1 HI1 HA1 R1
      have HB1 := n0_
      have HI1 := n1_
      have HA1 := n2_
      have R1 := n3_
      clear n0_ n1_ n2_ n3_
      have R2 := hr2
      clear hr2 ho hcl
      refine hK.out _ _ ⟨(blk_cell HA1.out 0).trans rfl, (blk_cell HA1.out 1).trans rfl, (blk_cell HA1.out 2).trans rfl, (blk_cell HA1.out 3).trans rfl, (blk_cell HA1.out 4).trans rfl, (blk_cell HA1.out 5).trans rfl, (blk_cell HA1.out 6).trans rfl, (blk_cell HA1.out 7).trans rfl, (blk_cell HA1.out 8).trans rfl, (blk_cell HA1.out 9).trans rfl, (blk_cell HA1.out 10).trans rfl⟩ (fun hHeld => ?_)
      clear hK K
      refine norm_ (a' := ?_) ?_ ?_
      rotate_left
      · show Act.put _ (some 49) _ = _
        simp only [Act.put, qA, q0, qS, i64_w, i32_w]
        rfl
      refine one_ (i := 8) (N := some 50) #[true, true, true, true, true, true, true, true, true, false, false] rfl rfl (by kernel_rfl) (by decide) (fun K hK => ?_)
      have hcv := str_of R2.out
      refine value_ (w1 := ?_) (v := ?_) (by rfl) rfl ?_ ?_
      rotate_left 2
      · go_simp
        constructor
        · rfl
        · rfl
      clear hcv
      refine hK.out _ _ ⟨(blk_cell HA1.out 0).trans rfl, (blk_cell HA1.out 1).trans rfl, (blk_cell HA1.out 2).trans rfl, (blk_cell HA1.out 3).trans rfl, (blk_cell HA1.out 4).trans rfl, (blk_cell HA1.out 5).trans rfl, (blk_cell HA1.out 6).trans rfl, (blk_cell HA1.out 7).trans rfl, (blk_cell HA1.out 8).trans rfl, (blk_cell HA1.out 9).trans rfl, (blk_cell HA1.out 10).trans rfl⟩ (fun hHeld => ?_)
      clear hK K
      refine norm_ (a' := ?_) ?_ ?_
      rotate_left
      · show Act.put _ (some 50) _ = _
        simp only [Act.put, qA, q0, qS, i64_w, i32_w]
        rfl
      exact norm_ (by first | (simp only [putAll, Act.put, qA, q0, qS]; done) | (simp only [putAll, Act.put, qA, q0, qS]; rfl)) (hCont (_, _) _ ⟨HB1.out, HA1.out⟩)
    · skip
      have hcl := vote_c kind height round 0 ByteArray.empty A1 n1 c1 p A2 n2 c2 s ns none 0 0 w3
      unfold ivoteCells at hcl
      refine goes_ Try.func7 (by kernel_rfl) rfl #[.agg #[.int .i64 kind, .int .i64 height, .int .i64 round, .int .i64 0, .string ByteArray.empty, .slice A1 n1 c1, .int .i64 p, .slice A2 n2 c2, .int .i64 s, .int .i64 ns, .slice none 0 0]] (by rfl) rfl rfl (by simp only [List.map_toArray, List.map_cons, List.map_nil]; rfl) ?_
      with_reducible refine (hcl).mono ?_
      rintro e w3 ⟨rfl, hb⟩
      refine ⟨_, rfl, ?_⟩
      have n0_ := Aside0.mk (below_step HB1.out hb)
      have n1_ := Aside0.mk (IdOk.below HI1.out hb)
      have n2_ := Aside0.mk (blk_below HA1.out hb)
      have n3_ := Aside0.mk (RdB.below R1.out hb)
      clear HB1 HI1 HA1 R1
      have HB1 := n0_
      have HI1 := n1_
      have HA1 := n2_
      have R1 := n3_
      clear n0_ n1_ n2_ n3_
      clear hb hcl
      refine hK.out _ _ ⟨(blk_cell HA1.out 0).trans rfl, (blk_cell HA1.out 1).trans rfl, (blk_cell HA1.out 2).trans rfl, (blk_cell HA1.out 3).trans rfl, (blk_cell HA1.out 4).trans rfl, (blk_cell HA1.out 5).trans rfl, (blk_cell HA1.out 6).trans rfl, (blk_cell HA1.out 7).trans rfl, (blk_cell HA1.out 8).trans rfl, (blk_cell HA1.out 9).trans rfl, (blk_cell HA1.out 10).trans rfl⟩ (fun hHeld => ?_)
      clear hK K
      refine norm_ (a' := ?_) ?_ ?_
      rotate_left
      · show Act.put _ (some 47) _ = _
        simp only [Act.put, qA, q0, qS, i64_w, i32_w]
        rfl
      refine two_ (i := 3) (j := 7) (Ni := some 45) (Nj := some 49) #[true, true, true, true, true, true, true, false, false, false, false] #[true, true, true, false, true, true, true, true, false, false, false] rfl rfl rfl rfl (by kernel_rfl) (by decide) (by decide) (fun K hK => ?_) (fun K hK => ?_)
      · skip
        have hcv := str_of R1.out
        refine value_ (w1 := ?_) (v := ?_) (by rfl) rfl ?_ ?_
        rotate_left 2
        · go_simp
          constructor
          · rfl
          · rfl
        clear hcv
        refine hK.out _ _ ⟨(blk_cell HA1.out 0).trans rfl, (blk_cell HA1.out 1).trans rfl, (blk_cell HA1.out 2).trans rfl, (blk_cell HA1.out 3).trans rfl, (blk_cell HA1.out 4).trans rfl, (blk_cell HA1.out 5).trans rfl, (blk_cell HA1.out 6).trans rfl, (blk_cell HA1.out 7).trans rfl, (blk_cell HA1.out 8).trans rfl, (blk_cell HA1.out 9).trans rfl, (blk_cell HA1.out 10).trans rfl⟩ (fun hHeld => ?_)
        clear hK K
        refine norm_ (a' := ?_) ?_ ?_
        rotate_left
        · show Act.put _ (some 45) _ = _
          simp only [Act.put, qA, q0, qS, i64_w, i32_w]
          rfl
        refine one_ (i := 7) (N := some 49) #[true, true, true, true, true, true, true, true, false, false, false] rfl rfl (by kernel_rfl) (by decide) (fun K hK => ?_)
        have hcl := smessage ch kind height round 0 ByteArray.empty A1 n1 c1 p A2 n2 c2 s ns none 0 0 ob w3 HN.out HI1.out (by have := HCS.out; omega)
        unfold ivoteCells at hcl
        refine goes_ Try.func8 (by kernel_rfl) rfl #[.agg #[.int .i64 kind, .int .i64 height, .int .i64 round, .int .i64 0, .string ByteArray.empty, .slice A1 n1 c1, .int .i64 p, .slice A2 n2 c2, .int .i64 s, .int .i64 ns, .slice none 0 0], .string ch] (by rfl) rfl rfl (by simp only [List.map_toArray, List.map_cons, List.map_nil]; rfl) ?_
        with_reducible refine (hcl).mono ?_
        rintro e w4 ⟨u2, rfl, ho⟩
        refine ⟨_, rfl, ?_⟩
        rw [← HL.out] at ho
        obtain ⟨A4, c4, e4, _⟩ := ho.drewn
        subst e4
        have hr2 := Aside0.mk ho.rdB
        have n0_ := Aside0.mk (below_step HB1.out ho.below)
        have n1_ := Aside0.mk (IdOk.below HI1.out ho.below)
        have n2_ := Aside0.mk (blk_below HA1.out ho.below)
        have n3_ := Aside0.mk (RdB.below R1.out ho.below)
        clear HB1 HI1 HA1 R1
        have HB1 := n0_
        have HI1 := n1_
        have HA1 := n2_
        have R1 := n3_
        clear n0_ n1_ n2_ n3_
        have R2 := hr2
        clear hr2 ho hcl
        refine hK.out _ _ ⟨(blk_cell HA1.out 0).trans rfl, (blk_cell HA1.out 1).trans rfl, (blk_cell HA1.out 2).trans rfl, (blk_cell HA1.out 3).trans rfl, (blk_cell HA1.out 4).trans rfl, (blk_cell HA1.out 5).trans rfl, (blk_cell HA1.out 6).trans rfl, (blk_cell HA1.out 7).trans rfl, (blk_cell HA1.out 8).trans rfl, (blk_cell HA1.out 9).trans rfl, (blk_cell HA1.out 10).trans rfl⟩ (fun hHeld => ?_)
        clear hK K
        refine norm_ (a' := ?_) ?_ ?_
        rotate_left
        · show Act.put _ (some 49) _ = _
          simp only [Act.put, qA, q0, qS, i64_w, i32_w]
          rfl
        refine one_ (i := 8) (N := some 50) #[true, true, true, true, true, true, true, true, true, false, false] rfl rfl (by kernel_rfl) (by decide) (fun K hK => ?_)
        have hcv := str_of R2.out
        refine value_ (w1 := ?_) (v := ?_) (by rfl) rfl ?_ ?_
        rotate_left 2
        · go_simp
          constructor
          · rfl
          · rfl
        clear hcv
        refine hK.out _ _ ⟨(blk_cell HA1.out 0).trans rfl, (blk_cell HA1.out 1).trans rfl, (blk_cell HA1.out 2).trans rfl, (blk_cell HA1.out 3).trans rfl, (blk_cell HA1.out 4).trans rfl, (blk_cell HA1.out 5).trans rfl, (blk_cell HA1.out 6).trans rfl, (blk_cell HA1.out 7).trans rfl, (blk_cell HA1.out 8).trans rfl, (blk_cell HA1.out 9).trans rfl, (blk_cell HA1.out 10).trans rfl⟩ (fun hHeld => ?_)
        clear hK K
        refine norm_ (a' := ?_) ?_ ?_
        rotate_left
        · show Act.put _ (some 50) _ = _
          simp only [Act.put, qA, q0, qS, i64_w, i32_w]
          rfl
        exact norm_ (by first | (simp only [putAll, Act.put, qA, q0, qS]; done) | (simp only [putAll, Act.put, qA, q0, qS]; rfl)) (hCont (_, _) _ ⟨HB1.out, HA1.out⟩)
      · skip
        have hcl := smessage ch kind height round 0 ByteArray.empty A1 n1 c1 p A2 n2 c2 s ns none 0 0 ob w3 HN.out HI1.out (by have := HCS.out; omega)
        unfold ivoteCells at hcl
        refine goes_ Try.func8 (by kernel_rfl) rfl #[.agg #[.int .i64 kind, .int .i64 height, .int .i64 round, .int .i64 0, .string ByteArray.empty, .slice A1 n1 c1, .int .i64 p, .slice A2 n2 c2, .int .i64 s, .int .i64 ns, .slice none 0 0], .string ch] (by rfl) rfl rfl (by simp only [List.map_toArray, List.map_cons, List.map_nil]; rfl) ?_
        with_reducible refine (hcl).mono ?_
        rintro e w4 ⟨u2, rfl, ho⟩
        refine ⟨_, rfl, ?_⟩
        rw [← HL.out] at ho
        obtain ⟨A4, c4, e4, _⟩ := ho.drewn
        subst e4
        have hr2 := Aside0.mk ho.rdB
        have n0_ := Aside0.mk (below_step HB1.out ho.below)
        have n1_ := Aside0.mk (IdOk.below HI1.out ho.below)
        have n2_ := Aside0.mk (blk_below HA1.out ho.below)
        have n3_ := Aside0.mk (RdB.below R1.out ho.below)
        clear HB1 HI1 HA1 R1
        have HB1 := n0_
        have HI1 := n1_
        have HA1 := n2_
        have R1 := n3_
        clear n0_ n1_ n2_ n3_
        have R2 := hr2
        clear hr2 ho hcl
        refine hK.out _ _ ⟨(blk_cell HA1.out 0).trans rfl, (blk_cell HA1.out 1).trans rfl, (blk_cell HA1.out 2).trans rfl, (blk_cell HA1.out 3).trans rfl, (blk_cell HA1.out 4).trans rfl, (blk_cell HA1.out 5).trans rfl, (blk_cell HA1.out 6).trans rfl, (blk_cell HA1.out 7).trans rfl, (blk_cell HA1.out 8).trans rfl, (blk_cell HA1.out 9).trans rfl, (blk_cell HA1.out 10).trans rfl⟩ (fun hHeld => ?_)
        clear hK K
        refine norm_ (a' := ?_) ?_ ?_
        rotate_left
        · show Act.put _ (some 49) _ = _
          simp only [Act.put, qA, q0, qS, i64_w, i32_w]
          rfl
        refine two_ (i := 3) (j := 8) (Ni := some 45) (Nj := some 50) #[true, true, true, true, true, true, true, true, false, false, false] #[true, true, true, false, true, true, true, true, true, false, false] rfl rfl rfl rfl (by kernel_rfl) (by decide) (by decide) (fun K hK => ?_) (fun K hK => ?_)
        · skip
          have hcv := str_of R1.out
          refine value_ (w1 := ?_) (v := ?_) (by rfl) rfl ?_ ?_
          rotate_left 2
          · go_simp
            constructor
            · rfl
            · rfl
          clear hcv
          refine hK.out _ _ ⟨(blk_cell HA1.out 0).trans rfl, (blk_cell HA1.out 1).trans rfl, (blk_cell HA1.out 2).trans rfl, (blk_cell HA1.out 3).trans rfl, (blk_cell HA1.out 4).trans rfl, (blk_cell HA1.out 5).trans rfl, (blk_cell HA1.out 6).trans rfl, (blk_cell HA1.out 7).trans rfl, (blk_cell HA1.out 8).trans rfl, (blk_cell HA1.out 9).trans rfl, (blk_cell HA1.out 10).trans rfl⟩ (fun hHeld => ?_)
          clear hK K
          refine norm_ (a' := ?_) ?_ ?_
          rotate_left
          · show Act.put _ (some 45) _ = _
            simp only [Act.put, qA, q0, qS, i64_w, i32_w]
            rfl
          refine one_ (i := 8) (N := some 50) #[true, true, true, true, true, true, true, true, true, false, false] rfl rfl (by kernel_rfl) (by decide) (fun K hK => ?_)
          have hcv := str_of R2.out
          refine value_ (w1 := ?_) (v := ?_) (by rfl) rfl ?_ ?_
          rotate_left 2
          · go_simp
            constructor
            · rfl
            · rfl
          clear hcv
          refine hK.out _ _ ⟨(blk_cell HA1.out 0).trans rfl, (blk_cell HA1.out 1).trans rfl, (blk_cell HA1.out 2).trans rfl, (blk_cell HA1.out 3).trans rfl, (blk_cell HA1.out 4).trans rfl, (blk_cell HA1.out 5).trans rfl, (blk_cell HA1.out 6).trans rfl, (blk_cell HA1.out 7).trans rfl, (blk_cell HA1.out 8).trans rfl, (blk_cell HA1.out 9).trans rfl, (blk_cell HA1.out 10).trans rfl⟩ (fun hHeld => ?_)
          clear hK K
          refine norm_ (a' := ?_) ?_ ?_
          rotate_left
          · show Act.put _ (some 50) _ = _
            simp only [Act.put, qA, q0, qS, i64_w, i32_w]
            rfl
          exact norm_ (by first | (simp only [putAll, Act.put, qA, q0, qS]; done) | (simp only [putAll, Act.put, qA, q0, qS]; rfl)) (hCont (_, _) _ ⟨HB1.out, HA1.out⟩)
        · skip
          have hcv := str_of R2.out
          refine value_ (w1 := ?_) (v := ?_) (by rfl) rfl ?_ ?_
          rotate_left 2
          · go_simp
            constructor
            · rfl
            · rfl
          clear hcv
          refine hK.out _ _ ⟨(blk_cell HA1.out 0).trans rfl, (blk_cell HA1.out 1).trans rfl, (blk_cell HA1.out 2).trans rfl, (blk_cell HA1.out 3).trans rfl, (blk_cell HA1.out 4).trans rfl, (blk_cell HA1.out 5).trans rfl, (blk_cell HA1.out 6).trans rfl, (blk_cell HA1.out 7).trans rfl, (blk_cell HA1.out 8).trans rfl, (blk_cell HA1.out 9).trans rfl, (blk_cell HA1.out 10).trans rfl⟩ (fun hHeld => ?_)
          clear hK K
          refine norm_ (a' := ?_) ?_ ?_
          rotate_left
          · show Act.put _ (some 50) _ = _
            simp only [Act.put, qA, q0, qS, i64_w, i32_w]
            rfl
          refine one_ (i := 3) (N := some 45) #[true, true, true, true, true, true, true, true, true, false, false] rfl rfl (by kernel_rfl) (by decide) (fun K hK => ?_)
          have hcv := str_of R1.out
          refine value_ (w1 := ?_) (v := ?_) (by rfl) rfl ?_ ?_
          rotate_left 2
          · go_simp
            constructor
            · rfl
            · rfl
          clear hcv
          refine hK.out _ _ ⟨(blk_cell HA1.out 0).trans rfl, (blk_cell HA1.out 1).trans rfl, (blk_cell HA1.out 2).trans rfl, (blk_cell HA1.out 3).trans rfl, (blk_cell HA1.out 4).trans rfl, (blk_cell HA1.out 5).trans rfl, (blk_cell HA1.out 6).trans rfl, (blk_cell HA1.out 7).trans rfl, (blk_cell HA1.out 8).trans rfl, (blk_cell HA1.out 9).trans rfl, (blk_cell HA1.out 10).trans rfl⟩ (fun hHeld => ?_)
          clear hK K
          refine norm_ (a' := ?_) ?_ ?_
          rotate_left
          · show Act.put _ (some 45) _ = _
            simp only [Act.put, qA, q0, qS, i64_w, i32_w]
            rfl
          exact norm_ (by first | (simp only [putAll, Act.put, qA, q0, qS]; done) | (simp only [putAll, Act.put, qA, q0, qS]; rfl)) (hCont (_, _) _ ⟨HB1.out, HA1.out⟩)
  rintro ⟨A4, c4⟩ w5 ⟨hb, ha⟩
  have HB1 := Aside0.mk hb
  have HA1 := Aside0.mk ha
  have hHeld : w5.cell? ⟨ga, 0, none⟩ = some (.int .i64 kind) ∧ w5.cell? ⟨ga, 1, none⟩ = some (.int .i64 height) ∧ w5.cell? ⟨ga, 2, none⟩ = some (.int .i64 round) ∧ w5.cell? ⟨ga, 3, none⟩ = some (.int .i64 0) ∧ w5.cell? ⟨ga, 4, none⟩ = some (.string ByteArray.empty) ∧ w5.cell? ⟨ga, 5, none⟩ = some (.slice A1 n1 c1) ∧ w5.cell? ⟨ga, 6, none⟩ = some (.int .i64 p) ∧ w5.cell? ⟨ga, 7, none⟩ = some (.slice A2 n2 c2) ∧ w5.cell? ⟨ga, 8, none⟩ = some (.int .i64 s) ∧ w5.cell? ⟨ga, 9, none⟩ = some (.int .i64 ns) ∧ w5.cell? ⟨ga, 10, none⟩ = some (.slice none 0 0) := ⟨(blk_cell HA1.out 0).trans rfl, (blk_cell HA1.out 1).trans rfl, (blk_cell HA1.out 2).trans rfl, (blk_cell HA1.out 3).trans rfl, (blk_cell HA1.out 4).trans rfl, (blk_cell HA1.out 5).trans rfl, (blk_cell HA1.out 6).trans rfl, (blk_cell HA1.out 7).trans rfl, (blk_cell HA1.out 8).trans rfl, (blk_cell HA1.out 9).trans rfl, (blk_cell HA1.out 10).trans rfl⟩
  clear hb ha
  refine norm_ (a' := ?_) ?_ ?_
  rotate_left
  · simp only [putAll, Act.put, qA, q0, qS]
    rfl
  refine pure_ (i := 9) (N := some 51) (v := ?_) (a' := ?_) #[true, true, true, true, true, true, true, true, true, true, false] rfl rfl (by kernel_rfl) (fun _ _ _ h => h) (Or.inl ⟨by rfl, ?_⟩) ?_ ?_
  rotate_left
  · intro w'
    go_simp
    with_reducible rfl
  rotate_left
  · simp only [Act.put, qA, q0, qS, i64_w, i32_w]
    rfl
  refine pure_ (i := 10) (N := some 12) (v := ?_) (a' := ?_) #[true, true, true, true, true, true, true, true, true, true, true] rfl rfl (by kernel_rfl) (fun _ _ _ h => h) (Or.inl ⟨by rfl, ?_⟩) ?_ ?_
  rotate_left
  · intro w'
    go_simp
    with_reducible rfl
  rotate_left
  · simp only [Act.put, qA, q0, qS, i64_w, i32_w]
    rfl
  refine done_ (by kernel_rfl) ?_
  refine hK1 _ _ ?_
  refine wp_ret ?_
  exact bodyPost_ret (results_tmp rfl _ _ _) rfl ⟨rfl, HB1.out⟩
end Go.Proofs.Ytlnknihjccdgkaa.M
