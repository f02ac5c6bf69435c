/- The walks of the message functions, on: the reference's Message. -/
import Derived.Test.YtlnknihjccdgkaaM6
namespace Go.Proofs.Ytlnknihjccdgkaa.M
open Go.RowKit Go.Proofs.YtlnknihjccdgkaaW.PrintWords Go.Proofs.YtlnknihjccdgkaaW.PrintLast Go.Proofs.YtlnknihjccdgkaaW.PrintMore Go.Proofs.Ytlnknihjccdgkaa.PFnMessage
set_option linter.unusedVariables false
set_option linter.unusedSimpArgs false

theorem RdB.nil (w : World) : RdB w (.slice none 0 0) [] := ⟨none, 0, rfl, Nat.le_refl _, Kd.C_nil _ _⟩
theorem six_slices {w : World} {v0 v1 v2 v3 v4 v5 : Value} {l0 l1 l2 l3 l4 l5 : List Int} (h0 : RdB w v0 l0) (h1 : RdB w v1 l1) (h2 : RdB w v2 l2) (h3 : RdB w v3 l3) (h4 : RdB w v4 l4) (h5 : RdB w v5 l5) :
    ∀ (j : Nat) (l : List Int), [l0, l1, l2, l3, l4, l5][j]? = some l → ∃ v, [v0, v1, v2, v3, v4, v5][j]? = some v ∧ RdB w v l := by
  intro j l hj
  match j, hj with
  | 0, hj => exact ⟨v0, rfl, by simp at hj; exact hj ▸ h0⟩
  | 1, hj => exact ⟨v1, rfl, by simp at hj; exact hj ▸ h1⟩
  | 2, hj => exact ⟨v2, rfl, by simp at hj; exact hj ▸ h2⟩
  | 3, hj => exact ⟨v3, rfl, by simp at hj; exact hj ▸ h3⟩
  | 4, hj => exact ⟨v4, rfl, by simp at hj; exact hj ▸ h4⟩
  | 5, hj => exact ⟨v5, rfl, by simp at hj; exact hj ▸ h5⟩
  | j + 6, hj => simp at hj
theorem heap_alloc_new' {B : Nat} {w W : World} (_ : Below B w W) (o : Obj) : (W.alloc o).heap[W.heap.size]? = some o := heap_alloc_new W o
theorem RdB.alloc {w : World} {v : Value} {l : List Int} (h : RdB w v l) (o : Obj) : RdB (w.alloc o) v l := h.below (below_alloc (Below.refl _ _) o)
/-- The parts of a message are short. -/
theorem parts_len {kind height round s ns : Int} {ch : List Int} {ob : Option (List Int × Int × List Int)} (hI : ∀ l1 p l2, ob = some (l1, p, l2) → l1.length = 32 ∧ l2.length = 32) (hc : ch.length < 2 ^ 40) :
    [num 1 kind, fix8 2 height, fix8 3 round, idB ob, wit 5 (timeB s ns), som 6 ch].flatten.length < ch.length + 400 := by
  have := delim_body_len ch kind height round ob s ns hI hc
  simpa [body] using this
theorem parts_flat (kind height round s ns : Int) (ch : List Int) (id : List Int) : [num 1 kind, fix8 2 height, fix8 3 round, id, wit 5 (timeB s ns), som 6 ch].flatten = body ch kind height round id s ns := by simp [body]

def smT.T : Bool × List (List Nat × List Nat) := (true, [([], []), ([0], [0]), ([1], [1]), ([], []), ([3], [3]), ([4, 2], [4]), ([], []), ([6], [6]), ([7, 5], [7]), ([], []), ([], []), ([10], [10]), ([11, 8], [11]), ([12, 12], [12]), ([], []), ([14], [14]), ([15, 13], [15]), ([2, 5, 8, 9, 13, 16], [2, 5, 8, 9, 13, 16]), ([17, 16], [17]), ([18, 18, 0, 1, 2, 3, 4, 5, 6, 7, 8, 9, 10, 11, 12, 13, 14, 15, 16, 17, 18], [18])])
def smT.B : List Nat := [0, 1, 3, 0, 8, 31, 0, 64, 255, 0, 0, 1024, 3583, 7679, 0, 16384, 65023, 131071, 262143, 524287]
theorem smT.tab : rtab .any (opsOf Try.f8 4) = smT.T := by kernel_rfl
theorem smT.bits : waitsOk smT.T.2 smT.B = true := by kernel_rfl
set_option maxHeartbeats 16000000 in
set_option maxRecDepth 100000 in
theorem smessage0 (chain : ByteArray) (kind height round place : Int) (addr : ByteArray) (A1 : Option Addr) (n1 c1 : Nat) (parts : Int) (A2 : Option Addr) (n2 c2 : Nat) (s ns : Int) (A3 : Option Addr) (n3 c3 : Nat) (w : World)
    (hN : NumOk kind height round s ns) (hI : IdOk w (.slice A1 n1 c1) parts (.slice A2 n2 c2) (none)) (hch : chain.size < 2 ^ 40) :
    Calls Try.prog 8 #[.agg (ivoteCells kind height round place addr (.slice A1 n1 c1) parts (.slice A2 n2 c2) s ns (.slice A3 n3 c3)), .string chain] w (Chain w (delim (body (bytesOf chain) kind height round (idB (none)) s ns))) := by
  have HN := Aside0.mk hN
  have HI := Aside0.mk hI
  have HC := Aside0.mk hch
  clear hN hI hch
  have kb := fun W => print_bytes (P := Try.prog) 9 25 5 Try.underlying9 Try.underlying25 Try.underlying5 chain W
  unfold ivoteCells
  go_enter Try.func8, Try.ntmps8
  go_wp2_with fail
  have HB := Aside0.mk (below_alloc (Below.refl w.heap.size w) (.cells #[.int .i64 kind, .int .i64 height, .int .i64 round, .int .i64 place, .string addr, .slice A1 n1 c1, .int .i64 parts, .slice A2 n2 c2, .int .i64 s, .int .i64 ns, .slice A3 n3 c3] 36))
  have HK := Aside0.mk (heap_alloc_new w (.cells #[.int .i64 kind, .int .i64 height, .int .i64 round, .int .i64 place, .string addr, .slice A1 n1 c1, .int .i64 parts, .slice A2 n2 c2, .int .i64 s, .int .i64 ns, .slice A3 n3 c3] 36))
  have HIw := Aside0.mk (HI.out.below HB.out)
  generalize w.alloc (.cells #[.int .i64 kind, .int .i64 height, .int .i64 round, .int .i64 place, .string addr, .slice A1 n1 c1, .int .i64 parts, .slice A2 n2 c2, .int .i64 s, .int .i64 ns, .slice A3 n3 c3] 36) = w1 at HB HK HIw ⊢
  refine (none_c w1 (.slice A1 n1 c1) parts (.slice A2 n2 c2) _ HIw.out).mono ?_
  rintro e w2 ⟨rfl, hb⟩
  have n0_ := Aside0.mk (below_step HB.out hb)
  have n1_ := Aside0.mk (blk_below HK.out hb)
  have n2_ := Aside0.mk (IdOk.below HIw.out hb)
  clear HB HK HIw
  have HB := n0_
  have HK := n1_
  have HIw := n2_
  clear n0_ n1_ n2_ hb
  have HR5 := Aside0.mk (show RdB w2 (.slice none 0 0) (idB none) from RdB.nil w2)
  have HLn : Aside0 (∀ a q b, (none : Option (List Int × Int × List Int)) = some (a, q, b) → a.length = 32 ∧ b.length = 32) := Aside0.mk HI.out.len
  go_wp2_with fail
  have HB := Aside0.mk (below_drew HB.out)
  have HK := Aside0.mk (blk_drew HK.out)
  have HR5 := Aside0.mk (RdB.below HR5.out (below_drew (Below.refl _ _)))
  clear HIw
  refine start_ (n := 20) (S := fun w' => w'.cell? ⟨w.heap.size, 0, none⟩ = some (.int .i64 kind) ∧ w'.cell? ⟨w.heap.size, 1, none⟩ = some (.int .i64 height) ∧ w'.cell? ⟨w.heap.size, 2, none⟩ = some (.int .i64 round) ∧ w'.cell? ⟨w.heap.size, 8, none⟩ = some (.int .i64 s) ∧ w'.cell? ⟨w.heap.size, 9, none⟩ = some (.int .i64 ns)) (ds := []) #[false, false, false, false, false, false, false, false, false, false, false, false, false, false, false, false, false, false, false, false] (by kernel_rfl) rfl rfl ⟨(blk_cell HK.out 0).trans rfl, (blk_cell HK.out 1).trans rfl, (blk_cell HK.out 2).trans rfl, (blk_cell HK.out 8).trans rfl, (blk_cell HK.out 9).trans rfl⟩ (fun hHeld => ?_)
  refine with_tabW smT.tab smT.bits (fun HT_ HW_ => ?_)
  generalize w2.drew = w5 at HB HK HR5 hHeld ⊢
  refine pure_ (i := 0) (N := some 15) (v := ?_) (a' := ?_) #[true, false, false, false, false, false, false, false, false, false, false, false, false, false, false, false, false, false, false, false] rfl rfl (any_of HT_.out (by kernel_rfl)) (fun _ _ _ h => h) (Or.inl ⟨by rfl, ?_⟩) ?_ ?_
  rotate_left
  · intro w'
    go_simp
    with_reducible rfl
  rotate_left
  · simp only [Act.put, qA, q0, qS, i64_w, i32_w]
    rfl
  refine pure_ (i := 3) (N := some 18) (v := ?_) (a' := ?_) #[true, false, false, true, false, false, false, false, false, false, false, false, false, false, false, false, false, false, false, false] rfl rfl (any_of HT_.out (by kernel_rfl)) (fun _ _ _ h => h) (Or.inl ⟨by rfl, ?_⟩) ?_ ?_
  rotate_left
  · intro w'
    go_simp
    with_reducible rfl
  rotate_left
  · simp only [Act.put, qA, q0, qS, i64_w, i32_w]
    rfl
  refine pure_ (i := 6) (N := some 21) (v := ?_) (a' := ?_) #[true, false, false, true, false, false, true, false, false, false, false, false, false, false, false, false, false, false, false, false] rfl rfl (any_of HT_.out (by kernel_rfl)) (fun _ _ _ h => h) (Or.inl ⟨by rfl, ?_⟩) ?_ ?_
  rotate_left
  · intro w'
    go_simp
    with_reducible rfl
  rotate_left
  · simp only [Act.put, qA, q0, qS, i64_w, i32_w]
    rfl
  refine pure_ (i := 9) (N := some 24) (v := ?_) (a' := ?_) #[true, false, false, true, false, false, true, false, false, true, false, false, false, false, false, false, false, false, false, false] rfl rfl (any_of HT_.out (by kernel_rfl)) (fun _ _ _ h => h) (Or.inl ⟨by rfl, ?_⟩) ?_ ?_
  rotate_left
  · intro w'
    go_simp
    with_reducible rfl
  rotate_left
  · simp only [Act.put, qA, q0, qS, i64_w, i32_w]
    rfl
  refine pure_ (i := 10) (N := some 25) (v := ?_) (a' := ?_) #[true, false, false, true, false, false, true, false, false, true, true, false, false, false, false, false, false, false, false, false] rfl rfl (any_of HT_.out (by kernel_rfl)) (fun _ _ _ h => h) (Or.inl ⟨by rfl, ?_⟩) ?_ ?_
  rotate_left
  · intro w'
    go_simp
    with_reducible rfl
  rotate_left
  · simp only [Act.put, qA, q0, qS, i64_w, i32_w]
    rfl
  refine pure_ (i := 14) (N := some 29) (v := ?_) (a' := ?_) #[true, false, false, true, false, false, true, false, false, true, true, false, false, false, true, false, false, false, false, false] rfl rfl (any_of HT_.out (by kernel_rfl)) (fun _ _ _ h => h) (Or.inl ⟨by rfl, ?_⟩) ?_ ?_
  rotate_left
  · intro w'
    go_simp
    with_reducible rfl
  rotate_left
  · simp only [Act.put, qA, q0, qS, i64_w, i32_w]
    rfl
  refine take_ (i := 1) (N := some 16) (v := ?_) (a' := ?_) #[true, true, false, true, false, false, true, false, false, true, true, false, false, false, true, false, false, false, false, false] rfl rfl (take_ofW HT_.out HW_.out (by kernel_rfl)) (fun _ _ _ h => h) (Or.inl ⟨by rfl, ?_⟩) hHeld ?_ ?_
  rotate_left
  · rintro w' ⟨s0, s1, s2, s3, s4⟩
    go_simp
    with_reducible rfl
  rotate_left
  · simp only [Act.put, qA, q0, qS, i64_w, i32_w]
    rfl
  refine take_ (i := 4) (N := some 19) (v := ?_) (a' := ?_) #[true, true, false, true, true, false, true, false, false, true, true, false, false, false, true, false, false, false, false, false] rfl rfl (take_ofW HT_.out HW_.out (by kernel_rfl)) (fun _ _ _ h => h) (Or.inl ⟨by rfl, ?_⟩) hHeld ?_ ?_
  rotate_left
  · rintro w' ⟨s0, s1, s2, s3, s4⟩
    go_simp
    with_reducible rfl
  rotate_left
  · simp only [Act.put, qA, q0, qS, i64_w, i32_w]
    rfl
  refine take_ (i := 7) (N := some 22) (v := ?_) (a' := ?_) #[true, true, false, true, true, false, true, true, false, true, true, false, false, false, true, false, false, false, false, false] rfl rfl (take_ofW HT_.out HW_.out (by kernel_rfl)) (fun _ _ _ h => h) (Or.inl ⟨by rfl, ?_⟩) hHeld ?_ ?_
  rotate_left
  · rintro w' ⟨s0, s1, s2, s3, s4⟩
    go_simp
    with_reducible rfl
  rotate_left
  · simp only [Act.put, qA, q0, qS, i64_w, i32_w]
    rfl
  refine take_ (i := 11) (N := some 26) (v := ?_) (a' := ?_) #[true, true, false, true, true, false, true, true, false, true, true, true, false, false, true, false, false, false, false, false] rfl rfl (take_ofW HT_.out HW_.out (by kernel_rfl)) (fun _ _ _ h => h) (Or.inl ⟨by rfl, ?_⟩) hHeld ?_ ?_
  rotate_left
  · rintro w' ⟨s0, s1, s2, s3, s4⟩
    go_simp
    with_reducible rfl
  rotate_left
  · simp only [Act.put, qA, q0, qS, i64_w, i32_w]
    rfl
  refine join_ (σ := Option Addr × Nat × Option Addr × Nat × Option Addr × Nat × Option Addr × Nat × Option Addr × Nat × Nat × Nat) 4 #[true, true, true, true, true, true, true, true, true, true, true, true, true, true, true, true, false, false, false, false] (fun s_ => [(17, .slice s_.1 (num 1 kind).length s_.2.1), (20, .slice s_.2.2.1 (fix8 2 height).length s_.2.2.2.1), (23, .slice s_.2.2.2.2.1 (fix8 3 round).length s_.2.2.2.2.2.1), (27, .slice s_.2.2.2.2.2.2.1 (timeB s ns).length s_.2.2.2.2.2.2.2.1), (28, .slice s_.2.2.2.2.2.2.2.2.1 (wit 5 (timeB s ns)).length s_.2.2.2.2.2.2.2.2.2.1), (30, .slice (some ⟨s_.2.2.2.2.2.2.2.2.2.2.1, 0, none⟩) chain.size s_.2.2.2.2.2.2.2.2.2.2.2)]) (fun s_ w' => Below w.heap.size w w' ∧ w'.heap[w.heap.size]? = some (.cells #[.int .i64 kind, .int .i64 height, .int .i64 round, .int .i64 place, .string addr, .slice A1 n1 c1, .int .i64 parts, .slice A2 n2 c2, .int .i64 s, .int .i64 ns, .slice A3 n3 c3] 36 (0, 0)) ∧ RdB w' (.slice none 0 0) (idB none) ∧ RdB w' (.slice s_.1 (num 1 kind).length s_.2.1) (num 1 kind) ∧ RdB w' (.slice s_.2.2.1 (fix8 2 height).length s_.2.2.2.1) (fix8 2 height) ∧ RdB w' (.slice s_.2.2.2.2.1 (fix8 3 round).length s_.2.2.2.2.2.1) (fix8 3 round) ∧ RdB w' (.slice s_.2.2.2.2.2.2.2.2.1 (wit 5 (timeB s ns)).length s_.2.2.2.2.2.2.2.2.2.1) (wit 5 (timeB s ns)) ∧ RdB w' (.slice (some ⟨s_.2.2.2.2.2.2.2.2.2.2.1, 0, none⟩) chain.size s_.2.2.2.2.2.2.2.2.2.2.2) (bytesOf chain)) ?_ ?_
  rotate_left
  · intro hCont
    refine two_ (i := 2) (j := 15) (Ni := some 17) (Nj := some 30) #[true, true, true, true, true, false, true, true, false, true, true, true, false, false, true, false, false, false, false, false] #[true, true, false, true, true, false, true, true, false, true, true, true, false, false, true, true, false, false, false, false] rfl rfl rfl rfl (two_of HT_.out (by kernel_rfl)) (by decide) (by decide) (fun K hK => ?_) (fun K hK => ?_)
    · skip
      refine goes_ Try.func16 (by kernel_rfl) rfl #[.int .i64 1, .int .i64 kind] (by rfl) rfl rfl (by simp only [List.map_toArray, List.map_cons, List.map_nil]; rfl) ?_
      refine (number_c _ 1 kind (by omega) (by have := HN.out.kind; omega) (by have := HN.out.kind; omega)).mono ?_
      rintro e wx ⟨vx, rfl, ho⟩
      refine ⟨_, rfl, ?_⟩
      have hb := ho.below
      obtain ⟨A2, c2, rfl, hc, hr⟩ := ho.rdB
      have n0_ := Aside0.mk (below_step HB.out hb)
      have n1_ := Aside0.mk (blk_below HK.out hb)
      have n2_ := Aside0.mk (RdB.below HR5.out hb)
      have m0_ := Aside0.mk (show RdB _ (.slice A2 (num 1 kind).length c2) (num 1 kind) from ⟨A2, c2, rfl, hc, hr⟩)
      clear HB HK HR5
      have HB := n0_
      have HK := n1_
      have HR5 := n2_
      have HRx2 := m0_
      clear n0_ n1_ n2_ m0_ ho hb hc hr
      refine hK.out _ _ ⟨(blk_cell HK.out 0).trans rfl, (blk_cell HK.out 1).trans rfl, (blk_cell HK.out 2).trans rfl, (blk_cell HK.out 8).trans rfl, (blk_cell HK.out 9).trans rfl⟩ (fun hHeld => ?_)
      clear hK K
      refine norm_ (a' := ?_) ?_ ?_
      rotate_left
      · show Act.put _ (some 17) _ = _
        simp only [Act.put, qA, q0, qS, i64_w, i32_w]
        rfl
      refine two_ (i := 5) (j := 15) (Ni := some 20) (Nj := some 30) #[true, true, true, true, true, true, true, true, false, true, true, true, false, false, true, false, false, false, false, false] #[true, true, true, true, true, false, true, true, false, true, true, true, false, false, true, true, false, false, false, false] rfl rfl rfl rfl (two_of HT_.out (by kernel_rfl)) (by decide) (by decide) (fun K hK => ?_) (fun K hK => ?_)
      · skip
        refine goes_ Try.func17 (by kernel_rfl) rfl #[.int .i64 2, .int .i64 height] (by rfl) rfl rfl (by simp only [List.map_toArray, List.map_cons, List.map_nil]; rfl) ?_
        refine (fixed_c _ 2 height (by omega)).mono ?_
        rintro e wx ⟨vx, rfl, ho⟩
        refine ⟨_, rfl, ?_⟩
        have hb := ho.below
        obtain ⟨A5, c5, rfl, hc, hr⟩ := ho.rdB
        have n0_ := Aside0.mk (below_step HB.out hb)
        have n1_ := Aside0.mk (blk_below HK.out hb)
        have n2_ := Aside0.mk (RdB.below HR5.out hb)
        have n3_ := Aside0.mk (RdB.below HRx2.out hb)
        have m0_ := Aside0.mk (show RdB _ (.slice A5 (fix8 2 height).length c5) (fix8 2 height) from ⟨A5, c5, rfl, hc, hr⟩)
        clear HB HK HR5 HRx2
        have HB := n0_
        have HK := n1_
        have HR5 := n2_
        have HRx2 := n3_
        have HRx5 := m0_
        clear n0_ n1_ n2_ n3_ m0_ ho hb hc hr
        refine hK.out _ _ ⟨(blk_cell HK.out 0).trans rfl, (blk_cell HK.out 1).trans rfl, (blk_cell HK.out 2).trans rfl, (blk_cell HK.out 8).trans rfl, (blk_cell HK.out 9).trans rfl⟩ (fun hHeld => ?_)
        clear hK K
        refine norm_ (a' := ?_) ?_ ?_
        rotate_left
        · show Act.put _ (some 20) _ = _
          simp only [Act.put, qA, q0, qS, i64_w, i32_w]
          rfl
        refine two_ (i := 8) (j := 15) (Ni := some 23) (Nj := some 30) #[true, true, true, true, true, true, true, true, true, true, true, true, false, false, true, false, false, false, false, false] #[true, true, true, true, true, true, true, true, false, true, true, true, false, false, true, true, false, false, false, false] rfl rfl rfl rfl (two_of HT_.out (by kernel_rfl)) (by decide) (by decide) (fun K hK => ?_) (fun K hK => ?_)
        · skip
          refine goes_ Try.func17 (by kernel_rfl) rfl #[.int .i64 3, .int .i64 round] (by rfl) rfl rfl (by simp only [List.map_toArray, List.map_cons, List.map_nil]; rfl) ?_
          refine (fixed_c _ 3 round (by omega)).mono ?_
          rintro e wx ⟨vx, rfl, ho⟩
          refine ⟨_, rfl, ?_⟩
          have hb := ho.below
          obtain ⟨A8, c8, rfl, hc, hr⟩ := ho.rdB
          have n0_ := Aside0.mk (below_step HB.out hb)
          have n1_ := Aside0.mk (blk_below HK.out hb)
          have n2_ := Aside0.mk (RdB.below HR5.out hb)
          have n3_ := Aside0.mk (RdB.below HRx2.out hb)
          have n4_ := Aside0.mk (RdB.below HRx5.out hb)
          have m0_ := Aside0.mk (show RdB _ (.slice A8 (fix8 3 round).length c8) (fix8 3 round) from ⟨A8, c8, rfl, hc, hr⟩)
          clear HB HK HR5 HRx2 HRx5
          have HB := n0_
          have HK := n1_
          have HR5 := n2_
          have HRx2 := n3_
          have HRx5 := n4_
          have HRx8 := m0_
          clear n0_ n1_ n2_ n3_ n4_ m0_ ho hb hc hr
          refine hK.out _ _ ⟨(blk_cell HK.out 0).trans rfl, (blk_cell HK.out 1).trans rfl, (blk_cell HK.out 2).trans rfl, (blk_cell HK.out 8).trans rfl, (blk_cell HK.out 9).trans rfl⟩ (fun hHeld => ?_)
          clear hK K
          refine norm_ (a' := ?_) ?_ ?_
          rotate_left
          · show Act.put _ (some 23) _ = _
            simp only [Act.put, qA, q0, qS, i64_w, i32_w]
            rfl
          refine two_ (i := 12) (j := 15) (Ni := some 27) (Nj := some 30) #[true, true, true, true, true, true, true, true, true, true, true, true, true, false, true, false, false, false, false, false] #[true, true, true, true, true, true, true, true, true, true, true, true, false, false, true, true, false, false, false, false] rfl rfl rfl rfl (two_of HT_.out (by kernel_rfl)) (by decide) (by decide) (fun K hK => ?_) (fun K hK => ?_)
          · skip
            refine goes_ Try.func18 (by kernel_rfl) rfl #[.agg #[.int .i64 s, .int .i64 ns]] (by rfl) rfl rfl (by simp only [List.map_toArray, List.map_cons, List.map_nil]; rfl) ?_
            refine (mbytes_c _ s ns (by have := HN.out.s; omega) (by have := HN.out.s; omega) (by have := HN.out.ns; omega) (by have := HN.out.ns; omega)).mono ?_
            rintro e wx ⟨vx, rfl, ho⟩
            refine ⟨_, rfl, ?_⟩
            have hb := ho.below
            obtain ⟨A12, c12, rfl, hc, hr⟩ := ho.rdB
            have n0_ := Aside0.mk (below_step HB.out hb)
            have n1_ := Aside0.mk (blk_below HK.out hb)
            have n2_ := Aside0.mk (RdB.below HR5.out hb)
            have n3_ := Aside0.mk (RdB.below HRx2.out hb)
            have n4_ := Aside0.mk (RdB.below HRx5.out hb)
            have n5_ := Aside0.mk (RdB.below HRx8.out hb)
            have m0_ := Aside0.mk (show RdB _ (.slice A12 (timeB s ns).length c12) (timeB s ns) from ⟨A12, c12, rfl, hc, hr⟩)
            clear HB HK HR5 HRx2 HRx5 HRx8
            have HB := n0_
            have HK := n1_
            have HR5 := n2_
            have HRx2 := n3_
            have HRx5 := n4_
            have HRx8 := n5_
            have HRx12 := m0_
            clear n0_ n1_ n2_ n3_ n4_ n5_ m0_ ho hb hc hr
            refine hK.out _ _ ⟨(blk_cell HK.out 0).trans rfl, (blk_cell HK.out 1).trans rfl, (blk_cell HK.out 2).trans rfl, (blk_cell HK.out 8).trans rfl, (blk_cell HK.out 9).trans rfl⟩ (fun hHeld => ?_)
            clear hK K
            refine norm_ (a' := ?_) ?_ ?_
            rotate_left
            · show Act.put _ (some 27) _ = _
              simp only [Act.put, qA, q0, qS, i64_w, i32_w]
              rfl
            refine two_ (i := 13) (j := 15) (Ni := some 28) (Nj := some 30) #[true, true, true, true, true, true, true, true, true, true, true, true, true, true, true, false, false, false, false, false] #[true, true, true, true, true, true, true, true, true, true, true, true, true, false, true, true, false, false, false, false] rfl rfl rfl rfl (two_of HT_.out (by kernel_rfl)) (by decide) (by decide) (fun K hK => ?_) (fun K hK => ?_)
            · skip
              refine goes_ Try.func13 (by kernel_rfl) rfl #[.int .i64 5, .slice A12 (timeB s ns).length c12] (by rfl) rfl rfl (by simp only [List.map_toArray, List.map_cons, List.map_nil]; rfl) ?_
              refine (within_c _ 5 (.slice A12 (timeB s ns).length c12) (timeB s ns) HRx12.out (by omega) (by have := timeB_len s ns; omega)).mono ?_
              rintro e wx ⟨vx, rfl, ho⟩
              refine ⟨_, rfl, ?_⟩
              have hb := ho.below
              obtain ⟨A13, c13, rfl, hc, hr⟩ := ho.rdB
              have n0_ := Aside0.mk (below_step HB.out hb)
              have n1_ := Aside0.mk (blk_below HK.out hb)
              have n2_ := Aside0.mk (RdB.below HR5.out hb)
              have n3_ := Aside0.mk (RdB.below HRx2.out hb)
              have n4_ := Aside0.mk (RdB.below HRx5.out hb)
              have n5_ := Aside0.mk (RdB.below HRx8.out hb)
              have n6_ := Aside0.mk (RdB.below HRx12.out hb)
              have m0_ := Aside0.mk (show RdB _ (.slice A13 (wit 5 (timeB s ns)).length c13) (wit 5 (timeB s ns)) from ⟨A13, c13, rfl, hc, hr⟩)
              clear HB HK HR5 HRx2 HRx5 HRx8 HRx12
              have HB := n0_
              have HK := n1_
              have HR5 := n2_
              have HRx2 := n3_
              have HRx5 := n4_
              have HRx8 := n5_
              have HRx12 := n6_
              have HRx13 := m0_
              clear n0_ n1_ n2_ n3_ n4_ n5_ n6_ m0_ ho hb hc hr
              refine hK.out _ _ ⟨(blk_cell HK.out 0).trans rfl, (blk_cell HK.out 1).trans rfl, (blk_cell HK.out 2).trans rfl, (blk_cell HK.out 8).trans rfl, (blk_cell HK.out 9).trans rfl⟩ (fun hHeld => ?_)
              clear hK K
              refine norm_ (a' := ?_) ?_ ?_
              rotate_left
              · show Act.put _ (some 28) _ = _
                simp only [Act.put, qA, q0, qS, i64_w, i32_w]
                rfl
              refine one_ (i := 15) (N := some 30) #[true, true, true, true, true, true, true, true, true, true, true, true, true, true, true, true, false, false, false, false] rfl rfl (one_of HT_.out (by kernel_rfl)) (by decide) (fun K hK => ?_)
              refine value_ (w1 := ?_) (v := ?_) (by rfl) rfl ?_ ?_
              rotate_left 2
              · go_simp
                constructor
                · rfl
                · rfl
              have m9_ := rdB_bytesB HB.out chain (by have := HC.out; omega)
              have n0_ := Aside0.mk (below_step HB.out (bytes_below (Below.refl _ _) (Nat.le_refl _) 5 chain))
              have n1_ := Aside0.mk (blk_below HK.out (bytes_below (Below.refl _ _) (Nat.le_refl _) 5 chain))
              have n2_ := Aside0.mk (RdB.below HR5.out (bytes_below (Below.refl _ _) (Nat.le_refl _) 5 chain))
              have n3_ := Aside0.mk (RdB.below HRx2.out (bytes_below (Below.refl _ _) (Nat.le_refl _) 5 chain))
              have n4_ := Aside0.mk (RdB.below HRx5.out (bytes_below (Below.refl _ _) (Nat.le_refl _) 5 chain))
              have n5_ := Aside0.mk (RdB.below HRx8.out (bytes_below (Below.refl _ _) (Nat.le_refl _) 5 chain))
              have n6_ := Aside0.mk (RdB.below HRx12.out (bytes_below (Below.refl _ _) (Nat.le_refl _) 5 chain))
              have n7_ := Aside0.mk (RdB.below HRx13.out (bytes_below (Below.refl _ _) (Nat.le_refl _) 5 chain))
              have m0_ := Aside0.mk (m9_)
              clear HB HK HR5 HRx2 HRx5 HRx8 HRx12 HRx13
              have HB := n0_
              have HK := n1_
              have HR5 := n2_
              have HRx2 := n3_
              have HRx5 := n4_
              have HRx8 := n5_
              have HRx12 := n6_
              have HRx13 := n7_
              have HRcv := m0_
              clear n0_ n1_ n2_ n3_ n4_ n5_ n6_ n7_ m0_ m9_
              refine hK.out _ _ ⟨(blk_cell HK.out 0).trans rfl, (blk_cell HK.out 1).trans rfl, (blk_cell HK.out 2).trans rfl, (blk_cell HK.out 8).trans rfl, (blk_cell HK.out 9).trans rfl⟩ (fun hHeld => ?_)
              clear hK K
              refine norm_ (a' := ?_) ?_ ?_
              rotate_left
              · show Act.put _ (some 30) _ = _
                simp only [Act.put, qA, q0, qS, i64_w, i32_w]
                rfl
              exact norm_ (by first | (simp only [putAll, Act.put, qA, q0, qS]; done) | (simp only [putAll, Act.put, qA, q0, qS]; rfl)) (hCont (_, _, _, _, _, _, _, _, _, _, _, _) _ ⟨HB.out, HK.out, HR5.out, HRx2.out, HRx5.out, HRx8.out, HRx13.out, HRcv.out⟩)
            · skip
              refine value_ (w1 := ?_) (v := ?_) (by rfl) rfl ?_ ?_
              rotate_left 2
              · go_simp
                constructor
                · rfl
                · rfl
              have m9_ := rdB_bytesB HB.out chain (by have := HC.out; omega)
              have n0_ := Aside0.mk (below_step HB.out (bytes_below (Below.refl _ _) (Nat.le_refl _) 5 chain))
              have n1_ := Aside0.mk (blk_below HK.out (bytes_below (Below.refl _ _) (Nat.le_refl _) 5 chain))
              have n2_ := Aside0.mk (RdB.below HR5.out (bytes_below (Below.refl _ _) (Nat.le_refl _) 5 chain))
              have n3_ := Aside0.mk (RdB.below HRx2.out (bytes_below (Below.refl _ _) (Nat.le_refl _) 5 chain))
              have n4_ := Aside0.mk (RdB.below HRx5.out (bytes_below (Below.refl _ _) (Nat.le_refl _) 5 chain))
              have n5_ := Aside0.mk (RdB.below HRx8.out (bytes_below (Below.refl _ _) (Nat.le_refl _) 5 chain))
              have n6_ := Aside0.mk (RdB.below HRx12.out (bytes_below (Below.refl _ _) (Nat.le_refl _) 5 chain))
              have m0_ := Aside0.mk (m9_)
              clear HB HK HR5 HRx2 HRx5 HRx8 HRx12
              have HB := n0_
              have HK := n1_
              have HR5 := n2_
              have HRx2 := n3_
              have HRx5 := n4_
              have HRx8 := n5_
              have HRx12 := n6_
              have HRcv := m0_
              clear n0_ n1_ n2_ n3_ n4_ n5_ n6_ m0_ m9_
              refine hK.out _ _ ⟨(blk_cell HK.out 0).trans rfl, (blk_cell HK.out 1).trans rfl, (blk_cell HK.out 2).trans rfl, (blk_cell HK.out 8).trans rfl, (blk_cell HK.out 9).trans rfl⟩ (fun hHeld => ?_)
              clear hK K
              refine norm_ (a' := ?_) ?_ ?_
              rotate_left
              · show Act.put _ (some 30) _ = _
                simp only [Act.put, qA, q0, qS, i64_w, i32_w]
                rfl
              refine one_ (i := 13) (N := some 28) #[true, true, true, true, true, true, true, true, true, true, true, true, true, true, true, true, false, false, false, false] rfl rfl (one_of HT_.out (by kernel_rfl)) (by decide) (fun K hK => ?_)
              refine goes_ Try.func13 (by kernel_rfl) rfl #[.int .i64 5, .slice A12 (timeB s ns).length c12] (by rfl) rfl rfl (by simp only [List.map_toArray, List.map_cons, List.map_nil]; rfl) ?_
              refine (within_c _ 5 (.slice A12 (timeB s ns).length c12) (timeB s ns) HRx12.out (by omega) (by have := timeB_len s ns; omega)).mono ?_
              rintro e wx ⟨vx, rfl, ho⟩
              refine ⟨_, rfl, ?_⟩
              have hb := ho.below
              obtain ⟨A13, c13, rfl, hc, hr⟩ := ho.rdB
              have n0_ := Aside0.mk (below_step HB.out hb)
              have n1_ := Aside0.mk (blk_below HK.out hb)
              have n2_ := Aside0.mk (RdB.below HR5.out hb)
              have n3_ := Aside0.mk (RdB.below HRx2.out hb)
              have n4_ := Aside0.mk (RdB.below HRx5.out hb)
              have n5_ := Aside0.mk (RdB.below HRx8.out hb)
              have n6_ := Aside0.mk (RdB.below HRx12.out hb)
              have n7_ := Aside0.mk (RdB.below HRcv.out hb)
              have m0_ := Aside0.mk (show RdB _ (.slice A13 (wit 5 (timeB s ns)).length c13) (wit 5 (timeB s ns)) from ⟨A13, c13, rfl, hc, hr⟩)
              clear HB HK HR5 HRx2 HRx5 HRx8 HRx12 HRcv
              have HB := n0_
              have HK := n1_
              have HR5 := n2_
              have HRx2 := n3_
              have HRx5 := n4_
              have HRx8 := n5_
              have HRx12 := n6_
              have HRcv := n7_
              have HRx13 := m0_
              clear n0_ n1_ n2_ n3_ n4_ n5_ n6_ n7_ m0_ ho hb hc hr
              refine hK.out _ _ ⟨(blk_cell HK.out 0).trans rfl, (blk_cell HK.out 1).trans rfl, (blk_cell HK.out 2).trans rfl, (blk_cell HK.out 8).trans rfl, (blk_cell HK.out 9).trans rfl⟩ (fun hHeld => ?_)
              clear hK K
              refine norm_ (a' := ?_) ?_ ?_
              rotate_left
              · show Act.put _ (some 28) _ = _
                simp only [Act.put, qA, q0, qS, i64_w, i32_w]
                rfl
              exact norm_ (by first | (simp only [putAll, Act.put, qA, q0, qS]; done) | (simp only [putAll, Act.put, qA, q0, qS]; rfl)) (hCont (_, _, _, _, _, _, _, _, _, _, _, _) _ ⟨HB.out, HK.out, HR5.out, HRx2.out, HRx5.out, HRx8.out, HRx13.out, HRcv.out⟩)
          · skip
            refine value_ (w1 := ?_) (v := ?_) (by rfl) rfl ?_ ?_
            rotate_left 2
            · go_simp
              constructor
              · rfl
              · rfl
            have m9_ := rdB_bytesB HB.out chain (by have := HC.out; omega)
            have n0_ := Aside0.mk (below_step HB.out (bytes_below (Below.refl _ _) (Nat.le_refl _) 5 chain))
            have n1_ := Aside0.mk (blk_below HK.out (bytes_below (Below.refl _ _) (Nat.le_refl _) 5 chain))
            have n2_ := Aside0.mk (RdB.below HR5.out (bytes_below (Below.refl _ _) (Nat.le_refl _) 5 chain))
            have n3_ := Aside0.mk (RdB.below HRx2.out (bytes_below (Below.refl _ _) (Nat.le_refl _) 5 chain))
            have n4_ := Aside0.mk (RdB.below HRx5.out (bytes_below (Below.refl _ _) (Nat.le_refl _) 5 chain))
            have n5_ := Aside0.mk (RdB.below HRx8.out (bytes_below (Below.refl _ _) (Nat.le_refl _) 5 chain))
            have m0_ := Aside0.mk (m9_)
            clear HB HK HR5 HRx2 HRx5 HRx8
            have HB := n0_
            have HK := n1_
            have HR5 := n2_
            have HRx2 := n3_
            have HRx5 := n4_
            have HRx8 := n5_
            have HRcv := m0_
            clear n0_ n1_ n2_ n3_ n4_ n5_ m0_ m9_
            refine hK.out _ _ ⟨(blk_cell HK.out 0).trans rfl, (blk_cell HK.out 1).trans rfl, (blk_cell HK.out 2).trans rfl, (blk_cell HK.out 8).trans rfl, (blk_cell HK.out 9).trans rfl⟩ (fun hHeld => ?_)
            clear hK K
            refine norm_ (a' := ?_) ?_ ?_
            rotate_left
            · show Act.put _ (some 30) _ = _
              simp only [Act.put, qA, q0, qS, i64_w, i32_w]
              rfl
            refine one_ (i := 12) (N := some 27) #[true, true, true, true, true, true, true, true, true, true, true, true, true, false, true, true, false, false, false, false] rfl rfl (one_of HT_.out (by kernel_rfl)) (by decide) (fun K hK => ?_)
            refine goes_ Try.func18 (by kernel_rfl) rfl #[.agg #[.int .i64 s, .int .i64 ns]] (by rfl) rfl rfl (by simp only [List.map_toArray, List.map_cons, List.map_nil]; rfl) ?_
            refine (mbytes_c _ s ns (by have := HN.out.s; omega) (by have := HN.out.s; omega) (by have := HN.out.ns; omega) (by have := HN.out.ns; omega)).mono ?_
            rintro e wx ⟨vx, rfl, ho⟩
            refine ⟨_, rfl, ?_⟩
            have hb := ho.below
            obtain ⟨A12, c12, rfl, hc, hr⟩ := ho.rdB
            have n0_ := Aside0.mk (below_step HB.out hb)
            have n1_ := Aside0.mk (blk_below HK.out hb)
            have n2_ := Aside0.mk (RdB.below HR5.out hb)
            have n3_ := Aside0.mk (RdB.below HRx2.out hb)
            have n4_ := Aside0.mk (RdB.below HRx5.out hb)
            have n5_ := Aside0.mk (RdB.below HRx8.out hb)
            have n6_ := Aside0.mk (RdB.below HRcv.out hb)
            have m0_ := Aside0.mk (show RdB _ (.slice A12 (timeB s ns).length c12) (timeB s ns) from ⟨A12, c12, rfl, hc, hr⟩)
            clear HB HK HR5 HRx2 HRx5 HRx8 HRcv
            have HB := n0_
            have HK := n1_
            have HR5 := n2_
            have HRx2 := n3_
            have HRx5 := n4_
            have HRx8 := n5_
            have HRcv := n6_
            have HRx12 := m0_
            clear n0_ n1_ n2_ n3_ n4_ n5_ n6_ m0_ ho hb hc hr
            refine hK.out _ _ ⟨(blk_cell HK.out 0).trans rfl, (blk_cell HK.out 1).trans rfl, (blk_cell HK.out 2).trans rfl, (blk_cell HK.out 8).trans rfl, (blk_cell HK.out 9).trans rfl⟩ (fun hHeld => ?_)
            clear hK K
            refine norm_ (a' := ?_) ?_ ?_
            rotate_left
            · show Act.put _ (some 27) _ = _
              simp only [Act.put, qA, q0, qS, i64_w, i32_w]
              rfl
            refine one_ (i := 13) (N := some 28) #[true, true, true, true, true, true, true, true, true, true, true, true, true, true, true, true, false, false, false, false] rfl rfl (one_of HT_.out (by kernel_rfl)) (by decide) (fun K hK => ?_)
            refine goes_ Try.func13 (by kernel_rfl) rfl #[.int .i64 5, .slice A12 (timeB s ns).length c12] (by rfl) rfl rfl (by simp only [List.map_toArray, List.map_cons, List.map_nil]; rfl) ?_
            refine (within_c _ 5 (.slice A12 (timeB s ns).length c12) (timeB s ns) HRx12.out (by omega) (by have := timeB_len s ns; omega)).mono ?_
            rintro e wx ⟨vx, rfl, ho⟩
            refine ⟨_, rfl, ?_⟩
            have hb := ho.below
            obtain ⟨A13, c13, rfl, hc, hr⟩ := ho.rdB
            have n0_ := Aside0.mk (below_step HB.out hb)
            have n1_ := Aside0.mk (blk_below HK.out hb)
            have n2_ := Aside0.mk (RdB.below HR5.out hb)
            have n3_ := Aside0.mk (RdB.below HRx2.out hb)
            have n4_ := Aside0.mk (RdB.below HRx5.out hb)
            have n5_ := Aside0.mk (RdB.below HRx8.out hb)
            have n6_ := Aside0.mk (RdB.below HRx12.out hb)
            have n7_ := Aside0.mk (RdB.below HRcv.out hb)
            have m0_ := Aside0.mk (show RdB _ (.slice A13 (wit 5 (timeB s ns)).length c13) (wit 5 (timeB s ns)) from ⟨A13, c13, rfl, hc, hr⟩)
            clear HB HK HR5 HRx2 HRx5 HRx8 HRx12 HRcv
            have HB := n0_
            have HK := n1_
            have HR5 := n2_
            have HRx2 := n3_
            have HRx5 := n4_
            have HRx8 := n5_
            have HRx12 := n6_
            have HRcv := n7_
            have HRx13 := m0_
            clear n0_ n1_ n2_ n3_ n4_ n5_ n6_ n7_ m0_ ho hb hc hr
            refine hK.out _ _ ⟨(blk_cell HK.out 0).trans rfl, (blk_cell HK.out 1).trans rfl, (blk_cell HK.out 2).trans rfl, (blk_cell HK.out 8).trans rfl, (blk_cell HK.out 9).trans rfl⟩ (fun hHeld => ?_)
            clear hK K
            refine norm_ (a' := ?_) ?_ ?_
            rotate_left
            · show Act.put _ (some 28) _ = _
              simp only [Act.put, qA, q0, qS, i64_w, i32_w]
              rfl
            exact norm_ (by first | (simp only [putAll, Act.put, qA, q0, qS]; done) | (simp only [putAll, Act.put, qA, q0, qS]; rfl)) (hCont (_, _, _, _, _, _, _, _, _, _, _, _) _ ⟨HB.out, HK.out, HR5.out, HRx2.out, HRx5.out, HRx8.out, HRx13.out, HRcv.out⟩)
        · skip
          refine value_ (w1 := ?_) (v := ?_) (by rfl) rfl ?_ ?_
          rotate_left 2
          · go_simp
            constructor
            · rfl
            · rfl
          have m9_ := rdB_bytesB HB.out chain (by have := HC.out; omega)
          have n0_ := Aside0.mk (below_step HB.out (bytes_below (Below.refl _ _) (Nat.le_refl _) 5 chain))
          have n1_ := Aside0.mk (blk_below HK.out (bytes_below (Below.refl _ _) (Nat.le_refl _) 5 chain))
          have n2_ := Aside0.mk (RdB.below HR5.out (bytes_below (Below.refl _ _) (Nat.le_refl _) 5 chain))
          have n3_ := Aside0.mk (RdB.below HRx2.out (bytes_below (Below.refl _ _) (Nat.le_refl _) 5 chain))
          have n4_ := Aside0.mk (RdB.below HRx5.out (bytes_below (Below.refl _ _) (Nat.le_refl _) 5 chain))
          have m0_ := Aside0.mk (m9_)
          clear HB HK HR5 HRx2 HRx5
          have HB := n0_
          have HK := n1_
          have HR5 := n2_
          have HRx2 := n3_
          have HRx5 := n4_
          have HRcv := m0_
          clear n0_ n1_ n2_ n3_ n4_ m0_ m9_
          refine hK.out _ _ ⟨(blk_cell HK.out 0).trans rfl, (blk_cell HK.out 1).trans rfl, (blk_cell HK.out 2).trans rfl, (blk_cell HK.out 8).trans rfl, (blk_cell HK.out 9).trans rfl⟩ (fun hHeld => ?_)
          clear hK K
          refine norm_ (a' := ?_) ?_ ?_
          rotate_left
          · show Act.put _ (some 30) _ = _
            simp only [Act.put, qA, q0, qS, i64_w, i32_w]
            rfl
          refine one_ (i := 8) (N := some 23) #[true, true, true, true, true, true, true, true, true, true, true, true, false, false, true, true, false, false, false, false] rfl rfl (one_of HT_.out (by kernel_rfl)) (by decide) (fun K hK => ?_)
          refine goes_ Try.func17 (by kernel_rfl) rfl #[.int .i64 3, .int .i64 round] (by rfl) rfl rfl (by simp only [List.map_toArray, List.map_cons, List.map_nil]; rfl) ?_
          refine (fixed_c _ 3 round (by omega)).mono ?_
          rintro e wx ⟨vx, rfl, ho⟩
          refine ⟨_, rfl, ?_⟩
          have hb := ho.below
          obtain ⟨A8, c8, rfl, hc, hr⟩ := ho.rdB
          have n0_ := Aside0.mk (below_step HB.out hb)
          have n1_ := Aside0.mk (blk_below HK.out hb)
          have n2_ := Aside0.mk (RdB.below HR5.out hb)
          have n3_ := Aside0.mk (RdB.below HRx2.out hb)
          have n4_ := Aside0.mk (RdB.below HRx5.out hb)
          have n5_ := Aside0.mk (RdB.below HRcv.out hb)
          have m0_ := Aside0.mk (show RdB _ (.slice A8 (fix8 3 round).length c8) (fix8 3 round) from ⟨A8, c8, rfl, hc, hr⟩)
          clear HB HK HR5 HRx2 HRx5 HRcv
          have HB := n0_
          have HK := n1_
          have HR5 := n2_
          have HRx2 := n3_
          have HRx5 := n4_
          have HRcv := n5_
          have HRx8 := m0_
          clear n0_ n1_ n2_ n3_ n4_ n5_ m0_ ho hb hc hr
          refine hK.out _ _ ⟨(blk_cell HK.out 0).trans rfl, (blk_cell HK.out 1).trans rfl, (blk_cell HK.out 2).trans rfl, (blk_cell HK.out 8).trans rfl, (blk_cell HK.out 9).trans rfl⟩ (fun hHeld => ?_)
          clear hK K
          refine norm_ (a' := ?_) ?_ ?_
          rotate_left
          · show Act.put _ (some 23) _ = _
            simp only [Act.put, qA, q0, qS, i64_w, i32_w]
            rfl
          refine one_ (i := 12) (N := some 27) #[true, true, true, true, true, true, true, true, true, true, true, true, true, false, true, true, false, false, false, false] rfl rfl (one_of HT_.out (by kernel_rfl)) (by decide) (fun K hK => ?_)
          refine goes_ Try.func18 (by kernel_rfl) rfl #[.agg #[.int .i64 s, .int .i64 ns]] (by rfl) rfl rfl (by simp only [List.map_toArray, List.map_cons, List.map_nil]; rfl) ?_
          refine (mbytes_c _ s ns (by have := HN.out.s; omega) (by have := HN.out.s; omega) (by have := HN.out.ns; omega) (by have := HN.out.ns; omega)).mono ?_
          rintro e wx ⟨vx, rfl, ho⟩
          refine ⟨_, rfl, ?_⟩
          have hb := ho.below
          obtain ⟨A12, c12, rfl, hc, hr⟩ := ho.rdB
          have n0_ := Aside0.mk (below_step HB.out hb)
          have n1_ := Aside0.mk (blk_below HK.out hb)
          have n2_ := Aside0.mk (RdB.below HR5.out hb)
          have n3_ := Aside0.mk (RdB.below HRx2.out hb)
          have n4_ := Aside0.mk (RdB.below HRx5.out hb)
          have n5_ := Aside0.mk (RdB.below HRx8.out hb)
          have n6_ := Aside0.mk (RdB.below HRcv.out hb)
          have m0_ := Aside0.mk (show RdB _ (.slice A12 (timeB s ns).length c12) (timeB s ns) from ⟨A12, c12, rfl, hc, hr⟩)
          clear HB HK HR5 HRx2 HRx5 HRx8 HRcv
          have HB := n0_
          have HK := n1_
          have HR5 := n2_
          have HRx2 := n3_
          have HRx5 := n4_
          have HRx8 := n5_
          have HRcv := n6_
          have HRx12 := m0_
          clear n0_ n1_ n2_ n3_ n4_ n5_ n6_ m0_ ho hb hc hr
          refine hK.out _ _ ⟨(blk_cell HK.out 0).trans rfl, (blk_cell HK.out 1).trans rfl, (blk_cell HK.out 2).trans rfl, (blk_cell HK.out 8).trans rfl, (blk_cell HK.out 9).trans rfl⟩ (fun hHeld => ?_)
          clear hK K
          refine norm_ (a' := ?_) ?_ ?_
          rotate_left
          · show Act.put _ (some 27) _ = _
            simp only [Act.put, qA, q0, qS, i64_w, i32_w]
            rfl
          refine one_ (i := 13) (N := some 28) #[true, true, true, true, true, true, true, true, true, true, true, true, true, true, true, true, false, false, false, false] rfl rfl (one_of HT_.out (by kernel_rfl)) (by decide) (fun K hK => ?_)
          refine goes_ Try.func13 (by kernel_rfl) rfl #[.int .i64 5, .slice A12 (timeB s ns).length c12] (by rfl) rfl rfl (by simp only [List.map_toArray, List.map_cons, List.map_nil]; rfl) ?_
          refine (within_c _ 5 (.slice A12 (timeB s ns).length c12) (timeB s ns) HRx12.out (by omega) (by have := timeB_len s ns; omega)).mono ?_
          rintro e wx ⟨vx, rfl, ho⟩
          refine ⟨_, rfl, ?_⟩
          have hb := ho.below
          obtain ⟨A13, c13, rfl, hc, hr⟩ := ho.rdB
          have n0_ := Aside0.mk (below_step HB.out hb)
          have n1_ := Aside0.mk (blk_below HK.out hb)
          have n2_ := Aside0.mk (RdB.below HR5.out hb)
          have n3_ := Aside0.mk (RdB.below HRx2.out hb)
          have n4_ := Aside0.mk (RdB.below HRx5.out hb)
          have n5_ := Aside0.mk (RdB.below HRx8.out hb)
          have n6_ := Aside0.mk (RdB.below HRx12.out hb)
          have n7_ := Aside0.mk (RdB.below HRcv.out hb)
          have m0_ := Aside0.mk (show RdB _ (.slice A13 (wit 5 (timeB s ns)).length c13) (wit 5 (timeB s ns)) from ⟨A13, c13, rfl, hc, hr⟩)
          clear HB HK HR5 HRx2 HRx5 HRx8 HRx12 HRcv
          have HB := n0_
          have HK := n1_
          have HR5 := n2_
          have HRx2 := n3_
          have HRx5 := n4_
          have HRx8 := n5_
          have HRx12 := n6_
          have HRcv := n7_
          have HRx13 := m0_
          clear n0_ n1_ n2_ n3_ n4_ n5_ n6_ n7_ m0_ ho hb hc hr
          refine hK.out _ _ ⟨(blk_cell HK.out 0).trans rfl, (blk_cell HK.out 1).trans rfl, (blk_cell HK.out 2).trans rfl, (blk_cell HK.out 8).trans rfl, (blk_cell HK.out 9).trans rfl⟩ (fun hHeld => ?_)
          clear hK K
          refine norm_ (a' := ?_) ?_ ?_
          rotate_left
          · show Act.put _ (some 28) _ = _
            simp only [Act.put, qA, q0, qS, i64_w, i32_w]
            rfl
          exact norm_ (by first | (simp only [putAll, Act.put, qA, q0, qS]; done) | (simp only [putAll, Act.put, qA, q0, qS]; rfl)) (hCont (_, _, _, _, _, _, _, _, _, _, _, _) _ ⟨HB.out, HK.out, HR5.out, HRx2.out, HRx5.out, HRx8.out, HRx13.out, HRcv.out⟩)
      · skip
        refine value_ (w1 := ?_) (v := ?_) (by rfl) rfl ?_ ?_
        rotate_left 2
        · go_simp
          constructor
          · rfl
          · rfl
        have m9_ := rdB_bytesB HB.out chain (by have := HC.out; omega)
        have n0_ := Aside0.mk (below_step HB.out (bytes_below (Below.refl _ _) (Nat.le_refl _) 5 chain))
        have n1_ := Aside0.mk (blk_below HK.out (bytes_below (Below.refl _ _) (Nat.le_refl _) 5 chain))
        have n2_ := Aside0.mk (RdB.below HR5.out (bytes_below (Below.refl _ _) (Nat.le_refl _) 5 chain))
        have n3_ := Aside0.mk (RdB.below HRx2.out (bytes_below (Below.refl _ _) (Nat.le_refl _) 5 chain))
        have m0_ := Aside0.mk (m9_)
        clear HB HK HR5 HRx2
        have HB := n0_
        have HK := n1_
        have HR5 := n2_
        have HRx2 := n3_
        have HRcv := m0_
        clear n0_ n1_ n2_ n3_ m0_ m9_
        refine hK.out _ _ ⟨(blk_cell HK.out 0).trans rfl, (blk_cell HK.out 1).trans rfl, (blk_cell HK.out 2).trans rfl, (blk_cell HK.out 8).trans rfl, (blk_cell HK.out 9).trans rfl⟩ (fun hHeld => ?_)
        clear hK K
        refine norm_ (a' := ?_) ?_ ?_
        rotate_left
        · show Act.put _ (some 30) _ = _
          simp only [Act.put, qA, q0, qS, i64_w, i32_w]
          rfl
        refine one_ (i := 5) (N := some 20) #[true, true, true, true, true, true, true, true, false, true, true, true, false, false, true, true, false, false, false, false] rfl rfl (one_of HT_.out (by kernel_rfl)) (by decide) (fun K hK => ?_)
        refine goes_ Try.func17 (by kernel_rfl) rfl #[.int .i64 2, .int .i64 height] (by rfl) rfl rfl (by simp only [List.map_toArray, List.map_cons, List.map_nil]; rfl) ?_
        refine (fixed_c _ 2 height (by omega)).mono ?_
        rintro e wx ⟨vx, rfl, ho⟩
        refine ⟨_, rfl, ?_⟩
        have hb := ho.below
        obtain ⟨A5, c5, rfl, hc, hr⟩ := ho.rdB
        have n0_ := Aside0.mk (below_step HB.out hb)
        have n1_ := Aside0.mk (blk_below HK.out hb)
        have n2_ := Aside0.mk (RdB.below HR5.out hb)
        have n3_ := Aside0.mk (RdB.below HRx2.out hb)
        have n4_ := Aside0.mk (RdB.below HRcv.out hb)
        have m0_ := Aside0.mk (show RdB _ (.slice A5 (fix8 2 height).length c5) (fix8 2 height) from ⟨A5, c5, rfl, hc, hr⟩)
        clear HB HK HR5 HRx2 HRcv
        have HB := n0_
        have HK := n1_
        have HR5 := n2_
        have HRx2 := n3_
        have HRcv := n4_
        have HRx5 := m0_
        clear n0_ n1_ n2_ n3_ n4_ m0_ ho hb hc hr
        refine hK.out _ _ ⟨(blk_cell HK.out 0).trans rfl, (blk_cell HK.out 1).trans rfl, (blk_cell HK.out 2).trans rfl, (blk_cell HK.out 8).trans rfl, (blk_cell HK.out 9).trans rfl⟩ (fun hHeld => ?_)
        clear hK K
        refine norm_ (a' := ?_) ?_ ?_
        rotate_left
        · show Act.put _ (some 20) _ = _
          simp only [Act.put, qA, q0, qS, i64_w, i32_w]
          rfl
        refine one_ (i := 8) (N := some 23) #[true, true, true, true, true, true, true, true, true, true, true, true, false, false, true, true, false, false, false, false] rfl rfl (one_of HT_.out (by kernel_rfl)) (by decide) (fun K hK => ?_)
        refine goes_ Try.func17 (by kernel_rfl) rfl #[.int .i64 3, .int .i64 round] (by rfl) rfl rfl (by simp only [List.map_toArray, List.map_cons, List.map_nil]; rfl) ?_
        refine (fixed_c _ 3 round (by omega)).mono ?_
        rintro e wx ⟨vx, rfl, ho⟩
        refine ⟨_, rfl, ?_⟩
        have hb := ho.below
        obtain ⟨A8, c8, rfl, hc, hr⟩ := ho.rdB
        have n0_ := Aside0.mk (below_step HB.out hb)
        have n1_ := Aside0.mk (blk_below HK.out hb)
        have n2_ := Aside0.mk (RdB.below HR5.out hb)
        have n3_ := Aside0.mk (RdB.below HRx2.out hb)
        have n4_ := Aside0.mk (RdB.below HRx5.out hb)
        have n5_ := Aside0.mk (RdB.below HRcv.out hb)
        have m0_ := Aside0.mk (show RdB _ (.slice A8 (fix8 3 round).length c8) (fix8 3 round) from ⟨A8, c8, rfl, hc, hr⟩)
        clear HB HK HR5 HRx2 HRx5 HRcv
        have HB := n0_
        have HK := n1_
        have HR5 := n2_
        have HRx2 := n3_
        have HRx5 := n4_
        have HRcv := n5_
        have HRx8 := m0_
        clear n0_ n1_ n2_ n3_ n4_ n5_ m0_ ho hb hc hr
        refine hK.out _ _ ⟨(blk_cell HK.out 0).trans rfl, (blk_cell HK.out 1).trans rfl, (blk_cell HK.out 2).trans rfl, (blk_cell HK.out 8).trans rfl, (blk_cell HK.out 9).trans rfl⟩ (fun hHeld => ?_)
        clear hK K
        refine norm_ (a' := ?_) ?_ ?_
        rotate_left
        · show Act.put _ (some 23) _ = _
          simp only [Act.put, qA, q0, qS, i64_w, i32_w]
          rfl
        refine one_ (i := 12) (N := some 27) #[true, true, true, true, true, true, true, true, true, true, true, true, true, false, true, true, false, false, false, false] rfl rfl (one_of HT_.out (by kernel_rfl)) (by decide) (fun K hK => ?_)
        refine goes_ Try.func18 (by kernel_rfl) rfl #[.agg #[.int .i64 s, .int .i64 ns]] (by rfl) rfl rfl (by simp only [List.map_toArray, List.map_cons, List.map_nil]; rfl) ?_
        refine (mbytes_c _ s ns (by have := HN.out.s; omega) (by have := HN.out.s; omega) (by have := HN.out.ns; omega) (by have := HN.out.ns; omega)).mono ?_
        rintro e wx ⟨vx, rfl, ho⟩
        refine ⟨_, rfl, ?_⟩
        have hb := ho.below
        obtain ⟨A12, c12, rfl, hc, hr⟩ := ho.rdB
        have n0_ := Aside0.mk (below_step HB.out hb)
        have n1_ := Aside0.mk (blk_below HK.out hb)
        have n2_ := Aside0.mk (RdB.below HR5.out hb)
        have n3_ := Aside0.mk (RdB.below HRx2.out hb)
        have n4_ := Aside0.mk (RdB.below HRx5.out hb)
        have n5_ := Aside0.mk (RdB.below HRx8.out hb)
        have n6_ := Aside0.mk (RdB.below HRcv.out hb)
        have m0_ := Aside0.mk (show RdB _ (.slice A12 (timeB s ns).length c12) (timeB s ns) from ⟨A12, c12, rfl, hc, hr⟩)
        clear HB HK HR5 HRx2 HRx5 HRx8 HRcv
        have HB := n0_
        have HK := n1_
        have HR5 := n2_
        have HRx2 := n3_
        have HRx5 := n4_
        have HRx8 := n5_
        have HRcv := n6_
        have HRx12 := m0_
        clear n0_ n1_ n2_ n3_ n4_ n5_ n6_ m0_ ho hb hc hr
        refine hK.out _ _ ⟨(blk_cell HK.out 0).trans rfl, (blk_cell HK.out 1).trans rfl, (blk_cell HK.out 2).trans rfl, (blk_cell HK.out 8).trans rfl, (blk_cell HK.out 9).trans rfl⟩ (fun hHeld => ?_)
        clear hK K
        refine norm_ (a' := ?_) ?_ ?_
        rotate_left
        · show Act.put _ (some 27) _ = _
          simp only [Act.put, qA, q0, qS, i64_w, i32_w]
          rfl
        refine one_ (i := 13) (N := some 28) #[true, true, true, true, true, true, true, true, true, true, true, true, true, true, true, true, false, false, false, false] rfl rfl (one_of HT_.out (by kernel_rfl)) (by decide) (fun K hK => ?_)
        refine goes_ Try.func13 (by kernel_rfl) rfl #[.int .i64 5, .slice A12 (timeB s ns).length c12] (by rfl) rfl rfl (by simp only [List.map_toArray, List.map_cons, List.map_nil]; rfl) ?_
        refine (within_c _ 5 (.slice A12 (timeB s ns).length c12) (timeB s ns) HRx12.out (by omega) (by have := timeB_len s ns; omega)).mono ?_
        rintro e wx ⟨vx, rfl, ho⟩
        refine ⟨_, rfl, ?_⟩
        have hb := ho.below
        obtain ⟨A13, c13, rfl, hc, hr⟩ := ho.rdB
        have n0_ := Aside0.mk (below_step HB.out hb)
        have n1_ := Aside0.mk (blk_below HK.out hb)
        have n2_ := Aside0.mk (RdB.below HR5.out hb)
        have n3_ := Aside0.mk (RdB.below HRx2.out hb)
        have n4_ := Aside0.mk (RdB.below HRx5.out hb)
        have n5_ := Aside0.mk (RdB.below HRx8.out hb)
        have n6_ := Aside0.mk (RdB.below HRx12.out hb)
        have n7_ := Aside0.mk (RdB.below HRcv.out hb)
        have m0_ := Aside0.mk (show RdB _ (.slice A13 (wit 5 (timeB s ns)).length c13) (wit 5 (timeB s ns)) from ⟨A13, c13, rfl, hc, hr⟩)
        clear HB HK HR5 HRx2 HRx5 HRx8 HRx12 HRcv
        have HB := n0_
        have HK := n1_
        have HR5 := n2_
        have HRx2 := n3_
        have HRx5 := n4_
        have HRx8 := n5_
        have HRx12 := n6_
        have HRcv := n7_
        have HRx13 := m0_
        clear n0_ n1_ n2_ n3_ n4_ n5_ n6_ n7_ m0_ ho hb hc hr
        refine hK.out _ _ ⟨(blk_cell HK.out 0).trans rfl, (blk_cell HK.out 1).trans rfl, (blk_cell HK.out 2).trans rfl, (blk_cell HK.out 8).trans rfl, (blk_cell HK.out 9).trans rfl⟩ (fun hHeld => ?_)
        clear hK K
        refine norm_ (a' := ?_) ?_ ?_
        rotate_left
        · show Act.put _ (some 28) _ = _
          simp only [Act.put, qA, q0, qS, i64_w, i32_w]
          rfl
        exact norm_ (by first | (simp only [putAll, Act.put, qA, q0, qS]; done) | (simp only [putAll, Act.put, qA, q0, qS]; rfl)) (hCont (_, _, _, _, _, _, _, _, _, _, _, _) _ ⟨HB.out, HK.out, HR5.out, HRx2.out, HRx5.out, HRx8.out, HRx13.out, HRcv.out⟩)
    · skip
      refine value_ (w1 := ?_) (v := ?_) (by rfl) rfl ?_ ?_
      rotate_left 2
      · go_simp
        constructor
        · rfl
        · rfl
      have m9_ := rdB_bytesB HB.out chain (by have := HC.out; omega)
      have n0_ := Aside0.mk (below_step HB.out (bytes_below (Below.refl _ _) (Nat.le_refl _) 5 chain))
      have n1_ := Aside0.mk (blk_below HK.out (bytes_below (Below.refl _ _) (Nat.le_refl _) 5 chain))
      have n2_ := Aside0.mk (RdB.below HR5.out (bytes_below (Below.refl _ _) (Nat.le_refl _) 5 chain))
      have m0_ := Aside0.mk (m9_)
      clear HB HK HR5
      have HB := n0_
      have HK := n1_
      have HR5 := n2_
      have HRcv := m0_
      clear n0_ n1_ n2_ m0_ m9_
      refine hK.out _ _ ⟨(blk_cell HK.out 0).trans rfl, (blk_cell HK.out 1).trans rfl, (blk_cell HK.out 2).trans rfl, (blk_cell HK.out 8).trans rfl, (blk_cell HK.out 9).trans rfl⟩ (fun hHeld => ?_)
      clear hK K
      refine norm_ (a' := ?_) ?_ ?_
      rotate_left
      · show Act.put _ (some 30) _ = _
        simp only [Act.put, qA, q0, qS, i64_w, i32_w]
        rfl
      refine one_ (i := 2) (N := some 17) #[true, true, true, true, true, false, true, true, false, true, true, true, false, false, true, true, false, false, false, false] rfl rfl (one_of HT_.out (by kernel_rfl)) (by decide) (fun K hK => ?_)
      refine goes_ Try.func16 (by kernel_rfl) rfl #[.int .i64 1, .int .i64 kind] (by rfl) rfl rfl (by simp only [List.map_toArray, List.map_cons, List.map_nil]; rfl) ?_
      refine (number_c _ 1 kind (by omega) (by have := HN.out.kind; omega) (by have := HN.out.kind; omega)).mono ?_
      rintro e wx ⟨vx, rfl, ho⟩
      refine ⟨_, rfl, ?_⟩
      have hb := ho.below
      obtain ⟨A2, c2, rfl, hc, hr⟩ := ho.rdB
      have n0_ := Aside0.mk (below_step HB.out hb)
      have n1_ := Aside0.mk (blk_below HK.out hb)
      have n2_ := Aside0.mk (RdB.below HR5.out hb)
      have n3_ := Aside0.mk (RdB.below HRcv.out hb)
      have m0_ := Aside0.mk (show RdB _ (.slice A2 (num 1 kind).length c2) (num 1 kind) from ⟨A2, c2, rfl, hc, hr⟩)
      clear HB HK HR5 HRcv
      have HB := n0_
      have HK := n1_
      have HR5 := n2_
      have HRcv := n3_
      have HRx2 := m0_
      clear n0_ n1_ n2_ n3_ m0_ ho hb hc hr
      refine hK.out _ _ ⟨(blk_cell HK.out 0).trans rfl, (blk_cell HK.out 1).trans rfl, (blk_cell HK.out 2).trans rfl, (blk_cell HK.out 8).trans rfl, (blk_cell HK.out 9).trans rfl⟩ (fun hHeld => ?_)
      clear hK K
      refine norm_ (a' := ?_) ?_ ?_
      rotate_left
      · show Act.put _ (some 17) _ = _
        simp only [Act.put, qA, q0, qS, i64_w, i32_w]
        rfl
      refine one_ (i := 5) (N := some 20) #[true, true, true, true, true, true, true, true, false, true, true, true, false, false, true, true, false, false, false, false] rfl rfl (one_of HT_.out (by kernel_rfl)) (by decide) (fun K hK => ?_)
      refine goes_ Try.func17 (by kernel_rfl) rfl #[.int .i64 2, .int .i64 height] (by rfl) rfl rfl (by simp only [List.map_toArray, List.map_cons, List.map_nil]; rfl) ?_
      refine (fixed_c _ 2 height (by omega)).mono ?_
      rintro e wx ⟨vx, rfl, ho⟩
      refine ⟨_, rfl, ?_⟩
      have hb := ho.below
      obtain ⟨A5, c5, rfl, hc, hr⟩ := ho.rdB
      have n0_ := Aside0.mk (below_step HB.out hb)
      have n1_ := Aside0.mk (blk_below HK.out hb)
      have n2_ := Aside0.mk (RdB.below HR5.out hb)
      have n3_ := Aside0.mk (RdB.below HRx2.out hb)
      have n4_ := Aside0.mk (RdB.below HRcv.out hb)
      have m0_ := Aside0.mk (show RdB _ (.slice A5 (fix8 2 height).length c5) (fix8 2 height) from ⟨A5, c5, rfl, hc, hr⟩)
      clear HB HK HR5 HRx2 HRcv
      have HB := n0_
      have HK := n1_
      have HR5 := n2_
      have HRx2 := n3_
      have HRcv := n4_
      have HRx5 := m0_
      clear n0_ n1_ n2_ n3_ n4_ m0_ ho hb hc hr
      refine hK.out _ _ ⟨(blk_cell HK.out 0).trans rfl, (blk_cell HK.out 1).trans rfl, (blk_cell HK.out 2).trans rfl, (blk_cell HK.out 8).trans rfl, (blk_cell HK.out 9).trans rfl⟩ (fun hHeld => ?_)
      clear hK K
      refine norm_ (a' := ?_) ?_ ?_
      rotate_left
      · show Act.put _ (some 20) _ = _
        simp only [Act.put, qA, q0, qS, i64_w, i32_w]
        rfl
      refine one_ (i := 8) (N := some 23) #[true, true, true, true, true, true, true, true, true, true, true, true, false, false, true, true, false, false, false, false] rfl rfl (one_of HT_.out (by kernel_rfl)) (by decide) (fun K hK => ?_)
      refine goes_ Try.func17 (by kernel_rfl) rfl #[.int .i64 3, .int .i64 round] (by rfl) rfl rfl (by simp only [List.map_toArray, List.map_cons, List.map_nil]; rfl) ?_
      refine (fixed_c _ 3 round (by omega)).mono ?_
      rintro e wx ⟨vx, rfl, ho⟩
      refine ⟨_, rfl, ?_⟩
      have hb := ho.below
      obtain ⟨A8, c8, rfl, hc, hr⟩ := ho.rdB
      have n0_ := Aside0.mk (below_step HB.out hb)
      have n1_ := Aside0.mk (blk_below HK.out hb)
      have n2_ := Aside0.mk (RdB.below HR5.out hb)
      have n3_ := Aside0.mk (RdB.below HRx2.out hb)
      have n4_ := Aside0.mk (RdB.below HRx5.out hb)
      have n5_ := Aside0.mk (RdB.below HRcv.out hb)
      have m0_ := Aside0.mk (show RdB _ (.slice A8 (fix8 3 round).length c8) (fix8 3 round) from ⟨A8, c8, rfl, hc, hr⟩)
      clear HB HK HR5 HRx2 HRx5 HRcv
      have HB := n0_
      have HK := n1_
      have HR5 := n2_
      have HRx2 := n3_
      have HRx5 := n4_
      have HRcv := n5_
      have HRx8 := m0_
      clear n0_ n1_ n2_ n3_ n4_ n5_ m0_ ho hb hc hr
      refine hK.out _ _ ⟨(blk_cell HK.out 0).trans rfl, (blk_cell HK.out 1).trans rfl, (blk_cell HK.out 2).trans rfl, (blk_cell HK.out 8).trans rfl, (blk_cell HK.out 9).trans rfl⟩ (fun hHeld => ?_)
      clear hK K
      refine norm_ (a' := ?_) ?_ ?_
      rotate_left
      · show Act.put _ (some 23) _ = _
        simp only [Act.put, qA, q0, qS, i64_w, i32_w]
        rfl
      refine one_ (i := 12) (N := some 27) #[true, true, true, true, true, true, true, true, true, true, true, true, true, false, true, true, false, false, false, false] rfl rfl (one_of HT_.out (by kernel_rfl)) (by decide) (fun K hK => ?_)
      refine goes_ Try.func18 (by kernel_rfl) rfl #[.agg #[.int .i64 s, .int .i64 ns]] (by rfl) rfl rfl (by simp only [List.map_toArray, List.map_cons, List.map_nil]; rfl) ?_
      refine (mbytes_c _ s ns (by have := HN.out.s; omega) (by have := HN.out.s; omega) (by have := HN.out.ns; omega) (by have := HN.out.ns; omega)).mono ?_
      rintro e wx ⟨vx, rfl, ho⟩
      refine ⟨_, rfl, ?_⟩
      have hb := ho.below
      obtain ⟨A12, c12, rfl, hc, hr⟩ := ho.rdB
      have n0_ := Aside0.mk (below_step HB.out hb)
      have n1_ := Aside0.mk (blk_below HK.out hb)
      have n2_ := Aside0.mk (RdB.below HR5.out hb)
      have n3_ := Aside0.mk (RdB.below HRx2.out hb)
      have n4_ := Aside0.mk (RdB.below HRx5.out hb)
      have n5_ := Aside0.mk (RdB.below HRx8.out hb)
      have n6_ := Aside0.mk (RdB.below HRcv.out hb)
      have m0_ := Aside0.mk (show RdB _ (.slice A12 (timeB s ns).length c12) (timeB s ns) from ⟨A12, c12, rfl, hc, hr⟩)
      clear HB HK HR5 HRx2 HRx5 HRx8 HRcv
      have HB := n0_
      have HK := n1_
      have HR5 := n2_
      have HRx2 := n3_
      have HRx5 := n4_
      have HRx8 := n5_
      have HRcv := n6_
      have HRx12 := m0_
      clear n0_ n1_ n2_ n3_ n4_ n5_ n6_ m0_ ho hb hc hr
      refine hK.out _ _ ⟨(blk_cell HK.out 0).trans rfl, (blk_cell HK.out 1).trans rfl, (blk_cell HK.out 2).trans rfl, (blk_cell HK.out 8).trans rfl, (blk_cell HK.out 9).trans rfl⟩ (fun hHeld => ?_)
      clear hK K
      refine norm_ (a' := ?_) ?_ ?_
      rotate_left
      · show Act.put _ (some 27) _ = _
        simp only [Act.put, qA, q0, qS, i64_w, i32_w]
        rfl
      refine one_ (i := 13) (N := some 28) #[true, true, true, true, true, true, true, true, true, true, true, true, true, true, true, true, false, false, false, false] rfl rfl (one_of HT_.out (by kernel_rfl)) (by decide) (fun K hK => ?_)
      refine goes_ Try.func13 (by kernel_rfl) rfl #[.int .i64 5, .slice A12 (timeB s ns).length c12] (by rfl) rfl rfl (by simp only [List.map_toArray, List.map_cons, List.map_nil]; rfl) ?_
      refine (within_c _ 5 (.slice A12 (timeB s ns).length c12) (timeB s ns) HRx12.out (by omega) (by have := timeB_len s ns; omega)).mono ?_
      rintro e wx ⟨vx, rfl, ho⟩
      refine ⟨_, rfl, ?_⟩
      have hb := ho.below
      obtain ⟨A13, c13, rfl, hc, hr⟩ := ho.rdB
      have n0_ := Aside0.mk (below_step HB.out hb)
      have n1_ := Aside0.mk (blk_below HK.out hb)
      have n2_ := Aside0.mk (RdB.below HR5.out hb)
      have n3_ := Aside0.mk (RdB.below HRx2.out hb)
      have n4_ := Aside0.mk (RdB.below HRx5.out hb)
      have n5_ := Aside0.mk (RdB.below HRx8.out hb)
      have n6_ := Aside0.mk (RdB.below HRx12.out hb)
      have n7_ := Aside0.mk (RdB.below HRcv.out hb)
      have m0_ := Aside0.mk (show RdB _ (.slice A13 (wit 5 (timeB s ns)).length c13) (wit 5 (timeB s ns)) from ⟨A13, c13, rfl, hc, hr⟩)
      clear HB HK HR5 HRx2 HRx5 HRx8 HRx12 HRcv
      have HB := n0_
      have HK := n1_
      have HR5 := n2_
      have HRx2 := n3_
      have HRx5 := n4_
      have HRx8 := n5_
      have HRx12 := n6_
      have HRcv := n7_
      have HRx13 := m0_
      clear n0_ n1_ n2_ n3_ n4_ n5_ n6_ n7_ m0_ ho hb hc hr
      refine hK.out _ _ ⟨(blk_cell HK.out 0).trans rfl, (blk_cell HK.out 1).trans rfl, (blk_cell HK.out 2).trans rfl, (blk_cell HK.out 8).trans rfl, (blk_cell HK.out 9).trans rfl⟩ (fun hHeld => ?_)
      clear hK K
      refine norm_ (a' := ?_) ?_ ?_
      rotate_left
      · show Act.put _ (some 28) _ = _
        simp only [Act.put, qA, q0, qS, i64_w, i32_w]
        rfl
      exact norm_ (by first | (simp only [putAll, Act.put, qA, q0, qS]; done) | (simp only [putAll, Act.put, qA, q0, qS]; rfl)) (hCont (_, _, _, _, _, _, _, _, _, _, _, _) _ ⟨HB.out, HK.out, HR5.out, HRx2.out, HRx5.out, HRx8.out, HRx13.out, HRcv.out⟩)
  rintro ⟨A2_, c2_, A5_, c5_, A8_, c8_, A12_, c12_, A13_, c13_, bb_, cccc_⟩ w6 ⟨g0, g1, g2, g3, g4, g5, g6, g7⟩
  have HB := Aside0.mk g0
  have HK := Aside0.mk g1
  have HR5 := Aside0.mk g2
  have HRx2 := Aside0.mk g3
  have HRx5 := Aside0.mk g4
  have HRx8 := Aside0.mk g5
  have HRx13 := Aside0.mk g6
  have HRcv := Aside0.mk g7
  clear g0 g1 g2 g3 g4 g5 g6 g7
  have hHeld : w6.cell? ⟨w.heap.size, 0, none⟩ = some (.int .i64 kind) ∧ w6.cell? ⟨w.heap.size, 1, none⟩ = some (.int .i64 height) ∧ w6.cell? ⟨w.heap.size, 2, none⟩ = some (.int .i64 round) ∧ w6.cell? ⟨w.heap.size, 8, none⟩ = some (.int .i64 s) ∧ w6.cell? ⟨w.heap.size, 9, none⟩ = some (.int .i64 ns) := ⟨(blk_cell HK.out 0).trans rfl, (blk_cell HK.out 1).trans rfl, (blk_cell HK.out 2).trans rfl, (blk_cell HK.out 8).trans rfl, (blk_cell HK.out 9).trans rfl⟩
  refine norm_ (a' := ?_) ?_ ?_
  rotate_left
  · simp only [putAll, Act.put, qA, q0, qS]
    rfl
  refine one_ (i := 16) (N := some 31) #[true, true, true, true, true, true, true, true, true, true, true, true, true, true, true, true, true, false, false, false] rfl rfl (one_of HT_.out (by kernel_rfl)) (by decide) (fun K hK => ?_)
  refine goes_ Try.func19 (by kernel_rfl) rfl #[.int .i64 6, .slice (some ⟨bb_, 0, none⟩) chain.size cccc_] (by rfl) rfl rfl (by simp only [List.map_toArray, List.map_cons, List.map_nil]; rfl) ?_
  refine (some_c _ 6 _ (bytesOf chain) HRcv.out (by omega) (by have := HC.out; rw [bytesOf_length]; omega)).mono ?_
  rintro e wx ⟨vx, rfl, ho⟩
  refine ⟨_, rfl, ?_⟩
  have hb := ho.below
  obtain ⟨A16, c16, rfl, hc, hr⟩ := ho.rdB
  have n0_ := Aside0.mk (below_step HB.out hb)
  have n1_ := Aside0.mk (blk_below HK.out hb)
  have n2_ := Aside0.mk (RdB.below HR5.out hb)
  have n3_ := Aside0.mk (RdB.below HRx2.out hb)
  have n4_ := Aside0.mk (RdB.below HRx5.out hb)
  have n5_ := Aside0.mk (RdB.below HRx8.out hb)
  have n6_ := Aside0.mk (RdB.below HRx13.out hb)
  have m0_ := Aside0.mk (show RdB _ (.slice A16 (som 6 (bytesOf chain)).length c16) (som 6 (bytesOf chain)) from ⟨A16, c16, rfl, hc, hr⟩)
  clear HB HK HR5 HRx2 HRx5 HRx8 HRx13
  have HB := n0_
  have HK := n1_
  have HR5 := n2_
  have HRx2 := n3_
  have HRx5 := n4_
  have HRx8 := n5_
  have HRx13 := n6_
  have HRx16 := m0_
  clear n0_ n1_ n2_ n3_ n4_ n5_ n6_ m0_ ho hb hc hr
  refine hK.out _ _ ⟨(blk_cell HK.out 0).trans rfl, (blk_cell HK.out 1).trans rfl, (blk_cell HK.out 2).trans rfl, (blk_cell HK.out 8).trans rfl, (blk_cell HK.out 9).trans rfl⟩ (fun hHeld => ?_)
  clear hK K
  refine norm_ (a' := ?_) ?_ ?_
  rotate_left
  · show Act.put _ (some 31) _ = _
    simp only [Act.put, qA, q0, qS, i64_w, i32_w]
    rfl
  refine one_ (i := 17) (N := some 32) #[true, true, true, true, true, true, true, true, true, true, true, true, true, true, true, true, true, true, false, false] rfl rfl (one_of HT_.out (by kernel_rfl)) (by decide) (fun K hK => ?_)
  refine value_ (w1 := ?_) (v := ?_) (by rfl) rfl ?_ ?_
  rotate_left 2
  · go_simp
    constructor
    · rfl
    · rfl
  have m9_ := heap_alloc_new' HB.out (.cells #[.slice A2_ (num 1 kind).length c2_, .slice A5_ (fix8 2 height).length c5_, .slice A8_ (fix8 3 round).length c8_, .slice none 0 0, .slice A13_ (wit 5 (timeB s ns)).length c13_, .slice A16 (som 6 (bytesOf chain)).length c16] 25)
  have n0_ := Aside0.mk (below_step HB.out (below_alloc (Below.refl _ _) (.cells #[.slice A2_ (num 1 kind).length c2_, .slice A5_ (fix8 2 height).length c5_, .slice A8_ (fix8 3 round).length c8_, .slice none 0 0, .slice A13_ (wit 5 (timeB s ns)).length c13_, .slice A16 (som 6 (bytesOf chain)).length c16] 25)))
  have n1_ := Aside0.mk (blk_below HK.out (below_alloc (Below.refl _ _) (.cells #[.slice A2_ (num 1 kind).length c2_, .slice A5_ (fix8 2 height).length c5_, .slice A8_ (fix8 3 round).length c8_, .slice none 0 0, .slice A13_ (wit 5 (timeB s ns)).length c13_, .slice A16 (som 6 (bytesOf chain)).length c16] 25)))
  have n2_ := Aside0.mk (RdB.below HR5.out (below_alloc (Below.refl _ _) (.cells #[.slice A2_ (num 1 kind).length c2_, .slice A5_ (fix8 2 height).length c5_, .slice A8_ (fix8 3 round).length c8_, .slice none 0 0, .slice A13_ (wit 5 (timeB s ns)).length c13_, .slice A16 (som 6 (bytesOf chain)).length c16] 25)))
  have n3_ := Aside0.mk (RdB.below HRx2.out (below_alloc (Below.refl _ _) (.cells #[.slice A2_ (num 1 kind).length c2_, .slice A5_ (fix8 2 height).length c5_, .slice A8_ (fix8 3 round).length c8_, .slice none 0 0, .slice A13_ (wit 5 (timeB s ns)).length c13_, .slice A16 (som 6 (bytesOf chain)).length c16] 25)))
  have n4_ := Aside0.mk (RdB.below HRx5.out (below_alloc (Below.refl _ _) (.cells #[.slice A2_ (num 1 kind).length c2_, .slice A5_ (fix8 2 height).length c5_, .slice A8_ (fix8 3 round).length c8_, .slice none 0 0, .slice A13_ (wit 5 (timeB s ns)).length c13_, .slice A16 (som 6 (bytesOf chain)).length c16] 25)))
  have n5_ := Aside0.mk (RdB.below HRx8.out (below_alloc (Below.refl _ _) (.cells #[.slice A2_ (num 1 kind).length c2_, .slice A5_ (fix8 2 height).length c5_, .slice A8_ (fix8 3 round).length c8_, .slice none 0 0, .slice A13_ (wit 5 (timeB s ns)).length c13_, .slice A16 (som 6 (bytesOf chain)).length c16] 25)))
  have n6_ := Aside0.mk (RdB.below HRx13.out (below_alloc (Below.refl _ _) (.cells #[.slice A2_ (num 1 kind).length c2_, .slice A5_ (fix8 2 height).length c5_, .slice A8_ (fix8 3 round).length c8_, .slice none 0 0, .slice A13_ (wit 5 (timeB s ns)).length c13_, .slice A16 (som 6 (bytesOf chain)).length c16] 25)))
  have n7_ := Aside0.mk (RdB.below HRx16.out (below_alloc (Below.refl _ _) (.cells #[.slice A2_ (num 1 kind).length c2_, .slice A5_ (fix8 2 height).length c5_, .slice A8_ (fix8 3 round).length c8_, .slice none 0 0, .slice A13_ (wit 5 (timeB s ns)).length c13_, .slice A16 (som 6 (bytesOf chain)).length c16] 25)))
  have m0_ := Aside0.mk (m9_)
  clear HB HK HR5 HRx2 HRx5 HRx8 HRx13 HRx16
  have HB := n0_
  have HK := n1_
  have HR5 := n2_
  have HRx2 := n3_
  have HRx5 := n4_
  have HRx8 := n5_
  have HRx13 := n6_
  have HRx16 := n7_
  have HKs := m0_
  clear n0_ n1_ n2_ n3_ n4_ n5_ n6_ n7_ m0_ m9_
  refine hK.out _ _ ⟨(blk_cell HK.out 0).trans rfl, (blk_cell HK.out 1).trans rfl, (blk_cell HK.out 2).trans rfl, (blk_cell HK.out 8).trans rfl, (blk_cell HK.out 9).trans rfl⟩ (fun hHeld => ?_)
  clear hK K
  refine norm_ (a' := ?_) ?_ ?_
  rotate_left
  · show Act.put _ (some 32) _ = _
    simp only [Act.put, qA, q0, qS, i64_w, i32_w]
    rfl
  refine one_ (i := 18) (N := some 33) #[true, true, true, true, true, true, true, true, true, true, true, true, true, true, true, true, true, true, true, false] rfl rfl (one_of HT_.out (by kernel_rfl)) (by decide) (fun K hK => ?_)
  refine goes_ Try.func15 (by kernel_rfl) rfl #[.slice (some ⟨wx.heap.size, 0, none⟩) 6 6] (by rfl) rfl rfl (by simp only [List.map_toArray, List.map_cons, List.map_nil]; rfl) ?_
  refine (joined_c _ _ 6 [num 1 kind, fix8 2 height, fix8 3 round, idB none, wit 5 (timeB s ns), som 6 (bytesOf chain)] (C_slices HKs.out (six_slices HRx2.out HRx5.out HRx8.out HR5.out HRx13.out HRx16.out) (by simp)) (by simp) (by simp) (by have := parts_len (kind := kind) (height := height) (round := round) (s := s) (ns := ns) (ch := bytesOf chain) HLn.out (by rw [bytesOf_length]; exact HC.out); have := HC.out; rw [bytesOf_length] at *; omega)).mono ?_
  rintro e wx ⟨vx, rfl, ho⟩
  refine ⟨_, rfl, ?_⟩
  have hb := ho.below
  have n0_ := Aside0.mk (below_step HB.out hb)
  have n1_ := Aside0.mk (blk_below HK.out hb)
  have m0_ := Aside0.mk (ho.rdB)
  clear HB HK
  have HB := n0_
  have HK := n1_
  have HRj := m0_
  clear n0_ n1_ m0_ ho hb
  refine hK.out _ _ ⟨(blk_cell HK.out 0).trans rfl, (blk_cell HK.out 1).trans rfl, (blk_cell HK.out 2).trans rfl, (blk_cell HK.out 8).trans rfl, (blk_cell HK.out 9).trans rfl⟩ (fun hHeld => ?_)
  clear hK K
  refine norm_ (a' := ?_) ?_ ?_
  rotate_left
  · show Act.put _ (some 33) _ = _
    simp only [Act.put, qA, q0, qS, i64_w, i32_w]
    rfl
  refine pure_ (i := 19) (N := some 6) (v := ?_) (a' := ?_) #[true, true, true, true, true, true, true, true, true, true, true, true, true, true, true, true, true, true, true, true] rfl rfl (any_of HT_.out (by kernel_rfl)) (fun _ _ _ h => h) (Or.inl ⟨by rfl, ?_⟩) ?_ ?_
  rotate_left
  · intro w'
    go_simp
    with_reducible rfl
  rotate_left
  · simp only [Act.put, qA, q0, qS, i64_w, i32_w]
    rfl
  refine done_ (done_of HT_.out (by kernel_rfl)) ?_
  obtain ⟨Aj, cj, rfl, hcj, hrj⟩ := HRj.out
  have ej := parts_flat kind height round s ns (bytesOf chain) (idB none)
  have HRj2 := Aside0.mk (show RdB wx (.slice Aj ([num 1 kind, fix8 2 height, fix8 3 round, idB none, wit 5 (timeB s ns), som 6 (bytesOf chain)].flatten).length cj) (body (bytesOf chain) kind height round (idB none) s ns) from ej ▸ HRj.out)
  have HLb := Aside0.mk (show (body (bytesOf chain) kind height round (idB none) s ns).length < chain.size + 400 from by rw [← bytesOf_length chain]; exact delim_body_len _ kind height round _ s ns HLn.out (by rw [bytesOf_length]; exact HC.out))
  clear HRj hcj hrj
  rw [ej] at HRj2 ⊢
  clear ej
  generalize hbd : body (bytesOf chain) kind height round (idB none) s ns = bd at HRj2 HLb ⊢
  have HBD := Aside0.mk hbd
  clear hbd
  go_wp2_with fail
  refine (counted_c wx bd.length).mono ?_
  rintro e w7 ⟨v7, rfl, ho⟩
  have HO7 := Aside0.mk ho
  clear ho
  go_wp2_with (first | ((with_reducible refine gate_builtin (b := .append) (xs := #[.tmp 36, .tmp 37]) rfl ?_); at_builtin; refine Kd.R_append_rows (Kd.int .u8) (w0 := wx) wx.heap.size rfl (.tmp 36) (.tmp 37) 25 5 (.int .u8 0) 1 rfl Try.underlying25 info5 rfl (by decide) (by omega) v7 (uv (u64 bd.length)) bd _ _ _ (fun k => wx.heap.size ≤ k) (fun _ => False) rfl rfl HO7.out.row ?aR (fun _ _ h => h) (fun _ h => h.elim) (fun k h => Nat.le_trans HO7.out.below.size h) HO7.out.below HO7.out.below.size ?aL ?_; (case aR => obtain ⟨A', c', e', _, h'⟩ := RdB.below HRj2.out HO7.out.below; injection e' with e1 e2 e3; subst e1; exact h'); (case aL => have := HLb.out; have := HC.out; have := uv_len10 (u64 bd.length) (u64_lt _); omega); intro v8 w8 ho hb hg hat; have HO8 := Aside0.mk ho; have HB8 := Aside0.mk hb; clear ho hb hg hat))
  go_ret
  have e : u64 (bd.length : Int) = bd.length := u64_nat _ (by have := HLb.out; have := HC.out; omega)
  refine ⟨_, rfl, Own.of_R (Kd.R_lower (ok := fun k => wx.heap.size ≤ k) ?_ HB.out.size) (below_step HB.out HB8.out)⟩
  have h8 := HO8.out
  rw [e] at h8
  rw [HBD.out]
  exact h8
set_option maxHeartbeats 16000000 in
set_option maxRecDepth 100000 in
theorem smessage1 (chain : ByteArray) (kind height round place : Int) (addr : ByteArray) (A1 : Option Addr) (n1 c1 : Nat) (parts : Int) (A2 : Option Addr) (n2 c2 : Nat) (s ns : Int) (A3 : Option Addr) (n3 c3 : Nat) (l1 : List Int) (p : Int) (l2 : List Int) (w : World)
    (hN : NumOk kind height round s ns) (hI : IdOk w (.slice A1 n1 c1) parts (.slice A2 n2 c2) (some (l1, p, l2))) (hch : chain.size < 2 ^ 40) :
    Calls Try.prog 8 #[.agg (ivoteCells kind height round place addr (.slice A1 n1 c1) parts (.slice A2 n2 c2) s ns (.slice A3 n3 c3)), .string chain] w (Chain w (delim (body (bytesOf chain) kind height round (idB (some (l1, p, l2))) s ns))) := by
  have HN := Aside0.mk hN
  have HI := Aside0.mk hI
  have HC := Aside0.mk hch
  clear hN hI hch
  have kb := fun W => print_bytes (P := Try.prog) 9 25 5 Try.underlying9 Try.underlying25 Try.underlying5 chain W
  unfold ivoteCells
  go_enter Try.func8, Try.ntmps8
  go_wp2_with fail
  have HB := Aside0.mk (below_alloc (Below.refl w.heap.size w) (.cells #[.int .i64 kind, .int .i64 height, .int .i64 round, .int .i64 place, .string addr, .slice A1 n1 c1, .int .i64 parts, .slice A2 n2 c2, .int .i64 s, .int .i64 ns, .slice A3 n3 c3] 36))
  have HK := Aside0.mk (heap_alloc_new w (.cells #[.int .i64 kind, .int .i64 height, .int .i64 round, .int .i64 place, .string addr, .slice A1 n1 c1, .int .i64 parts, .slice A2 n2 c2, .int .i64 s, .int .i64 ns, .slice A3 n3 c3] 36))
  have HIw := Aside0.mk (HI.out.below HB.out)
  generalize w.alloc (.cells #[.int .i64 kind, .int .i64 height, .int .i64 round, .int .i64 place, .string addr, .slice A1 n1 c1, .int .i64 parts, .slice A2 n2 c2, .int .i64 s, .int .i64 ns, .slice A3 n3 c3] 36) = w1 at HB HK HIw ⊢
  refine (none_c w1 (.slice A1 n1 c1) parts (.slice A2 n2 c2) _ HIw.out).mono ?_
  rintro e w2 ⟨rfl, hb⟩
  have n0_ := Aside0.mk (below_step HB.out hb)
  have n1_ := Aside0.mk (blk_below HK.out hb)
  have n2_ := Aside0.mk (IdOk.below HIw.out hb)
  clear HB HK HIw
  have HB := n0_
  have HK := n1_
  have HIw := n2_
  clear n0_ n1_ n2_ hb
  have b5 : w2.cell? ⟨w.heap.size, 5, none⟩ = some (.slice A1 n1 c1) := blk_cell HK.out 5
  have b6 : w2.cell? ⟨w.heap.size, 6, none⟩ = some (.int .i64 parts) := blk_cell HK.out 6
  have b7 : w2.cell? ⟨w.heap.size, 7, none⟩ = some (.slice A2 n2 c2) := blk_cell HK.out 7
  go_wp2_with fail
  obtain ⟨hi1, rfl, hi2, hi3, hi4, hi5, hi6⟩ := HIw.out
  refine (bbytes_c w2 (.slice A1 n1 c1) parts (.slice A2 n2 c2) l1 l2 hi1 hi2 (by omega) (by omega) (by omega)).mono ?_
  rintro e w3 ⟨v3, rfl, ho⟩
  have hb := ho.below
  have HRb := Aside0.mk ho.rdB
  have HL := Aside0.mk (And.intro hi3 hi4)
  clear ho hi1 hi2 hi3 hi4 hi5 hi6 b5 b6 b7
  have n0_ := Aside0.mk (below_step HB.out hb)
  have n1_ := Aside0.mk (blk_below HK.out hb)
  have n2_ := Aside0.mk (IdOk.below HIw.out hb)
  clear HB HK HIw
  have HB := n0_
  have HK := n1_
  have HIw := n2_
  clear n0_ n1_ n2_ hb
  go_wp2_with fail
  refine (within_c w3 4 v3 _ HRb.out (by omega) (by have := HL.out; have := blockB_len l1 parts l2 (by omega); omega)).mono ?_
  rintro e w4 ⟨v4, rfl, ho⟩
  have hb := ho.below
  obtain ⟨A5, c5, rfl, hc5, hr5⟩ := ho.rdB
  have HR5 := Aside0.mk (show RdB w4 (.slice A5 (wit 4 (blockB l1 parts l2)).length c5) (idB (some (l1, parts, l2))) from ⟨A5, c5, rfl, hc5, hr5⟩)
  clear ho hc5 hr5 HRb
  have n0_ := Aside0.mk (below_step HB.out hb)
  have n1_ := Aside0.mk (blk_below HK.out hb)
  have n2_ := Aside0.mk (IdOk.below HIw.out hb)
  clear HB HK HIw
  have HB := n0_
  have HK := n1_
  have HIw := n2_
  clear n0_ n1_ n2_ hb
  have HLn : Aside0 (∀ a q b, some (l1, parts, l2) = some (a, q, b) → a.length = 32 ∧ b.length = 32) := Aside0.mk HI.out.len
  go_wp2_with fail
  have HB := Aside0.mk (below_drew HB.out)
  have HK := Aside0.mk (blk_drew HK.out)
  have HR5 := Aside0.mk (RdB.below HR5.out (below_drew (Below.refl _ _)))
  clear HIw
  refine start_ (n := 20) (S := fun w' => w'.cell? ⟨w.heap.size, 0, none⟩ = some (.int .i64 kind) ∧ w'.cell? ⟨w.heap.size, 1, none⟩ = some (.int .i64 height) ∧ w'.cell? ⟨w.heap.size, 2, none⟩ = some (.int .i64 round) ∧ w'.cell? ⟨w.heap.size, 8, none⟩ = some (.int .i64 s) ∧ w'.cell? ⟨w.heap.size, 9, none⟩ = some (.int .i64 ns)) (ds := []) #[false, false, false, false, false, false, false, false, false, false, false, false, false, false, false, false, false, false, false, false] (by kernel_rfl) rfl rfl ⟨(blk_cell HK.out 0).trans rfl, (blk_cell HK.out 1).trans rfl, (blk_cell HK.out 2).trans rfl, (blk_cell HK.out 8).trans rfl, (blk_cell HK.out 9).trans rfl⟩ (fun hHeld => ?_)
  refine with_tabW smT.tab smT.bits (fun HT_ HW_ => ?_)
  generalize w4.drew = w5 at HB HK HR5 hHeld ⊢
  refine pure_ (i := 0) (N := some 15) (v := ?_) (a' := ?_) #[true, false, false, false, false, false, false, false, false, false, false, false, false, false, false, false, false, false, false, false] rfl rfl (any_of HT_.out (by kernel_rfl)) (fun _ _ _ h => h) (Or.inl ⟨by rfl, ?_⟩) ?_ ?_
  rotate_left
  · intro w'
    go_simp
    with_reducible rfl
  rotate_left
  · simp only [Act.put, qA, q0, qS, i64_w, i32_w]
    rfl
  refine pure_ (i := 3) (N := some 18) (v := ?_) (a' := ?_) #[true, false, false, true, false, false, false, false, false, false, false, false, false, false, false, false, false, false, false, false] rfl rfl (any_of HT_.out (by kernel_rfl)) (fun _ _ _ h => h) (Or.inl ⟨by rfl, ?_⟩) ?_ ?_
  rotate_left
  · intro w'
    go_simp
    with_reducible rfl
  rotate_left
  · simp only [Act.put, qA, q0, qS, i64_w, i32_w]
    rfl
  refine pure_ (i := 6) (N := some 21) (v := ?_) (a' := ?_) #[true, false, false, true, false, false, true, false, false, false, false, false, false, false, false, false, false, false, false, false] rfl rfl (any_of HT_.out (by kernel_rfl)) (fun _ _ _ h => h) (Or.inl ⟨by rfl, ?_⟩) ?_ ?_
  rotate_left
  · intro w'
    go_simp
    with_reducible rfl
  rotate_left
  · simp only [Act.put, qA, q0, qS, i64_w, i32_w]
    rfl
  refine pure_ (i := 9) (N := some 24) (v := ?_) (a' := ?_) #[true, false, false, true, false, false, true, false, false, true, false, false, false, false, false, false, false, false, false, false] rfl rfl (any_of HT_.out (by kernel_rfl)) (fun _ _ _ h => h) (Or.inl ⟨by rfl, ?_⟩) ?_ ?_
  rotate_left
  · intro w'
    go_simp
    with_reducible rfl
  rotate_left
  · simp only [Act.put, qA, q0, qS, i64_w, i32_w]
    rfl
  refine pure_ (i := 10) (N := some 25) (v := ?_) (a' := ?_) #[true, false, false, true, false, false, true, false, false, true, true, false, false, false, false, false, false, false, false, false] rfl rfl (any_of HT_.out (by kernel_rfl)) (fun _ _ _ h => h) (Or.inl ⟨by rfl, ?_⟩) ?_ ?_
  rotate_left
  · intro w'
    go_simp
    with_reducible rfl
  rotate_left
  · simp only [Act.put, qA, q0, qS, i64_w, i32_w]
    rfl
  refine pure_ (i := 14) (N := some 29) (v := ?_) (a' := ?_) #[true, false, false, true, false, false, true, false, false, true, true, false, false, false, true, false, false, false, false, false] rfl rfl (any_of HT_.out (by kernel_rfl)) (fun _ _ _ h => h) (Or.inl ⟨by rfl, ?_⟩) ?_ ?_
  rotate_left
  · intro w'
    go_simp
    with_reducible rfl
  rotate_left
  · simp only [Act.put, qA, q0, qS, i64_w, i32_w]
    rfl
  refine take_ (i := 1) (N := some 16) (v := ?_) (a' := ?_) #[true, true, false, true, false, false, true, false, false, true, true, false, false, false, true, false, false, false, false, false] rfl rfl (take_ofW HT_.out HW_.out (by kernel_rfl)) (fun _ _ _ h => h) (Or.inl ⟨by rfl, ?_⟩) hHeld ?_ ?_
  rotate_left
  · rintro w' ⟨s0, s1, s2, s3, s4⟩
    go_simp
    with_reducible rfl
  rotate_left
  · simp only [Act.put, qA, q0, qS, i64_w, i32_w]
    rfl
  refine take_ (i := 4) (N := some 19) (v := ?_) (a' := ?_) #[true, true, false, true, true, false, true, false, false, true, true, false, false, false, true, false, false, false, false, false] rfl rfl (take_ofW HT_.out HW_.out (by kernel_rfl)) (fun _ _ _ h => h) (Or.inl ⟨by rfl, ?_⟩) hHeld ?_ ?_
  rotate_left
  · rintro w' ⟨s0, s1, s2, s3, s4⟩
    go_simp
    with_reducible rfl
  rotate_left
  · simp only [Act.put, qA, q0, qS, i64_w, i32_w]
    rfl
  refine take_ (i := 7) (N := some 22) (v := ?_) (a' := ?_) #[true, true, false, true, true, false, true, true, false, true, true, false, false, false, true, false, false, false, false, false] rfl rfl (take_ofW HT_.out HW_.out (by kernel_rfl)) (fun _ _ _ h => h) (Or.inl ⟨by rfl, ?_⟩) hHeld ?_ ?_
  rotate_left
  · rintro w' ⟨s0, s1, s2, s3, s4⟩
    go_simp
    with_reducible rfl
  rotate_left
  · simp only [Act.put, qA, q0, qS, i64_w, i32_w]
    rfl
  refine take_ (i := 11) (N := some 26) (v := ?_) (a' := ?_) #[true, true, false, true, true, false, true, true, false, true, true, true, false, false, true, false, false, false, false, false] rfl rfl (take_ofW HT_.out HW_.out (by kernel_rfl)) (fun _ _ _ h => h) (Or.inl ⟨by rfl, ?_⟩) hHeld ?_ ?_
  rotate_left
  · rintro w' ⟨s0, s1, s2, s3, s4⟩
    go_simp
    with_reducible rfl
  rotate_left
  · simp only [Act.put, qA, q0, qS, i64_w, i32_w]
    rfl
  refine join_ (σ := Option Addr × Nat × Option Addr × Nat × Option Addr × Nat × Option Addr × Nat × Option Addr × Nat × Nat × Nat) 4 #[true, true, true, true, true, true, true, true, true, true, true, true, true, true, true, true, false, false, false, false] (fun s_ => [(17, .slice s_.1 (num 1 kind).length s_.2.1), (20, .slice s_.2.2.1 (fix8 2 height).length s_.2.2.2.1), (23, .slice s_.2.2.2.2.1 (fix8 3 round).length s_.2.2.2.2.2.1), (27, .slice s_.2.2.2.2.2.2.1 (timeB s ns).length s_.2.2.2.2.2.2.2.1), (28, .slice s_.2.2.2.2.2.2.2.2.1 (wit 5 (timeB s ns)).length s_.2.2.2.2.2.2.2.2.2.1), (30, .slice (some ⟨s_.2.2.2.2.2.2.2.2.2.2.1, 0, none⟩) chain.size s_.2.2.2.2.2.2.2.2.2.2.2)]) (fun s_ w' => Below w.heap.size w w' ∧ w'.heap[w.heap.size]? = some (.cells #[.int .i64 kind, .int .i64 height, .int .i64 round, .int .i64 place, .string addr, .slice A1 n1 c1, .int .i64 parts, .slice A2 n2 c2, .int .i64 s, .int .i64 ns, .slice A3 n3 c3] 36 (0, 0)) ∧ RdB w' (.slice A5 (wit 4 (blockB l1 parts l2)).length c5) (idB (some (l1, parts, l2))) ∧ RdB w' (.slice s_.1 (num 1 kind).length s_.2.1) (num 1 kind) ∧ RdB w' (.slice s_.2.2.1 (fix8 2 height).length s_.2.2.2.1) (fix8 2 height) ∧ RdB w' (.slice s_.2.2.2.2.1 (fix8 3 round).length s_.2.2.2.2.2.1) (fix8 3 round) ∧ RdB w' (.slice s_.2.2.2.2.2.2.2.2.1 (wit 5 (timeB s ns)).length s_.2.2.2.2.2.2.2.2.2.1) (wit 5 (timeB s ns)) ∧ RdB w' (.slice (some ⟨s_.2.2.2.2.2.2.2.2.2.2.1, 0, none⟩) chain.size s_.2.2.2.2.2.2.2.2.2.2.2) (bytesOf chain)) ?_ ?_
  rotate_left
  · intro hCont
    refine two_ (i := 2) (j := 15) (Ni := some 17) (Nj := some 30) #[true, true, true, true, true, false, true, true, false, true, true, true, false, false, true, false, false, false, false, false] #[true, true, false, true, true, false, true, true, false, true, true, true, false, false, true, true, false, false, false, false] rfl rfl rfl rfl (two_of HT_.out (by kernel_rfl)) (by decide) (by decide) (fun K hK => ?_) (fun K hK => ?_)
    · skip
      refine goes_ Try.func16 (by kernel_rfl) rfl #[.int .i64 1, .int .i64 kind] (by rfl) rfl rfl (by simp only [List.map_toArray, List.map_cons, List.map_nil]; rfl) ?_
      refine (number_c _ 1 kind (by omega) (by have := HN.out.kind; omega) (by have := HN.out.kind; omega)).mono ?_
      rintro e wx ⟨vx, rfl, ho⟩
      refine ⟨_, rfl, ?_⟩
      have hb := ho.below
      obtain ⟨A2, c2, rfl, hc, hr⟩ := ho.rdB
      have n0_ := Aside0.mk (below_step HB.out hb)
      have n1_ := Aside0.mk (blk_below HK.out hb)
      have n2_ := Aside0.mk (RdB.below HR5.out hb)
      have m0_ := Aside0.mk (show RdB _ (.slice A2 (num 1 kind).length c2) (num 1 kind) from ⟨A2, c2, rfl, hc, hr⟩)
      clear HB HK HR5
      have HB := n0_
      have HK := n1_
      have HR5 := n2_
      have HRx2 := m0_
      clear n0_ n1_ n2_ m0_ ho hb hc hr
      refine hK.out _ _ ⟨(blk_cell HK.out 0).trans rfl, (blk_cell HK.out 1).trans rfl, (blk_cell HK.out 2).trans rfl, (blk_cell HK.out 8).trans rfl, (blk_cell HK.out 9).trans rfl⟩ (fun hHeld => ?_)
      clear hK K
      refine norm_ (a' := ?_) ?_ ?_
      rotate_left
      · show Act.put _ (some 17) _ = _
        simp only [Act.put, qA, q0, qS, i64_w, i32_w]
        rfl
      refine two_ (i := 5) (j := 15) (Ni := some 20) (Nj := some 30) #[true, true, true, true, true, true, true, true, false, true, true, true, false, false, true, false, false, false, false, false] #[true, true, true, true, true, false, true, true, false, true, true, true, false, false, true, true, false, false, false, false] rfl rfl rfl rfl (two_of HT_.out (by kernel_rfl)) (by decide) (by decide) (fun K hK => ?_) (fun K hK => ?_)
      · skip
        refine goes_ Try.func17 (by kernel_rfl) rfl #[.int .i64 2, .int .i64 height] (by rfl) rfl rfl (by simp only [List.map_toArray, List.map_cons, List.map_nil]; rfl) ?_
        refine (fixed_c _ 2 height (by omega)).mono ?_
        rintro e wx ⟨vx, rfl, ho⟩
        refine ⟨_, rfl, ?_⟩
        have hb := ho.below
        obtain ⟨A5, c5, rfl, hc, hr⟩ := ho.rdB
        have n0_ := Aside0.mk (below_step HB.out hb)
        have n1_ := Aside0.mk (blk_below HK.out hb)
        have n2_ := Aside0.mk (RdB.below HR5.out hb)
        have n3_ := Aside0.mk (RdB.below HRx2.out hb)
        have m0_ := Aside0.mk (show RdB _ (.slice A5 (fix8 2 height).length c5) (fix8 2 height) from ⟨A5, c5, rfl, hc, hr⟩)
        clear HB HK HR5 HRx2
        have HB := n0_
        have HK := n1_
        have HR5 := n2_
        have HRx2 := n3_
        have HRx5 := m0_
        clear n0_ n1_ n2_ n3_ m0_ ho hb hc hr
        refine hK.out _ _ ⟨(blk_cell HK.out 0).trans rfl, (blk_cell HK.out 1).trans rfl, (blk_cell HK.out 2).trans rfl, (blk_cell HK.out 8).trans rfl, (blk_cell HK.out 9).trans rfl⟩ (fun hHeld => ?_)
        clear hK K
        refine norm_ (a' := ?_) ?_ ?_
        rotate_left
        · show Act.put _ (some 20) _ = _
          simp only [Act.put, qA, q0, qS, i64_w, i32_w]
          rfl
        refine two_ (i := 8) (j := 15) (Ni := some 23) (Nj := some 30) #[true, true, true, true, true, true, true, true, true, true, true, true, false, false, true, false, false, false, false, false] #[true, true, true, true, true, true, true, true, false, true, true, true, false, false, true, true, false, false, false, false] rfl rfl rfl rfl (two_of HT_.out (by kernel_rfl)) (by decide) (by decide) (fun K hK => ?_) (fun K hK => ?_)
        · skip
          refine goes_ Try.func17 (by kernel_rfl) rfl #[.int .i64 3, .int .i64 round] (by rfl) rfl rfl (by simp only [List.map_toArray, List.map_cons, List.map_nil]; rfl) ?_
          refine (fixed_c _ 3 round (by omega)).mono ?_
          rintro e wx ⟨vx, rfl, ho⟩
          refine ⟨_, rfl, ?_⟩
          have hb := ho.below
          obtain ⟨A8, c8, rfl, hc, hr⟩ := ho.rdB
          have n0_ := Aside0.mk (below_step HB.out hb)
          have n1_ := Aside0.mk (blk_below HK.out hb)
          have n2_ := Aside0.mk (RdB.below HR5.out hb)
          have n3_ := Aside0.mk (RdB.below HRx2.out hb)
          have n4_ := Aside0.mk (RdB.below HRx5.out hb)
          have m0_ := Aside0.mk (show RdB _ (.slice A8 (fix8 3 round).length c8) (fix8 3 round) from ⟨A8, c8, rfl, hc, hr⟩)
          clear HB HK HR5 HRx2 HRx5
          have HB := n0_
          have HK := n1_
          have HR5 := n2_
          have HRx2 := n3_
          have HRx5 := n4_
          have HRx8 := m0_
          clear n0_ n1_ n2_ n3_ n4_ m0_ ho hb hc hr
          refine hK.out _ _ ⟨(blk_cell HK.out 0).trans rfl, (blk_cell HK.out 1).trans rfl, (blk_cell HK.out 2).trans rfl, (blk_cell HK.out 8).trans rfl, (blk_cell HK.out 9).trans rfl⟩ (fun hHeld => ?_)
          clear hK K
          refine norm_ (a' := ?_) ?_ ?_
          rotate_left
          · show Act.put _ (some 23) _ = _
            simp only [Act.put, qA, q0, qS, i64_w, i32_w]
            rfl
          refine two_ (i := 12) (j := 15) (Ni := some 27) (Nj := some 30) #[true, true, true, true, true, true, true, true, true, true, true, true, true, false, true, false, false, false, false, false] #[true, true, true, true, true, true, true, true, true, true, true, true, false, false, true, true, false, false, false, false] rfl rfl rfl rfl (two_of HT_.out (by kernel_rfl)) (by decide) (by decide) (fun K hK => ?_) (fun K hK => ?_)
          · skip
            refine goes_ Try.func18 (by kernel_rfl) rfl #[.agg #[.int .i64 s, .int .i64 ns]] (by rfl) rfl rfl (by simp only [List.map_toArray, List.map_cons, List.map_nil]; rfl) ?_
            refine (mbytes_c _ s ns (by have := HN.out.s; omega) (by have := HN.out.s; omega) (by have := HN.out.ns; omega) (by have := HN.out.ns; omega)).mono ?_
            rintro e wx ⟨vx, rfl, ho⟩
            refine ⟨_, rfl, ?_⟩
            have hb := ho.below
            obtain ⟨A12, c12, rfl, hc, hr⟩ := ho.rdB
            have n0_ := Aside0.mk (below_step HB.out hb)
            have n1_ := Aside0.mk (blk_below HK.out hb)
            have n2_ := Aside0.mk (RdB.below HR5.out hb)
            have n3_ := Aside0.mk (RdB.below HRx2.out hb)
            have n4_ := Aside0.mk (RdB.below HRx5.out hb)
            have n5_ := Aside0.mk (RdB.below HRx8.out hb)
            have m0_ := Aside0.mk (show RdB _ (.slice A12 (timeB s ns).length c12) (timeB s ns) from ⟨A12, c12, rfl, hc, hr⟩)
            clear HB HK HR5 HRx2 HRx5 HRx8
            have HB := n0_
            have HK := n1_
            have HR5 := n2_
            have HRx2 := n3_
            have HRx5 := n4_
            have HRx8 := n5_
            have HRx12 := m0_
            clear n0_ n1_ n2_ n3_ n4_ n5_ m0_ ho hb hc hr
            refine hK.out _ _ ⟨(blk_cell HK.out 0).trans rfl, (blk_cell HK.out 1).trans rfl, (blk_cell HK.out 2).trans rfl, (blk_cell HK.out 8).trans rfl, (blk_cell HK.out 9).trans rfl⟩ (fun hHeld => ?_)
            clear hK K
            refine norm_ (a' := ?_) ?_ ?_
            rotate_left
            · show Act.put _ (some 27) _ = _
              simp only [Act.put, qA, q0, qS, i64_w, i32_w]
              rfl
            refine two_ (i := 13) (j := 15) (Ni := some 28) (Nj := some 30) #[true, true, true, true, true, true, true, true, true, true, true, true, true, true, true, false, false, false, false, false] #[true, true, true, true, true, true, true, true, true, true, true, true, true, false, true, true, false, false, false, false] rfl rfl rfl rfl (two_of HT_.out (by kernel_rfl)) (by decide) (by decide) (fun K hK => ?_) (fun K hK => ?_)
            · skip
              refine goes_ Try.func13 (by kernel_rfl) rfl #[.int .i64 5, .slice A12 (timeB s ns).length c12] (by rfl) rfl rfl (by simp only [List.map_toArray, List.map_cons, List.map_nil]; rfl) ?_
              refine (within_c _ 5 (.slice A12 (timeB s ns).length c12) (timeB s ns) HRx12.out (by omega) (by have := timeB_len s ns; omega)).mono ?_
              rintro e wx ⟨vx, rfl, ho⟩
              refine ⟨_, rfl, ?_⟩
              have hb := ho.below
              obtain ⟨A13, c13, rfl, hc, hr⟩ := ho.rdB
              have n0_ := Aside0.mk (below_step HB.out hb)
              have n1_ := Aside0.mk (blk_below HK.out hb)
              have n2_ := Aside0.mk (RdB.below HR5.out hb)
              have n3_ := Aside0.mk (RdB.below HRx2.out hb)
              have n4_ := Aside0.mk (RdB.below HRx5.out hb)
              have n5_ := Aside0.mk (RdB.below HRx8.out hb)
              have n6_ := Aside0.mk (RdB.below HRx12.out hb)
              have m0_ := Aside0.mk (show RdB _ (.slice A13 (wit 5 (timeB s ns)).length c13) (wit 5 (timeB s ns)) from ⟨A13, c13, rfl, hc, hr⟩)
              clear HB HK HR5 HRx2 HRx5 HRx8 HRx12
              have HB := n0_
              have HK := n1_
              have HR5 := n2_
              have HRx2 := n3_
              have HRx5 := n4_
              have HRx8 := n5_
              have HRx12 := n6_
              have HRx13 := m0_
              clear n0_ n1_ n2_ n3_ n4_ n5_ n6_ m0_ ho hb hc hr
              refine hK.out _ _ ⟨(blk_cell HK.out 0).trans rfl, (blk_cell HK.out 1).trans rfl, (blk_cell HK.out 2).trans rfl, (blk_cell HK.out 8).trans rfl, (blk_cell HK.out 9).trans rfl⟩ (fun hHeld => ?_)
              clear hK K
              refine norm_ (a' := ?_) ?_ ?_
              rotate_left
              · show Act.put _ (some 28) _ = _
                simp only [Act.put, qA, q0, qS, i64_w, i32_w]
                rfl
              refine one_ (i := 15) (N := some 30) #[true, true, true, true, true, true, true, true, true, true, true, true, true, true, true, true, false, false, false, false] rfl rfl (one_of HT_.out (by kernel_rfl)) (by decide) (fun K hK => ?_)
              refine value_ (w1 := ?_) (v := ?_) (by rfl) rfl ?_ ?_
              rotate_left 2
              · go_simp
                constructor
                · rfl
                · rfl
              have m9_ := rdB_bytesB HB.out chain (by have := HC.out; omega)
              have n0_ := Aside0.mk (below_step HB.out (bytes_below (Below.refl _ _) (Nat.le_refl _) 5 chain))
              have n1_ := Aside0.mk (blk_below HK.out (bytes_below (Below.refl _ _) (Nat.le_refl _) 5 chain))
              have n2_ := Aside0.mk (RdB.below HR5.out (bytes_below (Below.refl _ _) (Nat.le_refl _) 5 chain))
              have n3_ := Aside0.mk (RdB.below HRx2.out (bytes_below (Below.refl _ _) (Nat.le_refl _) 5 chain))
              have n4_ := Aside0.mk (RdB.below HRx5.out (bytes_below (Below.refl _ _) (Nat.le_refl _) 5 chain))
              have n5_ := Aside0.mk (RdB.below HRx8.out (bytes_below (Below.refl _ _) (Nat.le_refl _) 5 chain))
              have n6_ := Aside0.mk (RdB.below HRx12.out (bytes_below (Below.refl _ _) (Nat.le_refl _) 5 chain))
              have n7_ := Aside0.mk (RdB.below HRx13.out (bytes_below (Below.refl _ _) (Nat.le_refl _) 5 chain))
              have m0_ := Aside0.mk (m9_)
              clear HB HK HR5 HRx2 HRx5 HRx8 HRx12 HRx13
              have HB := n0_
              have HK := n1_
              have HR5 := n2_
              have HRx2 := n3_
              have HRx5 := n4_
              have HRx8 := n5_
              have HRx12 := n6_
              have HRx13 := n7_
              have HRcv := m0_
              clear n0_ n1_ n2_ n3_ n4_ n5_ n6_ n7_ m0_ m9_
              refine hK.out _ _ ⟨(blk_cell HK.out 0).trans rfl, (blk_cell HK.out 1).trans rfl, (blk_cell HK.out 2).trans rfl, (blk_cell HK.out 8).trans rfl, (blk_cell HK.out 9).trans rfl⟩ (fun hHeld => ?_)
              clear hK K
              refine norm_ (a' := ?_) ?_ ?_
              rotate_left
              · show Act.put _ (some 30) _ = _
                simp only [Act.put, qA, q0, qS, i64_w, i32_w]
                rfl
              exact norm_ (by first | (simp only [putAll, Act.put, qA, q0, qS]; done) | (simp only [putAll, Act.put, qA, q0, qS]; rfl)) (hCont (_, _, _, _, _, _, _, _, _, _, _, _) _ ⟨HB.out, HK.out, HR5.out, HRx2.out, HRx5.out, HRx8.out, HRx13.out, HRcv.out⟩)
            · skip
              refine value_ (w1 := ?_) (v := ?_) (by rfl) rfl ?_ ?_
              rotate_left 2
              · go_simp
                constructor
                · rfl
                · rfl
              have m9_ := rdB_bytesB HB.out chain (by have := HC.out; omega)
              have n0_ := Aside0.mk (below_step HB.out (bytes_below (Below.refl _ _) (Nat.le_refl _) 5 chain))
              have n1_ := Aside0.mk (blk_below HK.out (bytes_below (Below.refl _ _) (Nat.le_refl _) 5 chain))
              have n2_ := Aside0.mk (RdB.below HR5.out (bytes_below (Below.refl _ _) (Nat.le_refl _) 5 chain))
              have n3_ := Aside0.mk (RdB.below HRx2.out (bytes_below (Below.refl _ _) (Nat.le_refl _) 5 chain))
              have n4_ := Aside0.mk (RdB.below HRx5.out (bytes_below (Below.refl _ _) (Nat.le_refl _) 5 chain))
              have n5_ := Aside0.mk (RdB.below HRx8.out (bytes_below (Below.refl _ _) (Nat.le_refl _) 5 chain))
              have n6_ := Aside0.mk (RdB.below HRx12.out (bytes_below (Below.refl _ _) (Nat.le_refl _) 5 chain))
              have m0_ := Aside0.mk (m9_)
              clear HB HK HR5 HRx2 HRx5 HRx8 HRx12
              have HB := n0_
              have HK := n1_
              have HR5 := n2_
              have HRx2 := n3_
              have HRx5 := n4_
              have HRx8 := n5_
              have HRx12 := n6_
              have HRcv := m0_
              clear n0_ n1_ n2_ n3_ n4_ n5_ n6_ m0_ m9_
              refine hK.out _ _ ⟨(blk_cell HK.out 0).trans rfl, (blk_cell HK.out 1).trans rfl, (blk_cell HK.out 2).trans rfl, (blk_cell HK.out 8).trans rfl, (blk_cell HK.out 9).trans rfl⟩ (fun hHeld => ?_)
              clear hK K
              refine norm_ (a' := ?_) ?_ ?_
              rotate_left
              · show Act.put _ (some 30) _ = _
                simp only [Act.put, qA, q0, qS, i64_w, i32_w]
                rfl
              refine one_ (i := 13) (N := some 28) #[true, true, true, true, true, true, true, true, true, true, true, true, true, true, true, true, false, false, false, false] rfl rfl (one_of HT_.out (by kernel_rfl)) (by decide) (fun K hK => ?_)
              refine goes_ Try.func13 (by kernel_rfl) rfl #[.int .i64 5, .slice A12 (timeB s ns).length c12] (by rfl) rfl rfl (by simp only [List.map_toArray, List.map_cons, List.map_nil]; rfl) ?_
              refine (within_c _ 5 (.slice A12 (timeB s ns).length c12) (timeB s ns) HRx12.out (by omega) (by have := timeB_len s ns; omega)).mono ?_
              rintro e wx ⟨vx, rfl, ho⟩
              refine ⟨_, rfl, ?_⟩
              have hb := ho.below
              obtain ⟨A13, c13, rfl, hc, hr⟩ := ho.rdB
              have n0_ := Aside0.mk (below_step HB.out hb)
              have n1_ := Aside0.mk (blk_below HK.out hb)
              have n2_ := Aside0.mk (RdB.below HR5.out hb)
              have n3_ := Aside0.mk (RdB.below HRx2.out hb)
              have n4_ := Aside0.mk (RdB.below HRx5.out hb)
              have n5_ := Aside0.mk (RdB.below HRx8.out hb)
              have n6_ := Aside0.mk (RdB.below HRx12.out hb)
              have n7_ := Aside0.mk (RdB.below HRcv.out hb)
              have m0_ := Aside0.mk (show RdB _ (.slice A13 (wit 5 (timeB s ns)).length c13) (wit 5 (timeB s ns)) from ⟨A13, c13, rfl, hc, hr⟩)
              clear HB HK HR5 HRx2 HRx5 HRx8 HRx12 HRcv
              have HB := n0_
              have HK := n1_
              have HR5 := n2_
              have HRx2 := n3_
              have HRx5 := n4_
              have HRx8 := n5_
              have HRx12 := n6_
              have HRcv := n7_
              have HRx13 := m0_
              clear n0_ n1_ n2_ n3_ n4_ n5_ n6_ n7_ m0_ ho hb hc hr
              refine hK.out _ _ ⟨(blk_cell HK.out 0).trans rfl, (blk_cell HK.out 1).trans rfl, (blk_cell HK.out 2).trans rfl, (blk_cell HK.out 8).trans rfl, (blk_cell HK.out 9).trans rfl⟩ (fun hHeld => ?_)
              clear hK K
              refine norm_ (a' := ?_) ?_ ?_
              rotate_left
              · show Act.put _ (some 28) _ = _
                simp only [Act.put, qA, q0, qS, i64_w, i32_w]
                rfl
              exact norm_ (by first | (simp only [putAll, Act.put, qA, q0, qS]; done) | (simp only [putAll, Act.put, qA, q0, qS]; rfl)) (hCont (_, _, _, _, _, _, _, _, _, _, _, _) _ ⟨HB.out, HK.out, HR5.out, HRx2.out, HRx5.out, HRx8.out, HRx13.out, HRcv.out⟩)
          · skip
            refine value_ (w1 := ?_) (v := ?_) (by rfl) rfl ?_ ?_
            rotate_left 2
            · go_simp
              constructor
              · rfl
              · rfl
            have m9_ := rdB_bytesB HB.out chain (by have := HC.out; omega)
            have n0_ := Aside0.mk (below_step HB.out (bytes_below (Below.refl _ _) (Nat.le_refl _) 5 chain))
            have n1_ := Aside0.mk (blk_below HK.out (bytes_below (Below.refl _ _) (Nat.le_refl _) 5 chain))
            have n2_ := Aside0.mk (RdB.below HR5.out (bytes_below (Below.refl _ _) (Nat.le_refl _) 5 chain))
            have n3_ := Aside0.mk (RdB.below HRx2.out (bytes_below (Below.refl _ _) (Nat.le_refl _) 5 chain))
            have n4_ := Aside0.mk (RdB.below HRx5.out (bytes_below (Below.refl _ _) (Nat.le_refl _) 5 chain))
            have n5_ := Aside0.mk (RdB.below HRx8.out (bytes_below (Below.refl _ _) (Nat.le_refl _) 5 chain))
            have m0_ := Aside0.mk (m9_)
            clear HB HK HR5 HRx2 HRx5 HRx8
            have HB := n0_
            have HK := n1_
            have HR5 := n2_
            have HRx2 := n3_
            have HRx5 := n4_
            have HRx8 := n5_
            have HRcv := m0_
            clear n0_ n1_ n2_ n3_ n4_ n5_ m0_ m9_
            refine hK.out _ _ ⟨(blk_cell HK.out 0).trans rfl, (blk_cell HK.out 1).trans rfl, (blk_cell HK.out 2).trans rfl, (blk_cell HK.out 8).trans rfl, (blk_cell HK.out 9).trans rfl⟩ (fun hHeld => ?_)
            clear hK K
            refine norm_ (a' := ?_) ?_ ?_
            rotate_left
            · show Act.put _ (some 30) _ = _
              simp only [Act.put, qA, q0, qS, i64_w, i32_w]
              rfl
            refine one_ (i := 12) (N := some 27) #[true, true, true, true, true, true, true, true, true, true, true, true, true, false, true, true, false, false, false, false] rfl rfl (one_of HT_.out (by kernel_rfl)) (by decide) (fun K hK => ?_)
            refine goes_ Try.func18 (by kernel_rfl) rfl #[.agg #[.int .i64 s, .int .i64 ns]] (by rfl) rfl rfl (by simp only [List.map_toArray, List.map_cons, List.map_nil]; rfl) ?_
            refine (mbytes_c _ s ns (by have := HN.out.s; omega) (by have := HN.out.s; omega) (by have := HN.out.ns; omega) (by have := HN.out.ns; omega)).mono ?_
            rintro e wx ⟨vx, rfl, ho⟩
            refine ⟨_, rfl, ?_⟩
            have hb := ho.below
            obtain ⟨A12, c12, rfl, hc, hr⟩ := ho.rdB
            have n0_ := Aside0.mk (below_step HB.out hb)
            have n1_ := Aside0.mk (blk_below HK.out hb)
            have n2_ := Aside0.mk (RdB.below HR5.out hb)
            have n3_ := Aside0.mk (RdB.below HRx2.out hb)
            have n4_ := Aside0.mk (RdB.below HRx5.out hb)
            have n5_ := Aside0.mk (RdB.below HRx8.out hb)
            have n6_ := Aside0.mk (RdB.below HRcv.out hb)
            have m0_ := Aside0.mk (show RdB _ (.slice A12 (timeB s ns).length c12) (timeB s ns) from ⟨A12, c12, rfl, hc, hr⟩)
            clear HB HK HR5 HRx2 HRx5 HRx8 HRcv
            have HB := n0_
            have HK := n1_
            have HR5 := n2_
            have HRx2 := n3_
            have HRx5 := n4_
            have HRx8 := n5_
            have HRcv := n6_
            have HRx12 := m0_
            clear n0_ n1_ n2_ n3_ n4_ n5_ n6_ m0_ ho hb hc hr
            refine hK.out _ _ ⟨(blk_cell HK.out 0).trans rfl, (blk_cell HK.out 1).trans rfl, (blk_cell HK.out 2).trans rfl, (blk_cell HK.out 8).trans rfl, (blk_cell HK.out 9).trans rfl⟩ (fun hHeld => ?_)
            clear hK K
            refine norm_ (a' := ?_) ?_ ?_
            rotate_left
            · show Act.put _ (some 27) _ = _
              simp only [Act.put, qA, q0, qS, i64_w, i32_w]
              rfl
            refine one_ (i := 13) (N := some 28) #[true, true, true, true, true, true, true, true, true, true, true, true, true, true, true, true, false, false, false, false] rfl rfl (one_of HT_.out (by kernel_rfl)) (by decide) (fun K hK => ?_)
            refine goes_ Try.func13 (by kernel_rfl) rfl #[.int .i64 5, .slice A12 (timeB s ns).length c12] (by rfl) rfl rfl (by simp only [List.map_toArray, List.map_cons, List.map_nil]; rfl) ?_
            refine (within_c _ 5 (.slice A12 (timeB s ns).length c12) (timeB s ns) HRx12.out (by omega) (by have := timeB_len s ns; omega)).mono ?_
            rintro e wx ⟨vx, rfl, ho⟩
            refine ⟨_, rfl, ?_⟩
            have hb := ho.below
            obtain ⟨A13, c13, rfl, hc, hr⟩ := ho.rdB
            have n0_ := Aside0.mk (below_step HB.out hb)
            have n1_ := Aside0.mk (blk_below HK.out hb)
            have n2_ := Aside0.mk (RdB.below HR5.out hb)
            have n3_ := Aside0.mk (RdB.below HRx2.out hb)
            have n4_ := Aside0.mk (RdB.below HRx5.out hb)
            have n5_ := Aside0.mk (RdB.below HRx8.out hb)
            have n6_ := Aside0.mk (RdB.below HRx12.out hb)
            have n7_ := Aside0.mk (RdB.below HRcv.out hb)
            have m0_ := Aside0.mk (show RdB _ (.slice A13 (wit 5 (timeB s ns)).length c13) (wit 5 (timeB s ns)) from ⟨A13, c13, rfl, hc, hr⟩)
            clear HB HK HR5 HRx2 HRx5 HRx8 HRx12 HRcv
            have HB := n0_
            have HK := n1_
            have HR5 := n2_
            have HRx2 := n3_
            have HRx5 := n4_
            have HRx8 := n5_
            have HRx12 := n6_
            have HRcv := n7_
            have HRx13 := m0_
            clear n0_ n1_ n2_ n3_ n4_ n5_ n6_ n7_ m0_ ho hb hc hr
            refine hK.out _ _ ⟨(blk_cell HK.out 0).trans rfl, (blk_cell HK.out 1).trans rfl, (blk_cell HK.out 2).trans rfl, (blk_cell HK.out 8).trans rfl, (blk_cell HK.out 9).trans rfl⟩ (fun hHeld => ?_)
            clear hK K
            refine norm_ (a' := ?_) ?_ ?_
            rotate_left
            · show Act.put _ (some 28) _ = _
              simp only [Act.put, qA, q0, qS, i64_w, i32_w]
              rfl
            exact norm_ (by first | (simp only [putAll, Act.put, qA, q0, qS]; done) | (simp only [putAll, Act.put, qA, q0, qS]; rfl)) (hCont (_, _, _, _, _, _, _, _, _, _, _, _) _ ⟨HB.out, HK.out, HR5.out, HRx2.out, HRx5.out, HRx8.out, HRx13.out, HRcv.out⟩)
        · skip
          refine value_ (w1 := ?_) (v := ?_) (by rfl) rfl ?_ ?_
          rotate_left 2
          · go_simp
            constructor
            · rfl
            · rfl
          have m9_ := rdB_bytesB HB.out chain (by have := HC.out; omega)
          have n0_ := Aside0.mk (below_step HB.out (bytes_below (Below.refl _ _) (Nat.le_refl _) 5 chain))
          have n1_ := Aside0.mk (blk_below HK.out (bytes_below (Below.refl _ _) (Nat.le_refl _) 5 chain))
          have n2_ := Aside0.mk (RdB.below HR5.out (bytes_below (Below.refl _ _) (Nat.le_refl _) 5 chain))
          have n3_ := Aside0.mk (RdB.below HRx2.out (bytes_below (Below.refl _ _) (Nat.le_refl _) 5 chain))
          have n4_ := Aside0.mk (RdB.below HRx5.out (bytes_below (Below.refl _ _) (Nat.le_refl _) 5 chain))
          have m0_ := Aside0.mk (m9_)
          clear HB HK HR5 HRx2 HRx5
          have HB := n0_
          have HK := n1_
          have HR5 := n2_
          have HRx2 := n3_
          have HRx5 := n4_
          have HRcv := m0_
          clear n0_ n1_ n2_ n3_ n4_ m0_ m9_
          refine hK.out _ _ ⟨(blk_cell HK.out 0).trans rfl, (blk_cell HK.out 1).trans rfl, (blk_cell HK.out 2).trans rfl, (blk_cell HK.out 8).trans rfl, (blk_cell HK.out 9).trans rfl⟩ (fun hHeld => ?_)
          clear hK K
          refine norm_ (a' := ?_) ?_ ?_
          rotate_left
          · show Act.put _ (some 30) _ = _
            simp only [Act.put, qA, q0, qS, i64_w, i32_w]
            rfl
          refine one_ (i := 8) (N := some 23) #[true, true, true, true, true, true, true, true, true, true, true, true, false, false, true, true, false, false, false, false] rfl rfl (one_of HT_.out (by kernel_rfl)) (by decide) (fun K hK => ?_)
          refine goes_ Try.func17 (by kernel_rfl) rfl #[.int .i64 3, .int .i64 round] (by rfl) rfl rfl (by simp only [List.map_toArray, List.map_cons, List.map_nil]; rfl) ?_
          refine (fixed_c _ 3 round (by omega)).mono ?_
          rintro e wx ⟨vx, rfl, ho⟩
          refine ⟨_, rfl, ?_⟩
          have hb := ho.below
          obtain ⟨A8, c8, rfl, hc, hr⟩ := ho.rdB
          have n0_ := Aside0.mk (below_step HB.out hb)
          have n1_ := Aside0.mk (blk_below HK.out hb)
          have n2_ := Aside0.mk (RdB.below HR5.out hb)
          have n3_ := Aside0.mk (RdB.below HRx2.out hb)
          have n4_ := Aside0.mk (RdB.below HRx5.out hb)
          have n5_ := Aside0.mk (RdB.below HRcv.out hb)
          have m0_ := Aside0.mk (show RdB _ (.slice A8 (fix8 3 round).length c8) (fix8 3 round) from ⟨A8, c8, rfl, hc, hr⟩)
          clear HB HK HR5 HRx2 HRx5 HRcv
          have HB := n0_
          have HK := n1_
          have HR5 := n2_
          have HRx2 := n3_
          have HRx5 := n4_
          have HRcv := n5_
          have HRx8 := m0_
          clear n0_ n1_ n2_ n3_ n4_ n5_ m0_ ho hb hc hr
          refine hK.out _ _ ⟨(blk_cell HK.out 0).trans rfl, (blk_cell HK.out 1).trans rfl, (blk_cell HK.out 2).trans rfl, (blk_cell HK.out 8).trans rfl, (blk_cell HK.out 9).trans rfl⟩ (fun hHeld => ?_)
          clear hK K
          refine norm_ (a' := ?_) ?_ ?_
          rotate_left
          · show Act.put _ (some 23) _ = _
            simp only [Act.put, qA, q0, qS, i64_w, i32_w]
            rfl
          refine one_ (i := 12) (N := some 27) #[true, true, true, true, true, true, true, true, true, true, true, true, true, false, true, true, false, false, false, false] rfl rfl (one_of HT_.out (by kernel_rfl)) (by decide) (fun K hK => ?_)
          refine goes_ Try.func18 (by kernel_rfl) rfl #[.agg #[.int .i64 s, .int .i64 ns]] (by rfl) rfl rfl (by simp only [List.map_toArray, List.map_cons, List.map_nil]; rfl) ?_
          refine (mbytes_c _ s ns (by have := HN.out.s; omega) (by have := HN.out.s; omega) (by have := HN.out.ns; omega) (by have := HN.out.ns; omega)).mono ?_
          rintro e wx ⟨vx, rfl, ho⟩
          refine ⟨_, rfl, ?_⟩
          have hb := ho.below
          obtain ⟨A12, c12, rfl, hc, hr⟩ := ho.rdB
          have n0_ := Aside0.mk (below_step HB.out hb)
          have n1_ := Aside0.mk (blk_below HK.out hb)
          have n2_ := Aside0.mk (RdB.below HR5.out hb)
          have n3_ := Aside0.mk (RdB.below HRx2.out hb)
          have n4_ := Aside0.mk (RdB.below HRx5.out hb)
          have n5_ := Aside0.mk (RdB.below HRx8.out hb)
          have n6_ := Aside0.mk (RdB.below HRcv.out hb)
          have m0_ := Aside0.mk (show RdB _ (.slice A12 (timeB s ns).length c12) (timeB s ns) from ⟨A12, c12, rfl, hc, hr⟩)
          clear HB HK HR5 HRx2 HRx5 HRx8 HRcv
          have HB := n0_
          have HK := n1_
          have HR5 := n2_
          have HRx2 := n3_
          have HRx5 := n4_
          have HRx8 := n5_
          have HRcv := n6_
          have HRx12 := m0_
          clear n0_ n1_ n2_ n3_ n4_ n5_ n6_ m0_ ho hb hc hr
          refine hK.out _ _ ⟨(blk_cell HK.out 0).trans rfl, (blk_cell HK.out 1).trans rfl, (blk_cell HK.out 2).trans rfl, (blk_cell HK.out 8).trans rfl, (blk_cell HK.out 9).trans rfl⟩ (fun hHeld => ?_)
          clear hK K
          refine norm_ (a' := ?_) ?_ ?_
          rotate_left
          · show Act.put _ (some 27) _ = _
            simp only [Act.put, qA, q0, qS, i64_w, i32_w]
            rfl
          refine one_ (i := 13) (N := some 28) #[true, true, true, true, true, true, true, true, true, true, true, true, true, true, true, true, false, false, false, false] rfl rfl (one_of HT_.out (by kernel_rfl)) (by decide) (fun K hK => ?_)
          refine goes_ Try.func13 (by kernel_rfl) rfl #[.int .i64 5, .slice A12 (timeB s ns).length c12] (by rfl) rfl rfl (by simp only [List.map_toArray, List.map_cons, List.map_nil]; rfl) ?_
          refine (within_c _ 5 (.slice A12 (timeB s ns).length c12) (timeB s ns) HRx12.out (by omega) (by have := timeB_len s ns; omega)).mono ?_
          rintro e wx ⟨vx, rfl, ho⟩
          refine ⟨_, rfl, ?_⟩
          have hb := ho.below
          obtain ⟨A13, c13, rfl, hc, hr⟩ := ho.rdB
          have n0_ := Aside0.mk (below_step HB.out hb)
          have n1_ := Aside0.mk (blk_below HK.out hb)
          have n2_ := Aside0.mk (RdB.below HR5.out hb)
          have n3_ := Aside0.mk (RdB.below HRx2.out hb)
          have n4_ := Aside0.mk (RdB.below HRx5.out hb)
          have n5_ := Aside0.mk (RdB.below HRx8.out hb)
          have n6_ := Aside0.mk (RdB.below HRx12.out hb)
          have n7_ := Aside0.mk (RdB.below HRcv.out hb)
          have m0_ := Aside0.mk (show RdB _ (.slice A13 (wit 5 (timeB s ns)).length c13) (wit 5 (timeB s ns)) from ⟨A13, c13, rfl, hc, hr⟩)
          clear HB HK HR5 HRx2 HRx5 HRx8 HRx12 HRcv
          have HB := n0_
          have HK := n1_
          have HR5 := n2_
          have HRx2 := n3_
          have HRx5 := n4_
          have HRx8 := n5_
          have HRx12 := n6_
          have HRcv := n7_
          have HRx13 := m0_
          clear n0_ n1_ n2_ n3_ n4_ n5_ n6_ n7_ m0_ ho hb hc hr
          refine hK.out _ _ ⟨(blk_cell HK.out 0).trans rfl, (blk_cell HK.out 1).trans rfl, (blk_cell HK.out 2).trans rfl, (blk_cell HK.out 8).trans rfl, (blk_cell HK.out 9).trans rfl⟩ (fun hHeld => ?_)
          clear hK K
          refine norm_ (a' := ?_) ?_ ?_
          rotate_left
          · show Act.put _ (some 28) _ = _
            simp only [Act.put, qA, q0, qS, i64_w, i32_w]
            rfl
          exact norm_ (by first | (simp only [putAll, Act.put, qA, q0, qS]; done) | (simp only [putAll, Act.put, qA, q0, qS]; rfl)) (hCont (_, _, _, _, _, _, _, _, _, _, _, _) _ ⟨HB.out, HK.out, HR5.out, HRx2.out, HRx5.out, HRx8.out, HRx13.out, HRcv.out⟩)
      · skip
        refine value_ (w1 := ?_) (v := ?_) (by rfl) rfl ?_ ?_
        rotate_left 2
        · go_simp
          constructor
          · rfl
          · rfl
        have m9_ := rdB_bytesB HB.out chain (by have := HC.out; omega)
        have n0_ := Aside0.mk (below_step HB.out (bytes_below (Below.refl _ _) (Nat.le_refl _) 5 chain))
        have n1_ := Aside0.mk (blk_below HK.out (bytes_below (Below.refl _ _) (Nat.le_refl _) 5 chain))
        have n2_ := Aside0.mk (RdB.below HR5.out (bytes_below (Below.refl _ _) (Nat.le_refl _) 5 chain))
        have n3_ := Aside0.mk (RdB.below HRx2.out (bytes_below (Below.refl _ _) (Nat.le_refl _) 5 chain))
        have m0_ := Aside0.mk (m9_)
        clear HB HK HR5 HRx2
        have HB := n0_
        have HK := n1_
        have HR5 := n2_
        have HRx2 := n3_
        have HRcv := m0_
        clear n0_ n1_ n2_ n3_ m0_ m9_
        refine hK.out _ _ ⟨(blk_cell HK.out 0).trans rfl, (blk_cell HK.out 1).trans rfl, (blk_cell HK.out 2).trans rfl, (blk_cell HK.out 8).trans rfl, (blk_cell HK.out 9).trans rfl⟩ (fun hHeld => ?_)
        clear hK K
        refine norm_ (a' := ?_) ?_ ?_
        rotate_left
        · show Act.put _ (some 30) _ = _
          simp only [Act.put, qA, q0, qS, i64_w, i32_w]
          rfl
        refine one_ (i := 5) (N := some 20) #[true, true, true, true, true, true, true, true, false, true, true, true, false, false, true, true, false, false, false, false] rfl rfl (one_of HT_.out (by kernel_rfl)) (by decide) (fun K hK => ?_)
        refine goes_ Try.func17 (by kernel_rfl) rfl #[.int .i64 2, .int .i64 height] (by rfl) rfl rfl (by simp only [List.map_toArray, List.map_cons, List.map_nil]; rfl) ?_
        refine (fixed_c _ 2 height (by omega)).mono ?_
        rintro e wx ⟨vx, rfl, ho⟩
        refine ⟨_, rfl, ?_⟩
        have hb := ho.below
        obtain ⟨A5, c5, rfl, hc, hr⟩ := ho.rdB
        have n0_ := Aside0.mk (below_step HB.out hb)
        have n1_ := Aside0.mk (blk_below HK.out hb)
        have n2_ := Aside0.mk (RdB.below HR5.out hb)
        have n3_ := Aside0.mk (RdB.below HRx2.out hb)
        have n4_ := Aside0.mk (RdB.below HRcv.out hb)
        have m0_ := Aside0.mk (show RdB _ (.slice A5 (fix8 2 height).length c5) (fix8 2 height) from ⟨A5, c5, rfl, hc, hr⟩)
        clear HB HK HR5 HRx2 HRcv
        have HB := n0_
        have HK := n1_
        have HR5 := n2_
        have HRx2 := n3_
        have HRcv := n4_
        have HRx5 := m0_
        clear n0_ n1_ n2_ n3_ n4_ m0_ ho hb hc hr
        refine hK.out _ _ ⟨(blk_cell HK.out 0).trans rfl, (blk_cell HK.out 1).trans rfl, (blk_cell HK.out 2).trans rfl, (blk_cell HK.out 8).trans rfl, (blk_cell HK.out 9).trans rfl⟩ (fun hHeld => ?_)
        clear hK K
        refine norm_ (a' := ?_) ?_ ?_
        rotate_left
        · show Act.put _ (some 20) _ = _
          simp only [Act.put, qA, q0, qS, i64_w, i32_w]
          rfl
        refine one_ (i := 8) (N := some 23) #[true, true, true, true, true, true, true, true, true, true, true, true, false, false, true, true, false, false, false, false] rfl rfl (one_of HT_.out (by kernel_rfl)) (by decide) (fun K hK => ?_)
        refine goes_ Try.func17 (by kernel_rfl) rfl #[.int .i64 3, .int .i64 round] (by rfl) rfl rfl (by simp only [List.map_toArray, List.map_cons, List.map_nil]; rfl) ?_
        refine (fixed_c _ 3 round (by omega)).mono ?_
        rintro e wx ⟨vx, rfl, ho⟩
        refine ⟨_, rfl, ?_⟩
        have hb := ho.below
        obtain ⟨A8, c8, rfl, hc, hr⟩ := ho.rdB
        have n0_ := Aside0.mk (below_step HB.out hb)
        have n1_ := Aside0.mk (blk_below HK.out hb)
        have n2_ := Aside0.mk (RdB.below HR5.out hb)
        have n3_ := Aside0.mk (RdB.below HRx2.out hb)
        have n4_ := Aside0.mk (RdB.below HRx5.out hb)
        have n5_ := Aside0.mk (RdB.below HRcv.out hb)
        have m0_ := Aside0.mk (show RdB _ (.slice A8 (fix8 3 round).length c8) (fix8 3 round) from ⟨A8, c8, rfl, hc, hr⟩)
        clear HB HK HR5 HRx2 HRx5 HRcv
        have HB := n0_
        have HK := n1_
        have HR5 := n2_
        have HRx2 := n3_
        have HRx5 := n4_
        have HRcv := n5_
        have HRx8 := m0_
        clear n0_ n1_ n2_ n3_ n4_ n5_ m0_ ho hb hc hr
        refine hK.out _ _ ⟨(blk_cell HK.out 0).trans rfl, (blk_cell HK.out 1).trans rfl, (blk_cell HK.out 2).trans rfl, (blk_cell HK.out 8).trans rfl, (blk_cell HK.out 9).trans rfl⟩ (fun hHeld => ?_)
        clear hK K
        refine norm_ (a' := ?_) ?_ ?_
        rotate_left
        · show Act.put _ (some 23) _ = _
          simp only [Act.put, qA, q0, qS, i64_w, i32_w]
          rfl
        refine one_ (i := 12) (N := some 27) #[true, true, true, true, true, true, true, true, true, true, true, true, true, false, true, true, false, false, false, false] rfl rfl (one_of HT_.out (by kernel_rfl)) (by decide) (fun K hK => ?_)
        refine goes_ Try.func18 (by kernel_rfl) rfl #[.agg #[.int .i64 s, .int .i64 ns]] (by rfl) rfl rfl (by simp only [List.map_toArray, List.map_cons, List.map_nil]; rfl) ?_
        refine (mbytes_c _ s ns (by have := HN.out.s; omega) (by have := HN.out.s; omega) (by have := HN.out.ns; omega) (by have := HN.out.ns; omega)).mono ?_
        rintro e wx ⟨vx, rfl, ho⟩
        refine ⟨_, rfl, ?_⟩
        have hb := ho.below
        obtain ⟨A12, c12, rfl, hc, hr⟩ := ho.rdB
        have n0_ := Aside0.mk (below_step HB.out hb)
        have n1_ := Aside0.mk (blk_below HK.out hb)
        have n2_ := Aside0.mk (RdB.below HR5.out hb)
        have n3_ := Aside0.mk (RdB.below HRx2.out hb)
        have n4_ := Aside0.mk (RdB.below HRx5.out hb)
        have n5_ := Aside0.mk (RdB.below HRx8.out hb)
        have n6_ := Aside0.mk (RdB.below HRcv.out hb)
        have m0_ := Aside0.mk (show RdB _ (.slice A12 (timeB s ns).length c12) (timeB s ns) from ⟨A12, c12, rfl, hc, hr⟩)
        clear HB HK HR5 HRx2 HRx5 HRx8 HRcv
        have HB := n0_
        have HK := n1_
        have HR5 := n2_
        have HRx2 := n3_
        have HRx5 := n4_
        have HRx8 := n5_
        have HRcv := n6_
        have HRx12 := m0_
        clear n0_ n1_ n2_ n3_ n4_ n5_ n6_ m0_ ho hb hc hr
        refine hK.out _ _ ⟨(blk_cell HK.out 0).trans rfl, (blk_cell HK.out 1).trans rfl, (blk_cell HK.out 2).trans rfl, (blk_cell HK.out 8).trans rfl, (blk_cell HK.out 9).trans rfl⟩ (fun hHeld => ?_)
        clear hK K
        refine norm_ (a' := ?_) ?_ ?_
        rotate_left
        · show Act.put _ (some 27) _ = _
          simp only [Act.put, qA, q0, qS, i64_w, i32_w]
          rfl
        refine one_ (i := 13) (N := some 28) #[true, true, true, true, true, true, true, true, true, true, true, true, true, true, true, true, false, false, false, false] rfl rfl (one_of HT_.out (by kernel_rfl)) (by decide) (fun K hK => ?_)
        refine goes_ Try.func13 (by kernel_rfl) rfl #[.int .i64 5, .slice A12 (timeB s ns).length c12] (by rfl) rfl rfl (by simp only [List.map_toArray, List.map_cons, List.map_nil]; rfl) ?_
        refine (within_c _ 5 (.slice A12 (timeB s ns).length c12) (timeB s ns) HRx12.out (by omega) (by have := timeB_len s ns; omega)).mono ?_
        rintro e wx ⟨vx, rfl, ho⟩
        refine ⟨_, rfl, ?_⟩
        have hb := ho.below
        obtain ⟨A13, c13, rfl, hc, hr⟩ := ho.rdB
        have n0_ := Aside0.mk (below_step HB.out hb)
        have n1_ := Aside0.mk (blk_below HK.out hb)
        have n2_ := Aside0.mk (RdB.below HR5.out hb)
        have n3_ := Aside0.mk (RdB.below HRx2.out hb)
        have n4_ := Aside0.mk (RdB.below HRx5.out hb)
        have n5_ := Aside0.mk (RdB.below HRx8.out hb)
        have n6_ := Aside0.mk (RdB.below HRx12.out hb)
        have n7_ := Aside0.mk (RdB.below HRcv.out hb)
        have m0_ := Aside0.mk (show RdB _ (.slice A13 (wit 5 (timeB s ns)).length c13) (wit 5 (timeB s ns)) from ⟨A13, c13, rfl, hc, hr⟩)
        clear HB HK HR5 HRx2 HRx5 HRx8 HRx12 HRcv
        have HB := n0_
        have HK := n1_
        have HR5 := n2_
        have HRx2 := n3_
        have HRx5 := n4_
        have HRx8 := n5_
        have HRx12 := n6_
        have HRcv := n7_
        have HRx13 := m0_
        clear n0_ n1_ n2_ n3_ n4_ n5_ n6_ n7_ m0_ ho hb hc hr
        refine hK.out _ _ ⟨(blk_cell HK.out 0).trans rfl, (blk_cell HK.out 1).trans rfl, (blk_cell HK.out 2).trans rfl, (blk_cell HK.out 8).trans rfl, (blk_cell HK.out 9).trans rfl⟩ (fun hHeld => ?_)
        clear hK K
        refine norm_ (a' := ?_) ?_ ?_
        rotate_left
        · show Act.put _ (some 28) _ = _
          simp only [Act.put, qA, q0, qS, i64_w, i32_w]
          rfl
        exact norm_ (by first | (simp only [putAll, Act.put, qA, q0, qS]; done) | (simp only [putAll, Act.put, qA, q0, qS]; rfl)) (hCont (_, _, _, _, _, _, _, _, _, _, _, _) _ ⟨HB.out, HK.out, HR5.out, HRx2.out, HRx5.out, HRx8.out, HRx13.out, HRcv.out⟩)
    · skip
      refine value_ (w1 := ?_) (v := ?_) (by rfl) rfl ?_ ?_
      rotate_left 2
      · go_simp
        constructor
        · rfl
        · rfl
      have m9_ := rdB_bytesB HB.out chain (by have := HC.out; omega)
      have n0_ := Aside0.mk (below_step HB.out (bytes_below (Below.refl _ _) (Nat.le_refl _) 5 chain))
      have n1_ := Aside0.mk (blk_below HK.out (bytes_below (Below.refl _ _) (Nat.le_refl _) 5 chain))
      have n2_ := Aside0.mk (RdB.below HR5.out (bytes_below (Below.refl _ _) (Nat.le_refl _) 5 chain))
      have m0_ := Aside0.mk (m9_)
      clear HB HK HR5
      have HB := n0_
      have HK := n1_
      have HR5 := n2_
      have HRcv := m0_
      clear n0_ n1_ n2_ m0_ m9_
      refine hK.out _ _ ⟨(blk_cell HK.out 0).trans rfl, (blk_cell HK.out 1).trans rfl, (blk_cell HK.out 2).trans rfl, (blk_cell HK.out 8).trans rfl, (blk_cell HK.out 9).trans rfl⟩ (fun hHeld => ?_)
      clear hK K
      refine norm_ (a' := ?_) ?_ ?_
      rotate_left
      · show Act.put _ (some 30) _ = _
        simp only [Act.put, qA, q0, qS, i64_w, i32_w]
        rfl
      refine one_ (i := 2) (N := some 17) #[true, true, true, true, true, false, true, true, false, true, true, true, false, false, true, true, false, false, false, false] rfl rfl (one_of HT_.out (by kernel_rfl)) (by decide) (fun K hK => ?_)
      refine goes_ Try.func16 (by kernel_rfl) rfl #[.int .i64 1, .int .i64 kind] (by rfl) rfl rfl (by simp only [List.map_toArray, List.map_cons, List.map_nil]; rfl) ?_
      refine (number_c _ 1 kind (by omega) (by have := HN.out.kind; omega) (by have := HN.out.kind; omega)).mono ?_
      rintro e wx ⟨vx, rfl, ho⟩
      refine ⟨_, rfl, ?_⟩
      have hb := ho.below
      obtain ⟨A2, c2, rfl, hc, hr⟩ := ho.rdB
      have n0_ := Aside0.mk (below_step HB.out hb)
      have n1_ := Aside0.mk (blk_below HK.out hb)
      have n2_ := Aside0.mk (RdB.below HR5.out hb)
      have n3_ := Aside0.mk (RdB.below HRcv.out hb)
      have m0_ := Aside0.mk (show RdB _ (.slice A2 (num 1 kind).length c2) (num 1 kind) from ⟨A2, c2, rfl, hc, hr⟩)
      clear HB HK HR5 HRcv
      have HB := n0_
      have HK := n1_
      have HR5 := n2_
      have HRcv := n3_
      have HRx2 := m0_
      clear n0_ n1_ n2_ n3_ m0_ ho hb hc hr
      refine hK.out _ _ ⟨(blk_cell HK.out 0).trans rfl, (blk_cell HK.out 1).trans rfl, (blk_cell HK.out 2).trans rfl, (blk_cell HK.out 8).trans rfl, (blk_cell HK.out 9).trans rfl⟩ (fun hHeld => ?_)
      clear hK K
      refine norm_ (a' := ?_) ?_ ?_
      rotate_left
      · show Act.put _ (some 17) _ = _
        simp only [Act.put, qA, q0, qS, i64_w, i32_w]
        rfl
      refine one_ (i := 5) (N := some 20) #[true, true, true, true, true, true, true, true, false, true, true, true, false, false, true, true, false, false, false, false] rfl rfl (one_of HT_.out (by kernel_rfl)) (by decide) (fun K hK => ?_)
      refine goes_ Try.func17 (by kernel_rfl) rfl #[.int .i64 2, .int .i64 height] (by rfl) rfl rfl (by simp only [List.map_toArray, List.map_cons, List.map_nil]; rfl) ?_
      refine (fixed_c _ 2 height (by omega)).mono ?_
      rintro e wx ⟨vx, rfl, ho⟩
      refine ⟨_, rfl, ?_⟩
      have hb := ho.below
      obtain ⟨A5, c5, rfl, hc, hr⟩ := ho.rdB
      have n0_ := Aside0.mk (below_step HB.out hb)
      have n1_ := Aside0.mk (blk_below HK.out hb)
      have n2_ := Aside0.mk (RdB.below HR5.out hb)
      have n3_ := Aside0.mk (RdB.below HRx2.out hb)
      have n4_ := Aside0.mk (RdB.below HRcv.out hb)
      have m0_ := Aside0.mk (show RdB _ (.slice A5 (fix8 2 height).length c5) (fix8 2 height) from ⟨A5, c5, rfl, hc, hr⟩)
      clear HB HK HR5 HRx2 HRcv
      have HB := n0_
      have HK := n1_
      have HR5 := n2_
      have HRx2 := n3_
      have HRcv := n4_
      have HRx5 := m0_
      clear n0_ n1_ n2_ n3_ n4_ m0_ ho hb hc hr
      refine hK.out _ _ ⟨(blk_cell HK.out 0).trans rfl, (blk_cell HK.out 1).trans rfl, (blk_cell HK.out 2).trans rfl, (blk_cell HK.out 8).trans rfl, (blk_cell HK.out 9).trans rfl⟩ (fun hHeld => ?_)
      clear hK K
      refine norm_ (a' := ?_) ?_ ?_
      rotate_left
      · show Act.put _ (some 20) _ = _
        simp only [Act.put, qA, q0, qS, i64_w, i32_w]
        rfl
      refine one_ (i := 8) (N := some 23) #[true, true, true, true, true, true, true, true, true, true, true, true, false, false, true, true, false, false, false, false] rfl rfl (one_of HT_.out (by kernel_rfl)) (by decide) (fun K hK => ?_)
      refine goes_ Try.func17 (by kernel_rfl) rfl #[.int .i64 3, .int .i64 round] (by rfl) rfl rfl (by simp only [List.map_toArray, List.map_cons, List.map_nil]; rfl) ?_
      refine (fixed_c _ 3 round (by omega)).mono ?_
      rintro e wx ⟨vx, rfl, ho⟩
      refine ⟨_, rfl, ?_⟩
      have hb := ho.below
      obtain ⟨A8, c8, rfl, hc, hr⟩ := ho.rdB
      have n0_ := Aside0.mk (below_step HB.out hb)
      have n1_ := Aside0.mk (blk_below HK.out hb)
      have n2_ := Aside0.mk (RdB.below HR5.out hb)
      have n3_ := Aside0.mk (RdB.below HRx2.out hb)
      have n4_ := Aside0.mk (RdB.below HRx5.out hb)
      have n5_ := Aside0.mk (RdB.below HRcv.out hb)
      have m0_ := Aside0.mk (show RdB _ (.slice A8 (fix8 3 round).length c8) (fix8 3 round) from ⟨A8, c8, rfl, hc, hr⟩)
      clear HB HK HR5 HRx2 HRx5 HRcv
      have HB := n0_
      have HK := n1_
      have HR5 := n2_
      have HRx2 := n3_
      have HRx5 := n4_
      have HRcv := n5_
      have HRx8 := m0_
      clear n0_ n1_ n2_ n3_ n4_ n5_ m0_ ho hb hc hr
      refine hK.out _ _ ⟨(blk_cell HK.out 0).trans rfl, (blk_cell HK.out 1).trans rfl, (blk_cell HK.out 2).trans rfl, (blk_cell HK.out 8).trans rfl, (blk_cell HK.out 9).trans rfl⟩ (fun hHeld => ?_)
      clear hK K
      refine norm_ (a' := ?_) ?_ ?_
      rotate_left
      · show Act.put _ (some 23) _ = _
        simp only [Act.put, qA, q0, qS, i64_w, i32_w]
        rfl
      refine one_ (i := 12) (N := some 27) #[true, true, true, true, true, true, true, true, true, true, true, true, true, false, true, true, false, false, false, false] rfl rfl (one_of HT_.out (by kernel_rfl)) (by decide) (fun K hK => ?_)
      refine goes_ Try.func18 (by kernel_rfl) rfl #[.agg #[.int .i64 s, .int .i64 ns]] (by rfl) rfl rfl (by simp only [List.map_toArray, List.map_cons, List.map_nil]; rfl) ?_
      refine (mbytes_c _ s ns (by have := HN.out.s; omega) (by have := HN.out.s; omega) (by have := HN.out.ns; omega) (by have := HN.out.ns; omega)).mono ?_
      rintro e wx ⟨vx, rfl, ho⟩
      refine ⟨_, rfl, ?_⟩
      have hb := ho.below
      obtain ⟨A12, c12, rfl, hc, hr⟩ := ho.rdB
      have n0_ := Aside0.mk (below_step HB.out hb)
      have n1_ := Aside0.mk (blk_below HK.out hb)
      have n2_ := Aside0.mk (RdB.below HR5.out hb)
      have n3_ := Aside0.mk (RdB.below HRx2.out hb)
      have n4_ := Aside0.mk (RdB.below HRx5.out hb)
      have n5_ := Aside0.mk (RdB.below HRx8.out hb)
      have n6_ := Aside0.mk (RdB.below HRcv.out hb)
      have m0_ := Aside0.mk (show RdB _ (.slice A12 (timeB s ns).length c12) (timeB s ns) from ⟨A12, c12, rfl, hc, hr⟩)
      clear HB HK HR5 HRx2 HRx5 HRx8 HRcv
      have HB := n0_
      have HK := n1_
      have HR5 := n2_
      have HRx2 := n3_
      have HRx5 := n4_
      have HRx8 := n5_
      have HRcv := n6_
      have HRx12 := m0_
      clear n0_ n1_ n2_ n3_ n4_ n5_ n6_ m0_ ho hb hc hr
      refine hK.out _ _ ⟨(blk_cell HK.out 0).trans rfl, (blk_cell HK.out 1).trans rfl, (blk_cell HK.out 2).trans rfl, (blk_cell HK.out 8).trans rfl, (blk_cell HK.out 9).trans rfl⟩ (fun hHeld => ?_)
      clear hK K
      refine norm_ (a' := ?_) ?_ ?_
      rotate_left
      · show Act.put _ (some 27) _ = _
        simp only [Act.put, qA, q0, qS, i64_w, i32_w]
        rfl
      refine one_ (i := 13) (N := some 28) #[true, true, true, true, true, true, true, true, true, true, true, true, true, true, true, true, false, false, false, false] rfl rfl (one_of HT_.out (by kernel_rfl)) (by decide) (fun K hK => ?_)
      refine goes_ Try.func13 (by kernel_rfl) rfl #[.int .i64 5, .slice A12 (timeB s ns).length c12] (by rfl) rfl rfl (by simp only [List.map_toArray, List.map_cons, List.map_nil]; rfl) ?_
      refine (within_c _ 5 (.slice A12 (timeB s ns).length c12) (timeB s ns) HRx12.out (by omega) (by have := timeB_len s ns; omega)).mono ?_
      rintro e wx ⟨vx, rfl, ho⟩
      refine ⟨_, rfl, ?_⟩
      have hb := ho.below
      obtain ⟨A13, c13, rfl, hc, hr⟩ := ho.rdB
      have n0_ := Aside0.mk (below_step HB.out hb)
      have n1_ := Aside0.mk (blk_below HK.out hb)
      have n2_ := Aside0.mk (RdB.below HR5.out hb)
      have n3_ := Aside0.mk (RdB.below HRx2.out hb)
      have n4_ := Aside0.mk (RdB.below HRx5.out hb)
      have n5_ := Aside0.mk (RdB.below HRx8.out hb)
      have n6_ := Aside0.mk (RdB.below HRx12.out hb)
      have n7_ := Aside0.mk (RdB.below HRcv.out hb)
      have m0_ := Aside0.mk (show RdB _ (.slice A13 (wit 5 (timeB s ns)).length c13) (wit 5 (timeB s ns)) from ⟨A13, c13, rfl, hc, hr⟩)
      clear HB HK HR5 HRx2 HRx5 HRx8 HRx12 HRcv
      have HB := n0_
      have HK := n1_
      have HR5 := n2_
      have HRx2 := n3_
      have HRx5 := n4_
      have HRx8 := n5_
      have HRx12 := n6_
      have HRcv := n7_
      have HRx13 := m0_
      clear n0_ n1_ n2_ n3_ n4_ n5_ n6_ n7_ m0_ ho hb hc hr
      refine hK.out _ _ ⟨(blk_cell HK.out 0).trans rfl, (blk_cell HK.out 1).trans rfl, (blk_cell HK.out 2).trans rfl, (blk_cell HK.out 8).trans rfl, (blk_cell HK.out 9).trans rfl⟩ (fun hHeld => ?_)
      clear hK K
      refine norm_ (a' := ?_) ?_ ?_
      rotate_left
      · show Act.put _ (some 28) _ = _
        simp only [Act.put, qA, q0, qS, i64_w, i32_w]
        rfl
      exact norm_ (by first | (simp only [putAll, Act.put, qA, q0, qS]; done) | (simp only [putAll, Act.put, qA, q0, qS]; rfl)) (hCont (_, _, _, _, _, _, _, _, _, _, _, _) _ ⟨HB.out, HK.out, HR5.out, HRx2.out, HRx5.out, HRx8.out, HRx13.out, HRcv.out⟩)
  rintro ⟨A2_, c2_, A5_, c5_, A8_, c8_, A12_, c12_, A13_, c13_, bb_, cccc_⟩ w6 ⟨g0, g1, g2, g3, g4, g5, g6, g7⟩
  have HB := Aside0.mk g0
  have HK := Aside0.mk g1
  have HR5 := Aside0.mk g2
  have HRx2 := Aside0.mk g3
  have HRx5 := Aside0.mk g4
  have HRx8 := Aside0.mk g5
  have HRx13 := Aside0.mk g6
  have HRcv := Aside0.mk g7
  clear g0 g1 g2 g3 g4 g5 g6 g7
  have hHeld : w6.cell? ⟨w.heap.size, 0, none⟩ = some (.int .i64 kind) ∧ w6.cell? ⟨w.heap.size, 1, none⟩ = some (.int .i64 height) ∧ w6.cell? ⟨w.heap.size, 2, none⟩ = some (.int .i64 round) ∧ w6.cell? ⟨w.heap.size, 8, none⟩ = some (.int .i64 s) ∧ w6.cell? ⟨w.heap.size, 9, none⟩ = some (.int .i64 ns) := ⟨(blk_cell HK.out 0).trans rfl, (blk_cell HK.out 1).trans rfl, (blk_cell HK.out 2).trans rfl, (blk_cell HK.out 8).trans rfl, (blk_cell HK.out 9).trans rfl⟩
  refine norm_ (a' := ?_) ?_ ?_
  rotate_left
  · simp only [putAll, Act.put, qA, q0, qS]
    rfl
  refine one_ (i := 16) (N := some 31) #[true, true, true, true, true, true, true, true, true, true, true, true, true, true, true, true, true, false, false, false] rfl rfl (one_of HT_.out (by kernel_rfl)) (by decide) (fun K hK => ?_)
  refine goes_ Try.func19 (by kernel_rfl) rfl #[.int .i64 6, .slice (some ⟨bb_, 0, none⟩) chain.size cccc_] (by rfl) rfl rfl (by simp only [List.map_toArray, List.map_cons, List.map_nil]; rfl) ?_
  refine (some_c _ 6 _ (bytesOf chain) HRcv.out (by omega) (by have := HC.out; rw [bytesOf_length]; omega)).mono ?_
  rintro e wx ⟨vx, rfl, ho⟩
  refine ⟨_, rfl, ?_⟩
  have hb := ho.below
  obtain ⟨A16, c16, rfl, hc, hr⟩ := ho.rdB
  have n0_ := Aside0.mk (below_step HB.out hb)
  have n1_ := Aside0.mk (blk_below HK.out hb)
  have n2_ := Aside0.mk (RdB.below HR5.out hb)
  have n3_ := Aside0.mk (RdB.below HRx2.out hb)
  have n4_ := Aside0.mk (RdB.below HRx5.out hb)
  have n5_ := Aside0.mk (RdB.below HRx8.out hb)
  have n6_ := Aside0.mk (RdB.below HRx13.out hb)
  have m0_ := Aside0.mk (show RdB _ (.slice A16 (som 6 (bytesOf chain)).length c16) (som 6 (bytesOf chain)) from ⟨A16, c16, rfl, hc, hr⟩)
  clear HB HK HR5 HRx2 HRx5 HRx8 HRx13
  have HB := n0_
  have HK := n1_
  have HR5 := n2_
  have HRx2 := n3_
  have HRx5 := n4_
  have HRx8 := n5_
  have HRx13 := n6_
  have HRx16 := m0_
  clear n0_ n1_ n2_ n3_ n4_ n5_ n6_ m0_ ho hb hc hr
  refine hK.out _ _ ⟨(blk_cell HK.out 0).trans rfl, (blk_cell HK.out 1).trans rfl, (blk_cell HK.out 2).trans rfl, (blk_cell HK.out 8).trans rfl, (blk_cell HK.out 9).trans rfl⟩ (fun hHeld => ?_)
  clear hK K
  refine norm_ (a' := ?_) ?_ ?_
  rotate_left
  · show Act.put _ (some 31) _ = _
    simp only [Act.put, qA, q0, qS, i64_w, i32_w]
    rfl
  refine one_ (i := 17) (N := some 32) #[true, true, true, true, true, true, true, true, true, true, true, true, true, true, true, true, true, true, false, false] rfl rfl (one_of HT_.out (by kernel_rfl)) (by decide) (fun K hK => ?_)
  refine value_ (w1 := ?_) (v := ?_) (by rfl) rfl ?_ ?_
  rotate_left 2
  · go_simp
    constructor
    · rfl
    · rfl
  have m9_ := heap_alloc_new' HB.out (.cells #[.slice A2_ (num 1 kind).length c2_, .slice A5_ (fix8 2 height).length c5_, .slice A8_ (fix8 3 round).length c8_, .slice A5 (wit 4 (blockB l1 parts l2)).length c5, .slice A13_ (wit 5 (timeB s ns)).length c13_, .slice A16 (som 6 (bytesOf chain)).length c16] 25)
  have n0_ := Aside0.mk (below_step HB.out (below_alloc (Below.refl _ _) (.cells #[.slice A2_ (num 1 kind).length c2_, .slice A5_ (fix8 2 height).length c5_, .slice A8_ (fix8 3 round).length c8_, .slice A5 (wit 4 (blockB l1 parts l2)).length c5, .slice A13_ (wit 5 (timeB s ns)).length c13_, .slice A16 (som 6 (bytesOf chain)).length c16] 25)))
  have n1_ := Aside0.mk (blk_below HK.out (below_alloc (Below.refl _ _) (.cells #[.slice A2_ (num 1 kind).length c2_, .slice A5_ (fix8 2 height).length c5_, .slice A8_ (fix8 3 round).length c8_, .slice A5 (wit 4 (blockB l1 parts l2)).length c5, .slice A13_ (wit 5 (timeB s ns)).length c13_, .slice A16 (som 6 (bytesOf chain)).length c16] 25)))
  have n2_ := Aside0.mk (RdB.below HR5.out (below_alloc (Below.refl _ _) (.cells #[.slice A2_ (num 1 kind).length c2_, .slice A5_ (fix8 2 height).length c5_, .slice A8_ (fix8 3 round).length c8_, .slice A5 (wit 4 (blockB l1 parts l2)).length c5, .slice A13_ (wit 5 (timeB s ns)).length c13_, .slice A16 (som 6 (bytesOf chain)).length c16] 25)))
  have n3_ := Aside0.mk (RdB.below HRx2.out (below_alloc (Below.refl _ _) (.cells #[.slice A2_ (num 1 kind).length c2_, .slice A5_ (fix8 2 height).length c5_, .slice A8_ (fix8 3 round).length c8_, .slice A5 (wit 4 (blockB l1 parts l2)).length c5, .slice A13_ (wit 5 (timeB s ns)).length c13_, .slice A16 (som 6 (bytesOf chain)).length c16] 25)))
  have n4_ := Aside0.mk (RdB.below HRx5.out (below_alloc (Below.refl _ _) (.cells #[.slice A2_ (num 1 kind).length c2_, .slice A5_ (fix8 2 height).length c5_, .slice A8_ (fix8 3 round).length c8_, .slice A5 (wit 4 (blockB l1 parts l2)).length c5, .slice A13_ (wit 5 (timeB s ns)).length c13_, .slice A16 (som 6 (bytesOf chain)).length c16] 25)))
  have n5_ := Aside0.mk (RdB.below HRx8.out (below_alloc (Below.refl _ _) (.cells #[.slice A2_ (num 1 kind).length c2_, .slice A5_ (fix8 2 height).length c5_, .slice A8_ (fix8 3 round).length c8_, .slice A5 (wit 4 (blockB l1 parts l2)).length c5, .slice A13_ (wit 5 (timeB s ns)).length c13_, .slice A16 (som 6 (bytesOf chain)).length c16] 25)))
  have n6_ := Aside0.mk (RdB.below HRx13.out (below_alloc (Below.refl _ _) (.cells #[.slice A2_ (num 1 kind).length c2_, .slice A5_ (fix8 2 height).length c5_, .slice A8_ (fix8 3 round).length c8_, .slice A5 (wit 4 (blockB l1 parts l2)).length c5, .slice A13_ (wit 5 (timeB s ns)).length c13_, .slice A16 (som 6 (bytesOf chain)).length c16] 25)))
  have n7_ := Aside0.mk (RdB.below HRx16.out (below_alloc (Below.refl _ _) (.cells #[.slice A2_ (num 1 kind).length c2_, .slice A5_ (fix8 2 height).length c5_, .slice A8_ (fix8 3 round).length c8_, .slice A5 (wit 4 (blockB l1 parts l2)).length c5, .slice A13_ (wit 5 (timeB s ns)).length c13_, .slice A16 (som 6 (bytesOf chain)).length c16] 25)))
  have m0_ := Aside0.mk (m9_)
  clear HB HK HR5 HRx2 HRx5 HRx8 HRx13 HRx16
  have HB := n0_
  have HK := n1_
  have HR5 := n2_
  have HRx2 := n3_
  have HRx5 := n4_
  have HRx8 := n5_
  have HRx13 := n6_
  have HRx16 := n7_
  have HKs := m0_
  clear n0_ n1_ n2_ n3_ n4_ n5_ n6_ n7_ m0_ m9_
  refine hK.out _ _ ⟨(blk_cell HK.out 0).trans rfl, (blk_cell HK.out 1).trans rfl, (blk_cell HK.out 2).trans rfl, (blk_cell HK.out 8).trans rfl, (blk_cell HK.out 9).trans rfl⟩ (fun hHeld => ?_)
  clear hK K
  refine norm_ (a' := ?_) ?_ ?_
  rotate_left
  · show Act.put _ (some 32) _ = _
    simp only [Act.put, qA, q0, qS, i64_w, i32_w]
    rfl
  refine one_ (i := 18) (N := some 33) #[true, true, true, true, true, true, true, true, true, true, true, true, true, true, true, true, true, true, true, false] rfl rfl (one_of HT_.out (by kernel_rfl)) (by decide) (fun K hK => ?_)
  refine goes_ Try.func15 (by kernel_rfl) rfl #[.slice (some ⟨wx.heap.size, 0, none⟩) 6 6] (by rfl) rfl rfl (by simp only [List.map_toArray, List.map_cons, List.map_nil]; rfl) ?_
  refine (joined_c _ _ 6 [num 1 kind, fix8 2 height, fix8 3 round, idB (some (l1, parts, l2)), wit 5 (timeB s ns), som 6 (bytesOf chain)] (C_slices HKs.out (six_slices HRx2.out HRx5.out HRx8.out HR5.out HRx13.out HRx16.out) (by simp)) (by simp) (by simp) (by have := parts_len (kind := kind) (height := height) (round := round) (s := s) (ns := ns) (ch := bytesOf chain) HLn.out (by rw [bytesOf_length]; exact HC.out); have := HC.out; rw [bytesOf_length] at *; omega)).mono ?_
  rintro e wx ⟨vx, rfl, ho⟩
  refine ⟨_, rfl, ?_⟩
  have hb := ho.below
  have n0_ := Aside0.mk (below_step HB.out hb)
  have n1_ := Aside0.mk (blk_below HK.out hb)
  have m0_ := Aside0.mk (ho.rdB)
  clear HB HK
  have HB := n0_
  have HK := n1_
  have HRj := m0_
  clear n0_ n1_ m0_ ho hb
  refine hK.out _ _ ⟨(blk_cell HK.out 0).trans rfl, (blk_cell HK.out 1).trans rfl, (blk_cell HK.out 2).trans rfl, (blk_cell HK.out 8).trans rfl, (blk_cell HK.out 9).trans rfl⟩ (fun hHeld => ?_)
  clear hK K
  refine norm_ (a' := ?_) ?_ ?_
  rotate_left
  · show Act.put _ (some 33) _ = _
    simp only [Act.put, qA, q0, qS, i64_w, i32_w]
    rfl
  refine pure_ (i := 19) (N := some 6) (v := ?_) (a' := ?_) #[true, true, true, true, true, true, true, true, true, true, true, true, true, true, true, true, true, true, true, true] rfl rfl (any_of HT_.out (by kernel_rfl)) (fun _ _ _ h => h) (Or.inl ⟨by rfl, ?_⟩) ?_ ?_
  rotate_left
  · intro w'
    go_simp
    with_reducible rfl
  rotate_left
  · simp only [Act.put, qA, q0, qS, i64_w, i32_w]
    rfl
  refine done_ (done_of HT_.out (by kernel_rfl)) ?_
  obtain ⟨Aj, cj, rfl, hcj, hrj⟩ := HRj.out
  have ej := parts_flat kind height round s ns (bytesOf chain) (idB (some (l1, parts, l2)))
  have HRj2 := Aside0.mk (show RdB wx (.slice Aj ([num 1 kind, fix8 2 height, fix8 3 round, idB (some (l1, parts, l2)), wit 5 (timeB s ns), som 6 (bytesOf chain)].flatten).length cj) (body (bytesOf chain) kind height round (idB (some (l1, parts, l2))) s ns) from ej ▸ HRj.out)
  have HLb := Aside0.mk (show (body (bytesOf chain) kind height round (idB (some (l1, parts, l2))) s ns).length < chain.size + 400 from by rw [← bytesOf_length chain]; exact delim_body_len _ kind height round _ s ns HLn.out (by rw [bytesOf_length]; exact HC.out))
  clear HRj hcj hrj
  rw [ej] at HRj2 ⊢
  clear ej
  generalize hbd : body (bytesOf chain) kind height round (idB (some (l1, parts, l2))) s ns = bd at HRj2 HLb ⊢
  have HBD := Aside0.mk hbd
  clear hbd
  go_wp2_with fail
  refine (counted_c wx bd.length).mono ?_
  rintro e w7 ⟨v7, rfl, ho⟩
  have HO7 := Aside0.mk ho
  clear ho
  go_wp2_with (first | ((with_reducible refine gate_builtin (b := .append) (xs := #[.tmp 36, .tmp 37]) rfl ?_); at_builtin; refine Kd.R_append_rows (Kd.int .u8) (w0 := wx) wx.heap.size rfl (.tmp 36) (.tmp 37) 25 5 (.int .u8 0) 1 rfl Try.underlying25 info5 rfl (by decide) (by omega) v7 (uv (u64 bd.length)) bd _ _ _ (fun k => wx.heap.size ≤ k) (fun _ => False) rfl rfl HO7.out.row ?aR (fun _ _ h => h) (fun _ h => h.elim) (fun k h => Nat.le_trans HO7.out.below.size h) HO7.out.below HO7.out.below.size ?aL ?_; (case aR => obtain ⟨A', c', e', _, h'⟩ := RdB.below HRj2.out HO7.out.below; injection e' with e1 e2 e3; subst e1; exact h'); (case aL => have := HLb.out; have := HC.out; have := uv_len10 (u64 bd.length) (u64_lt _); omega); intro v8 w8 ho hb hg hat; have HO8 := Aside0.mk ho; have HB8 := Aside0.mk hb; clear ho hb hg hat))
  go_ret
  have e : u64 (bd.length : Int) = bd.length := u64_nat _ (by have := HLb.out; have := HC.out; omega)
  refine ⟨_, rfl, Own.of_R (Kd.R_lower (ok := fun k => wx.heap.size ≤ k) ?_ HB.out.size) (below_step HB.out HB8.out)⟩
  have h8 := HO8.out
  rw [e] at h8
  rw [HBD.out]
  exact h8
end Go.Proofs.Ytlnknihjccdgkaa.M
