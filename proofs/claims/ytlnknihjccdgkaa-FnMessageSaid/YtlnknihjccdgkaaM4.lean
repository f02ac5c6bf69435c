/- The walks of the message functions, on: a vote made a vote of the package, and its message. -/
import Derived.Test.YtlnknihjccdgkaaM3
namespace Go.Proofs.Ytlnknihjccdgkaa.M
open Go.RowKit Go.Proofs.YtlnknihjccdgkaaW.PrintWords Go.Proofs.YtlnknihjccdgkaaW.PrintLast Go.Proofs.YtlnknihjccdgkaaW.PrintMore Go.Proofs.Ytlnknihjccdgkaa.PFnMessage
set_option linter.unusedVariables false
set_option linter.unusedSimpArgs false

theorem blk_bytes {w : World} {g : Nat} {o : Obj} (h : w.heap[g]? = some o) (e : TypeId) (s : ByteArray) : (Lib.bytesWorld w e s).heap[g]? = some o := blk_below h (bytes_below (Below.refl _ _) (Nat.le_refl _) e s)
theorem rdB_bytesB {B : Nat} {w W : World} (_ : Below B w W) (s : ByteArray) (hs : s.size ≤ 9223372036854775807) : RdB (Lib.bytesWorld W 5 s) (.slice (some ⟨W.heap.size, 0, none⟩) s.size (grownCap W s.size 0 5)) (bytesOf s) := rdB_bytes W s hs
theorem u32_w (p : Int) (h : 0 ≤ p ∧ p < 4294967296) : IntKind.u32.wrap p = p := by rw [IntKind.wrap_u32]; omega
theorem i32_in (p : Int) (h : -2147483648 ≤ p ∧ p < 2147483648) : IntKind.i32.wrap p = p := by rw [IntKind.wrap_i32]; omega
theorem iblock (A : Option Addr) (n c : Nat) (p : Int) (A2 : Option Addr) (n2 c2 : Nat) (w : World) (hp : 0 ≤ p ∧ p < 4294967296) :
    Calls Try.prog 27 #[.agg #[.slice A n c, .int .i64 p, .slice A2 n2 c2]] w fun e w' => e = .returned (.agg #[.slice A n c, .int .u32 p, .slice A2 n2 c2]) ∧ Below w.heap.size w w' := by
  obtain ⟨h0, h1⟩ := hp
  go_enter Try.func27, Try.ntmps27
  go_wp2
  refine bodyPost_ret (v := .agg #[.slice A n c, .int .u32 p, .slice A2 n2 c2]) (by simp [results, Try.results27, go_sem]) rfl ⟨rfl, ?_⟩
  with_reducible repeat (first | exact Below.refl _ _ | apply below_alloc)
theorem imoment (s n : Int) (w : World) (hn : 0 ≤ n ∧ n < 2147483648) :
    Calls Try.prog 28 #[.agg #[.int .i64 s, .int .i64 n]] w fun e w' => e = .returned (.agg #[.int .i64 (wrap64 (s + 62135596800)), .int .i32 n]) ∧ Below w.heap.size w w' := by
  refine impl_moment.calls s n _ _ w ?_
  unfold impl_moment.f comettypes_UnixTime.f
  simp only [Option.bind_some]
  rw [show wrap32 n = n from by unfold wrap32; omega]

/-- The cells of a vote of the thin package. -/
def ivoteCells (kind height round place : Int) (addr : ByteArray) (v1 : Value) (parts : Int) (v2 : Value) (s ns : Int) (v3 : Value) : Array Value :=
  #[.int .i64 kind, .int .i64 height, .int .i64 round, .int .i64 place, .string addr, v1, .int .i64 parts, v2, .int .i64 s, .int .i64 ns, v3]
/-- A vote of the package in new memory. -/
def VotePost (w : World) (kind height round place : Int) (addr : ByteArray) (v1 : Value) (parts : Int) (v2 : Value) (s ns : Int) (v3 : Value) (e : Ending) (w' : World) : Prop :=
  ∃ g va, e = .returned (.pointer (some ⟨g, 0, none⟩)) ∧ Below w.heap.size w w' ∧ w.heap.size ≤ g ∧ RdB w' va (bytesOf addr) ∧
    w'.heap[g]? = some (.cells (pvote kind height round v1 parts v2 s ns va place v3 (.slice none 0 0) (.slice none 0 0)) 73 (0, 0))
theorem rdB_slice {w : World} {v : Value} {l : List Int} (h : RdB w v l) : ∃ A n c, v = .slice A n c := by
  obtain ⟨A, c, e, _⟩ := h
  exact ⟨A, _, c, e⟩
theorem idOk_slices {w : World} {v1 v2 : Value} {p : Int} {ob : Option (List Int × Int × List Int)} (h : IdOk w v1 p v2 ob) : (∃ A n c, v1 = .slice A n c) ∧ (∃ A n c, v2 = .slice A n c) := by
  rcases ob with _ | ⟨l1, q, l2⟩
  · exact ⟨rdB_slice h.1, rdB_slice h.2.2⟩
  · exact ⟨rdB_slice h.1, rdB_slice h.2.2.1⟩
theorem idOk_parts {w : World} {v1 v2 : Value} {p : Int} {ob : Option (List Int × Int × List Int)} (h : IdOk w v1 p v2 ob) : 0 ≤ p ∧ p < 4294967296 := by
  rcases ob with _ | ⟨l1, q, l2⟩
  · have := h.2.1; omega
  · have := h.2.1; have := h.2.2.2.2.2; omega

def ivT.T : Bool × List (List Nat × List Nat) := (true, [([], []), ([0], [0]), ([1], [1]), ([], []), ([3], [3]), ([], []), ([5], [5]), ([6], [6]), ([], []), ([8], [8]), ([9], [9]), ([], []), ([11], [11]), ([12, 10], [12]), ([], []), ([14], [14]), ([15], [15]), ([], []), ([17], [17]), ([18], [18]), ([], []), ([20], [20]), ([2, 4, 7, 10, 13, 16, 19, 21], [2, 4, 7, 10, 13, 16, 19, 21]), ([22], [22]), ([23, 13, 0, 1, 2, 3, 4, 5, 6, 7, 8, 9, 10, 11, 12, 13, 14, 15, 16, 17, 18, 19, 20, 21, 22, 23], [23])])
def ivT.B : List Nat := [0, 1, 3, 0, 8, 0, 32, 96, 0, 256, 768, 0, 2048, 7936, 0, 16384, 49152, 0, 131072, 393216, 0, 1048576, 4194303, 8388607, 16777215]
theorem ivT.tab : rtab .any (opsOf Try.f11 1) = ivT.T := by kernel_rfl
theorem ivT.bits : waitsOk ivT.T.2 ivT.B = true := by kernel_rfl
set_option maxHeartbeats 8000000 in
set_option maxRecDepth 100000 in
theorem ivote0 (kind height round place : Int) (addr : ByteArray) (A : Option Addr) (n c : Nat) (parts : Int) (A2 : Option Addr) (n2 c2 : Nat) (s ns : Int) (A3 : Option Addr) (n3 c3 : Nat) (w : World)
    (hN : NumOk kind height round s ns) (hp : 0 ≤ parts ∧ parts < 4294967296) (hpl : -2147483648 ≤ place ∧ place < 2147483648) (had : addr.size < 2 ^ 40) :
    Calls Try.prog 11 #[.agg (ivoteCells kind height round place addr (.slice A n c) parts (.slice A2 n2 c2) s ns (.slice A3 n3 c3))] w (VotePost w kind height round place addr (.slice A n c) parts (.slice A2 n2 c2) s ns (.slice A3 n3 c3)) := by
  have HN := Aside0.mk hN
  have HP := Aside0.mk hp
  have HA := Aside0.mk had
  have q1 : IntKind.i32.wrap kind = kind := i32_in _ (by have := hN.kind; omega)
  have q2 : IntKind.i32.wrap round = round := i32_in _ (by have := hN.round; omega)
  have q3 : IntKind.i32.wrap place = place := i32_in _ hpl
  clear hN hp hpl had
  have kb := fun W => print_bytes (P := Try.prog) 9 25 5 Try.underlying9 Try.underlying25 Try.underlying5 addr W
  unfold ivoteCells
  go_enter Try.func11, Try.ntmps11
  go_wp2_with fail
  have HB := Aside0.mk (below_drew (below_alloc (Below.refl w.heap.size w) (.cells #[.int .i64 kind, .int .i64 height, .int .i64 round, .int .i64 place, .string addr, .slice A n c, .int .i64 parts, .slice A2 n2 c2, .int .i64 s, .int .i64 ns, .slice A3 n3 c3] 31)))
  have BK := Aside0.mk (blk_drew (heap_alloc_new w (.cells #[.int .i64 kind, .int .i64 height, .int .i64 round, .int .i64 place, .string addr, .slice A n c, .int .i64 parts, .slice A2 n2 c2, .int .i64 s, .int .i64 ns, .slice A3 n3 c3] 31)))
  refine start_ (n := 25) (S := fun w' => w'.cell? ⟨w.heap.size, 0, none⟩ = some (.int .i64 kind) ∧ w'.cell? ⟨w.heap.size, 1, none⟩ = some (.int .i64 height) ∧ w'.cell? ⟨w.heap.size, 2, none⟩ = some (.int .i64 round) ∧ w'.cell? ⟨w.heap.size, 3, none⟩ = some (.int .i64 place) ∧ w'.cell? ⟨w.heap.size, 4, none⟩ = some (.string addr) ∧ w'.cell? ⟨w.heap.size, 5, none⟩ = some (.slice A n c) ∧ w'.cell? ⟨w.heap.size, 6, none⟩ = some (.int .i64 parts) ∧ w'.cell? ⟨w.heap.size, 7, none⟩ = some (.slice A2 n2 c2) ∧ w'.cell? ⟨w.heap.size, 8, none⟩ = some (.int .i64 s) ∧ w'.cell? ⟨w.heap.size, 9, none⟩ = some (.int .i64 ns) ∧ w'.cell? ⟨w.heap.size, 10, none⟩ = some (.slice A3 n3 c3)) (ds := []) #[false, false, false, false, false, false, false, false, false, false, false, false, false, false, false, false, false, false, false, false, false, false, false, false, false] (by kernel_rfl) rfl rfl ⟨(blk_cell BK.out 0).trans rfl, (blk_cell BK.out 1).trans rfl, (blk_cell BK.out 2).trans rfl, (blk_cell BK.out 3).trans rfl, (blk_cell BK.out 4).trans rfl, (blk_cell BK.out 5).trans rfl, (blk_cell BK.out 6).trans rfl, (blk_cell BK.out 7).trans rfl, (blk_cell BK.out 8).trans rfl, (blk_cell BK.out 9).trans rfl, (blk_cell BK.out 10).trans rfl⟩ (fun hHeld => ?_)
  refine with_tabW ivT.tab ivT.bits (fun HT_ HW_ => ?_)
  generalize (w.alloc (.cells #[.int .i64 kind, .int .i64 height, .int .i64 round, .int .i64 place, .string addr, .slice A n c, .int .i64 parts, .slice A2 n2 c2, .int .i64 s, .int .i64 ns, .slice A3 n3 c3] 31)).drew = w1 at HB BK hHeld ⊢
  refine pure_ (i := 0) (N := some 3) (v := ?_) (a' := ?_) #[true, false, false, false, false, false, false, false, false, false, false, false, false, false, false, false, false, false, false, false, false, false, false, false, false] rfl rfl (any_of HT_.out (by kernel_rfl)) (fun _ _ _ h => h) (Or.inl ⟨by rfl, ?_⟩) ?_ ?_
  rotate_left
  · intro w'
    go_simp
    with_reducible rfl
  rotate_left
  · simp only [Act.put, qA, q0, qS, i64_w, i32_w]
    rfl
  refine pure_ (i := 3) (N := some 6) (v := ?_) (a' := ?_) #[true, false, false, true, false, false, false, false, false, false, false, false, false, false, false, false, false, false, false, false, false, false, false, false, false] rfl rfl (any_of HT_.out (by kernel_rfl)) (fun _ _ _ h => h) (Or.inl ⟨by rfl, ?_⟩) ?_ ?_
  rotate_left
  · intro w'
    go_simp
    with_reducible rfl
  rotate_left
  · simp only [Act.put, qA, q0, qS, i64_w, i32_w]
    rfl
  refine pure_ (i := 5) (N := some 8) (v := ?_) (a' := ?_) #[true, false, false, true, false, true, false, false, false, false, false, false, false, false, false, false, false, false, false, false, false, false, false, false, false] rfl rfl (any_of HT_.out (by kernel_rfl)) (fun _ _ _ h => h) (Or.inl ⟨by rfl, ?_⟩) ?_ ?_
  rotate_left
  · intro w'
    go_simp
    with_reducible rfl
  rotate_left
  · simp only [Act.put, qA, q0, qS, i64_w, i32_w]
    rfl
  refine pure_ (i := 8) (N := some 11) (v := ?_) (a' := ?_) #[true, false, false, true, false, true, false, false, true, false, false, false, false, false, false, false, false, false, false, false, false, false, false, false, false] rfl rfl (any_of HT_.out (by kernel_rfl)) (fun _ _ _ h => h) (Or.inl ⟨by rfl, ?_⟩) ?_ ?_
  rotate_left
  · intro w'
    go_simp
    with_reducible rfl
  rotate_left
  · simp only [Act.put, qA, q0, qS, i64_w, i32_w]
    rfl
  refine pure_ (i := 11) (N := some 14) (v := ?_) (a' := ?_) #[true, false, false, true, false, true, false, false, true, false, false, true, false, false, false, false, false, false, false, false, false, false, false, false, false] rfl rfl (any_of HT_.out (by kernel_rfl)) (fun _ _ _ h => h) (Or.inl ⟨by rfl, ?_⟩) ?_ ?_
  rotate_left
  · intro w'
    go_simp
    with_reducible rfl
  rotate_left
  · simp only [Act.put, qA, q0, qS, i64_w, i32_w]
    rfl
  refine pure_ (i := 14) (N := some 17) (v := ?_) (a' := ?_) #[true, false, false, true, false, true, false, false, true, false, false, true, false, false, true, false, false, false, false, false, false, false, false, false, false] rfl rfl (any_of HT_.out (by kernel_rfl)) (fun _ _ _ h => h) (Or.inl ⟨by rfl, ?_⟩) ?_ ?_
  rotate_left
  · intro w'
    go_simp
    with_reducible rfl
  rotate_left
  · simp only [Act.put, qA, q0, qS, i64_w, i32_w]
    rfl
  refine pure_ (i := 17) (N := some 20) (v := ?_) (a' := ?_) #[true, false, false, true, false, true, false, false, true, false, false, true, false, false, true, false, false, true, false, false, false, false, false, false, false] rfl rfl (any_of HT_.out (by kernel_rfl)) (fun _ _ _ h => h) (Or.inl ⟨by rfl, ?_⟩) ?_ ?_
  rotate_left
  · intro w'
    go_simp
    with_reducible rfl
  rotate_left
  · simp only [Act.put, qA, q0, qS, i64_w, i32_w]
    rfl
  refine pure_ (i := 20) (N := some 23) (v := ?_) (a' := ?_) #[true, false, false, true, false, true, false, false, true, false, false, true, false, false, true, false, false, true, false, false, true, false, false, false, false] rfl rfl (any_of HT_.out (by kernel_rfl)) (fun _ _ _ h => h) (Or.inl ⟨by rfl, ?_⟩) ?_ ?_
  rotate_left
  · intro w'
    go_simp
    with_reducible rfl
  rotate_left
  · simp only [Act.put, qA, q0, qS, i64_w, i32_w]
    rfl
  refine take_ (i := 1) (N := some 4) (v := ?_) (a' := ?_) #[true, true, false, true, false, true, false, false, true, false, false, true, false, false, true, false, false, true, false, false, true, false, false, false, false] rfl rfl (take_ofW HT_.out HW_.out (by kernel_rfl)) (fun _ _ _ h => h) (Or.inl ⟨by rfl, ?_⟩) hHeld ?_ ?_
  rotate_left
  · rintro w' ⟨s0, s1, s2, s3, s4, s5, s6, s7, s8, s9, s10⟩
    go_simp
    with_reducible rfl
  rotate_left
  · simp only [Act.put, qA, q0, qS, i64_w, i32_w]
    rfl
  refine pure_ (i := 2) (N := some 5) (v := ?_) (a' := ?_) #[true, true, true, true, false, true, false, false, true, false, false, true, false, false, true, false, false, true, false, false, true, false, false, false, false] rfl rfl (any_of HT_.out (by kernel_rfl)) (fun _ _ _ h => h) (Or.inl ⟨by rfl, ?_⟩) ?_ ?_
  rotate_left
  · intro w'
    go_simp
    with_reducible rfl
  rotate_left
  · simp only [Act.put, qA, q0, qS, i64_w, i32_w]
    rfl
  refine take_ (i := 4) (N := some 7) (v := ?_) (a' := ?_) #[true, true, true, true, true, true, false, false, true, false, false, true, false, false, true, false, false, true, false, false, true, false, false, false, false] rfl rfl (take_ofW HT_.out HW_.out (by kernel_rfl)) (fun _ _ _ h => h) (Or.inl ⟨by rfl, ?_⟩) hHeld ?_ ?_
  rotate_left
  · rintro w' ⟨s0, s1, s2, s3, s4, s5, s6, s7, s8, s9, s10⟩
    go_simp
    with_reducible rfl
  rotate_left
  · simp only [Act.put, qA, q0, qS, i64_w, i32_w]
    rfl
  refine take_ (i := 6) (N := some 9) (v := ?_) (a' := ?_) #[true, true, true, true, true, true, true, false, true, false, false, true, false, false, true, false, false, true, false, false, true, false, false, false, false] rfl rfl (take_ofW HT_.out HW_.out (by kernel_rfl)) (fun _ _ _ h => h) (Or.inl ⟨by rfl, ?_⟩) hHeld ?_ ?_
  rotate_left
  · rintro w' ⟨s0, s1, s2, s3, s4, s5, s6, s7, s8, s9, s10⟩
    go_simp
    with_reducible rfl
  rotate_left
  · simp only [Act.put, qA, q0, qS, i64_w, i32_w]
    rfl
  refine pure_ (i := 7) (N := some 10) (v := ?_) (a' := ?_) #[true, true, true, true, true, true, true, true, true, false, false, true, false, false, true, false, false, true, false, false, true, false, false, false, false] rfl rfl (any_of HT_.out (by kernel_rfl)) (fun _ _ _ h => h) (Or.inl ⟨by rfl, ?_⟩) ?_ ?_
  rotate_left
  · intro w'
    go_simp
    with_reducible rfl
  rotate_left
  · simp only [Act.put, qA, q0, qS, i64_w, i32_w]
    rfl
  refine take_ (i := 9) (N := some 12) (v := ?_) (a' := ?_) #[true, true, true, true, true, true, true, true, true, true, false, true, false, false, true, false, false, true, false, false, true, false, false, false, false] rfl rfl (take_ofW HT_.out HW_.out (by kernel_rfl)) (fun _ _ _ h => h) (Or.inl ⟨by rfl, ?_⟩) hHeld ?_ ?_
  rotate_left
  · rintro w' ⟨s0, s1, s2, s3, s4, s5, s6, s7, s8, s9, s10⟩
    go_simp
    with_reducible rfl
  rotate_left
  · simp only [Act.put, qA, q0, qS, i64_w, i32_w]
    rfl
  refine take_ (i := 12) (N := some 15) (v := ?_) (a' := ?_) #[true, true, true, true, true, true, true, true, true, true, false, true, true, false, true, false, false, true, false, false, true, false, false, false, false] rfl rfl (take_ofW HT_.out HW_.out (by kernel_rfl)) (fun _ _ _ h => h) (Or.inl ⟨by rfl, ?_⟩) hHeld ?_ ?_
  rotate_left
  · rintro w' ⟨s0, s1, s2, s3, s4, s5, s6, s7, s8, s9, s10⟩
    go_simp
    with_reducible rfl
  rotate_left
  · simp only [Act.put, qA, q0, qS, i64_w, i32_w]
    rfl
  refine take_ (i := 15) (N := some 18) (v := ?_) (a' := ?_) #[true, true, true, true, true, true, true, true, true, true, false, true, true, false, true, true, false, true, false, false, true, false, false, false, false] rfl rfl (take_ofW HT_.out HW_.out (by kernel_rfl)) (fun _ _ _ h => h) (Or.inl ⟨by rfl, ?_⟩) hHeld ?_ ?_
  rotate_left
  · rintro w' ⟨s0, s1, s2, s3, s4, s5, s6, s7, s8, s9, s10⟩
    go_simp
    with_reducible rfl
  rotate_left
  · simp only [Act.put, qA, q0, qS, i64_w, i32_w]
    rfl
  refine take_ (i := 18) (N := some 21) (v := ?_) (a' := ?_) #[true, true, true, true, true, true, true, true, true, true, false, true, true, false, true, true, false, true, true, false, true, false, false, false, false] rfl rfl (take_ofW HT_.out HW_.out (by kernel_rfl)) (fun _ _ _ h => h) (Or.inl ⟨by rfl, ?_⟩) hHeld ?_ ?_
  rotate_left
  · rintro w' ⟨s0, s1, s2, s3, s4, s5, s6, s7, s8, s9, s10⟩
    go_simp
    with_reducible rfl
  rotate_left
  · simp only [Act.put, qA, q0, qS, i64_w, i32_w]
    rfl
  refine pure_ (i := 19) (N := some 22) (v := ?_) (a' := ?_) #[true, true, true, true, true, true, true, true, true, true, false, true, true, false, true, true, false, true, true, true, true, false, false, false, false] rfl rfl (any_of HT_.out (by kernel_rfl)) (fun _ _ _ h => h) (Or.inl ⟨by rfl, ?_⟩) ?_ ?_
  rotate_left
  · intro w'
    go_simp
    with_reducible rfl
  rotate_left
  · simp only [Act.put, qA, q0, qS, i64_w, i32_w]
    rfl
  refine take_ (i := 21) (N := some 24) (v := ?_) (a' := ?_) #[true, true, true, true, true, true, true, true, true, true, false, true, true, false, true, true, false, true, true, true, true, true, false, false, false] rfl rfl (take_ofW HT_.out HW_.out (by kernel_rfl)) (fun _ _ _ h => h) (Or.inl ⟨by rfl, ?_⟩) hHeld ?_ ?_
  rotate_left
  · rintro w' ⟨s0, s1, s2, s3, s4, s5, s6, s7, s8, s9, s10⟩
    go_simp
    with_reducible rfl
  rotate_left
  · simp only [Act.put, qA, q0, qS, i64_w, i32_w]
    rfl
  refine join_ (σ := Nat × Nat) 3 #[true, true, true, true, true, true, true, true, true, true, true, true, true, true, true, true, true, true, true, true, true, true, false, false, false] (fun s_ => [(13, .agg #[.slice A n c, .int .u32 parts, .slice A2 n2 c2]), (16, .agg #[.int .i64 (wrap64 (s + 62135596800)), .int .i32 ns]), (19, .slice (some ⟨s_.1, 0, none⟩) addr.size s_.2)]) (fun s_ w' => Below w.heap.size w w' ∧ w'.heap[w.heap.size]? = some (.cells #[.int .i64 kind, .int .i64 height, .int .i64 round, .int .i64 place, .string addr, .slice A n c, .int .i64 parts, .slice A2 n2 c2, .int .i64 s, .int .i64 ns, .slice A3 n3 c3] 31 (0, 0)) ∧ RdB w' (.slice (some ⟨s_.1, 0, none⟩) addr.size s_.2) (bytesOf addr)) ?_ ?_
  rotate_left
  · intro hCont
    refine two_ (i := 10) (j := 16) (Ni := some 13) (Nj := some 19) #[true, true, true, true, true, true, true, true, true, true, true, true, true, false, true, true, false, true, true, true, true, true, false, false, false] #[true, true, true, true, true, true, true, true, true, true, false, true, true, false, true, true, true, true, true, true, true, true, false, false, false] rfl rfl rfl rfl (two_of HT_.out (by kernel_rfl)) (by decide) (by decide) (fun K hK => ?_) (fun K hK => ?_)
    · skip
      refine goes_ Try.func27 (by kernel_rfl) rfl #[.agg #[.slice A n c, .int .i64 parts, .slice A2 n2 c2]] (by rfl) rfl rfl (by simp only [List.map_toArray, List.map_cons, List.map_nil]; rfl) ?_
      with_reducible refine (iblock _ _ _ _ _ _ _ _ HP.out).mono ?_
      rintro e w3 ⟨rfl, hb⟩
      refine ⟨_, rfl, ?_⟩
      have n0_ := Aside0.mk (below_step HB.out hb)
      have n1_ := Aside0.mk (blk_below BK.out hb)
      clear HB BK
      have HB := n0_
      have BK := n1_
      clear n0_ n1_
      clear hb
      refine hK.out _ _ ⟨(blk_cell BK.out 0).trans rfl, (blk_cell BK.out 1).trans rfl, (blk_cell BK.out 2).trans rfl, (blk_cell BK.out 3).trans rfl, (blk_cell BK.out 4).trans rfl, (blk_cell BK.out 5).trans rfl, (blk_cell BK.out 6).trans rfl, (blk_cell BK.out 7).trans rfl, (blk_cell BK.out 8).trans rfl, (blk_cell BK.out 9).trans rfl, (blk_cell BK.out 10).trans rfl⟩ (fun hHeld => ?_)
      clear hK K
      refine norm_ (a' := ?_) ?_ ?_
      rotate_left
      · show Act.put _ (some 13) _ = _
        simp only [Act.put, qA, q0, qS, i64_w, i32_w]
        rfl
      refine two_ (i := 13) (j := 16) (Ni := some 16) (Nj := some 19) #[true, true, true, true, true, true, true, true, true, true, true, true, true, true, true, true, false, true, true, true, true, true, false, false, false] #[true, true, true, true, true, true, true, true, true, true, true, true, true, false, true, true, true, true, true, true, true, true, false, false, false] rfl rfl rfl rfl (two_of HT_.out (by kernel_rfl)) (by decide) (by decide) (fun K hK => ?_) (fun K hK => ?_)
      · skip
        refine goes_ Try.func28 (by kernel_rfl) rfl #[.agg #[.int .i64 s, .int .i64 ns]] (by rfl) rfl rfl (by simp only [List.map_toArray, List.map_cons, List.map_nil]; rfl) ?_
        with_reducible refine (imoment _ _ _ HN.out.ns).mono ?_
        rintro e w4 ⟨rfl, hb⟩
        refine ⟨_, rfl, ?_⟩
        have n0_ := Aside0.mk (below_step HB.out hb)
        have n1_ := Aside0.mk (blk_below BK.out hb)
        clear HB BK
        have HB := n0_
        have BK := n1_
        clear n0_ n1_
        clear hb
        refine hK.out _ _ ⟨(blk_cell BK.out 0).trans rfl, (blk_cell BK.out 1).trans rfl, (blk_cell BK.out 2).trans rfl, (blk_cell BK.out 3).trans rfl, (blk_cell BK.out 4).trans rfl, (blk_cell BK.out 5).trans rfl, (blk_cell BK.out 6).trans rfl, (blk_cell BK.out 7).trans rfl, (blk_cell BK.out 8).trans rfl, (blk_cell BK.out 9).trans rfl, (blk_cell BK.out 10).trans rfl⟩ (fun hHeld => ?_)
        clear hK K
        refine norm_ (a' := ?_) ?_ ?_
        rotate_left
        · show Act.put _ (some 16) _ = _
          simp only [Act.put, qA, q0, qS, i64_w, i32_w]
          rfl
        refine one_ (i := 16) (N := some 19) #[true, true, true, true, true, true, true, true, true, true, true, true, true, true, true, true, true, true, true, true, true, true, false, false, false] rfl rfl (one_of HT_.out (by kernel_rfl)) (by decide) (fun K hK => ?_)
        refine value_ (w1 := ?_) (v := ?_) (by rfl) rfl ?_ ?_
        rotate_left 2
        · go_simp
          constructor
          · rfl
          · rfl
        have n0_ := Aside0.mk (below_step HB.out (bytes_below (Below.refl _ _) (Nat.le_refl _) 5 addr))
        have n1_ := Aside0.mk (blk_below BK.out (bytes_below (Below.refl _ _) (Nat.le_refl _) 5 addr))
        have n2_ := Aside0.mk (rdB_bytesB HB.out addr (by have := HA.out; omega))
        clear HB BK
        have HB := n0_
        have BK := n1_
        have RB := n2_
        clear n0_ n1_ n2_
        refine hK.out _ _ ⟨(blk_cell BK.out 0).trans rfl, (blk_cell BK.out 1).trans rfl, (blk_cell BK.out 2).trans rfl, (blk_cell BK.out 3).trans rfl, (blk_cell BK.out 4).trans rfl, (blk_cell BK.out 5).trans rfl, (blk_cell BK.out 6).trans rfl, (blk_cell BK.out 7).trans rfl, (blk_cell BK.out 8).trans rfl, (blk_cell BK.out 9).trans rfl, (blk_cell BK.out 10).trans rfl⟩ (fun hHeld => ?_)
        clear hK K
        refine norm_ (a' := ?_) ?_ ?_
        rotate_left
        · show Act.put _ (some 19) _ = _
          simp only [Act.put, qA, q0, qS, i64_w, i32_w]
          rfl
        exact norm_ (by first | (simp only [putAll, Act.put, qA, q0, qS]; done) | (simp only [putAll, Act.put, qA, q0, qS]; rfl)) (hCont (_, _) _ ⟨HB.out, BK.out, RB.out⟩)
      · skip
        refine value_ (w1 := ?_) (v := ?_) (by rfl) rfl ?_ ?_
        rotate_left 2
        · go_simp
          constructor
          · rfl
          · rfl
        have n0_ := Aside0.mk (below_step HB.out (bytes_below (Below.refl _ _) (Nat.le_refl _) 5 addr))
        have n1_ := Aside0.mk (blk_below BK.out (bytes_below (Below.refl _ _) (Nat.le_refl _) 5 addr))
        have n2_ := Aside0.mk (rdB_bytesB HB.out addr (by have := HA.out; omega))
        clear HB BK
        have HB := n0_
        have BK := n1_
        have RB := n2_
        clear n0_ n1_ n2_
        refine hK.out _ _ ⟨(blk_cell BK.out 0).trans rfl, (blk_cell BK.out 1).trans rfl, (blk_cell BK.out 2).trans rfl, (blk_cell BK.out 3).trans rfl, (blk_cell BK.out 4).trans rfl, (blk_cell BK.out 5).trans rfl, (blk_cell BK.out 6).trans rfl, (blk_cell BK.out 7).trans rfl, (blk_cell BK.out 8).trans rfl, (blk_cell BK.out 9).trans rfl, (blk_cell BK.out 10).trans rfl⟩ (fun hHeld => ?_)
        clear hK K
        refine norm_ (a' := ?_) ?_ ?_
        rotate_left
        · show Act.put _ (some 19) _ = _
          simp only [Act.put, qA, q0, qS, i64_w, i32_w]
          rfl
        refine one_ (i := 13) (N := some 16) #[true, true, true, true, true, true, true, true, true, true, true, true, true, true, true, true, true, true, true, true, true, true, false, false, false] rfl rfl (one_of HT_.out (by kernel_rfl)) (by decide) (fun K hK => ?_)
        refine goes_ Try.func28 (by kernel_rfl) rfl #[.agg #[.int .i64 s, .int .i64 ns]] (by rfl) rfl rfl (by simp only [List.map_toArray, List.map_cons, List.map_nil]; rfl) ?_
        with_reducible refine (imoment _ _ _ HN.out.ns).mono ?_
        rintro e w4 ⟨rfl, hb⟩
        refine ⟨_, rfl, ?_⟩
        have n0_ := Aside0.mk (below_step HB.out hb)
        have n1_ := Aside0.mk (blk_below BK.out hb)
        have n2_ := Aside0.mk (RdB.below RB.out hb)
        clear HB BK
        have HB := n0_
        have BK := n1_
        clear RB
        have RB := n2_
        clear n0_ n1_ n2_
        clear hb
        refine hK.out _ _ ⟨(blk_cell BK.out 0).trans rfl, (blk_cell BK.out 1).trans rfl, (blk_cell BK.out 2).trans rfl, (blk_cell BK.out 3).trans rfl, (blk_cell BK.out 4).trans rfl, (blk_cell BK.out 5).trans rfl, (blk_cell BK.out 6).trans rfl, (blk_cell BK.out 7).trans rfl, (blk_cell BK.out 8).trans rfl, (blk_cell BK.out 9).trans rfl, (blk_cell BK.out 10).trans rfl⟩ (fun hHeld => ?_)
        clear hK K
        refine norm_ (a' := ?_) ?_ ?_
        rotate_left
        · show Act.put _ (some 16) _ = _
          simp only [Act.put, qA, q0, qS, i64_w, i32_w]
          rfl
        exact norm_ (by first | (simp only [putAll, Act.put, qA, q0, qS]; done) | (simp only [putAll, Act.put, qA, q0, qS]; rfl)) (hCont (_, _) _ ⟨HB.out, BK.out, RB.out⟩)
    · skip
      refine value_ (w1 := ?_) (v := ?_) (by rfl) rfl ?_ ?_
      rotate_left 2
      · go_simp
        constructor
        · rfl
        · rfl
      have n0_ := Aside0.mk (below_step HB.out (bytes_below (Below.refl _ _) (Nat.le_refl _) 5 addr))
      have n1_ := Aside0.mk (blk_below BK.out (bytes_below (Below.refl _ _) (Nat.le_refl _) 5 addr))
      have n2_ := Aside0.mk (rdB_bytesB HB.out addr (by have := HA.out; omega))
      clear HB BK
      have HB := n0_
      have BK := n1_
      have RB := n2_
      clear n0_ n1_ n2_
      refine hK.out _ _ ⟨(blk_cell BK.out 0).trans rfl, (blk_cell BK.out 1).trans rfl, (blk_cell BK.out 2).trans rfl, (blk_cell BK.out 3).trans rfl, (blk_cell BK.out 4).trans rfl, (blk_cell BK.out 5).trans rfl, (blk_cell BK.out 6).trans rfl, (blk_cell BK.out 7).trans rfl, (blk_cell BK.out 8).trans rfl, (blk_cell BK.out 9).trans rfl, (blk_cell BK.out 10).trans rfl⟩ (fun hHeld => ?_)
      clear hK K
      refine norm_ (a' := ?_) ?_ ?_
      rotate_left
      · show Act.put _ (some 19) _ = _
        simp only [Act.put, qA, q0, qS, i64_w, i32_w]
        rfl
      refine one_ (i := 10) (N := some 13) #[true, true, true, true, true, true, true, true, true, true, true, true, true, false, true, true, true, true, true, true, true, true, false, false, false] rfl rfl (one_of HT_.out (by kernel_rfl)) (by decide) (fun K hK => ?_)
      refine goes_ Try.func27 (by kernel_rfl) rfl #[.agg #[.slice A n c, .int .i64 parts, .slice A2 n2 c2]] (by rfl) rfl rfl (by simp only [List.map_toArray, List.map_cons, List.map_nil]; rfl) ?_
      with_reducible refine (iblock _ _ _ _ _ _ _ _ HP.out).mono ?_
      rintro e w3 ⟨rfl, hb⟩
      refine ⟨_, rfl, ?_⟩
      have n0_ := Aside0.mk (below_step HB.out hb)
      have n1_ := Aside0.mk (blk_below BK.out hb)
      have n2_ := Aside0.mk (RdB.below RB.out hb)
      clear HB BK
      have HB := n0_
      have BK := n1_
      clear RB
      have RB := n2_
      clear n0_ n1_ n2_
      clear hb
      refine hK.out _ _ ⟨(blk_cell BK.out 0).trans rfl, (blk_cell BK.out 1).trans rfl, (blk_cell BK.out 2).trans rfl, (blk_cell BK.out 3).trans rfl, (blk_cell BK.out 4).trans rfl, (blk_cell BK.out 5).trans rfl, (blk_cell BK.out 6).trans rfl, (blk_cell BK.out 7).trans rfl, (blk_cell BK.out 8).trans rfl, (blk_cell BK.out 9).trans rfl, (blk_cell BK.out 10).trans rfl⟩ (fun hHeld => ?_)
      clear hK K
      refine norm_ (a' := ?_) ?_ ?_
      rotate_left
      · show Act.put _ (some 13) _ = _
        simp only [Act.put, qA, q0, qS, i64_w, i32_w]
        rfl
      refine one_ (i := 13) (N := some 16) #[true, true, true, true, true, true, true, true, true, true, true, true, true, true, true, true, true, true, true, true, true, true, false, false, false] rfl rfl (one_of HT_.out (by kernel_rfl)) (by decide) (fun K hK => ?_)
      refine goes_ Try.func28 (by kernel_rfl) rfl #[.agg #[.int .i64 s, .int .i64 ns]] (by rfl) rfl rfl (by simp only [List.map_toArray, List.map_cons, List.map_nil]; rfl) ?_
      with_reducible refine (imoment _ _ _ HN.out.ns).mono ?_
      rintro e w4 ⟨rfl, hb⟩
      refine ⟨_, rfl, ?_⟩
      have n0_ := Aside0.mk (below_step HB.out hb)
      have n1_ := Aside0.mk (blk_below BK.out hb)
      have n2_ := Aside0.mk (RdB.below RB.out hb)
      clear HB BK
      have HB := n0_
      have BK := n1_
      clear RB
      have RB := n2_
      clear n0_ n1_ n2_
      clear hb
      refine hK.out _ _ ⟨(blk_cell BK.out 0).trans rfl, (blk_cell BK.out 1).trans rfl, (blk_cell BK.out 2).trans rfl, (blk_cell BK.out 3).trans rfl, (blk_cell BK.out 4).trans rfl, (blk_cell BK.out 5).trans rfl, (blk_cell BK.out 6).trans rfl, (blk_cell BK.out 7).trans rfl, (blk_cell BK.out 8).trans rfl, (blk_cell BK.out 9).trans rfl, (blk_cell BK.out 10).trans rfl⟩ (fun hHeld => ?_)
      clear hK K
      refine norm_ (a' := ?_) ?_ ?_
      rotate_left
      · show Act.put _ (some 16) _ = _
        simp only [Act.put, qA, q0, qS, i64_w, i32_w]
        rfl
      exact norm_ (by first | (simp only [putAll, Act.put, qA, q0, qS]; done) | (simp only [putAll, Act.put, qA, q0, qS]; rfl)) (hCont (_, _) _ ⟨HB.out, BK.out, RB.out⟩)
  rintro ⟨b_, c_⟩ w5 ⟨hb, hk, hr⟩
  have HB := Aside0.mk hb
  have BK := Aside0.mk hk
  have RB := Aside0.mk hr
  clear hb hk hr
  have hHeld : w5.cell? ⟨w.heap.size, 0, none⟩ = some (.int .i64 kind) ∧ w5.cell? ⟨w.heap.size, 1, none⟩ = some (.int .i64 height) ∧ w5.cell? ⟨w.heap.size, 2, none⟩ = some (.int .i64 round) ∧ w5.cell? ⟨w.heap.size, 3, none⟩ = some (.int .i64 place) ∧ w5.cell? ⟨w.heap.size, 4, none⟩ = some (.string addr) ∧ w5.cell? ⟨w.heap.size, 5, none⟩ = some (.slice A n c) ∧ w5.cell? ⟨w.heap.size, 6, none⟩ = some (.int .i64 parts) ∧ w5.cell? ⟨w.heap.size, 7, none⟩ = some (.slice A2 n2 c2) ∧ w5.cell? ⟨w.heap.size, 8, none⟩ = some (.int .i64 s) ∧ w5.cell? ⟨w.heap.size, 9, none⟩ = some (.int .i64 ns) ∧ w5.cell? ⟨w.heap.size, 10, none⟩ = some (.slice A3 n3 c3) := ⟨(blk_cell BK.out 0).trans rfl, (blk_cell BK.out 1).trans rfl, (blk_cell BK.out 2).trans rfl, (blk_cell BK.out 3).trans rfl, (blk_cell BK.out 4).trans rfl, (blk_cell BK.out 5).trans rfl, (blk_cell BK.out 6).trans rfl, (blk_cell BK.out 7).trans rfl, (blk_cell BK.out 8).trans rfl, (blk_cell BK.out 9).trans rfl, (blk_cell BK.out 10).trans rfl⟩
  refine norm_ (a' := ?_) ?_ ?_
  rotate_left
  · simp only [putAll, Act.put, qA, q0, qS]
    rfl
  refine pure_ (i := 22) (N := some 25) (v := ?_) (a' := ?_) #[true, true, true, true, true, true, true, true, true, true, true, true, true, true, true, true, true, true, true, true, true, true, true, false, false] rfl rfl (any_of HT_.out (by kernel_rfl)) (fun _ _ _ h => h) (Or.inl ⟨by rfl, ?_⟩) ?_ ?_
  rotate_left
  · intro w'
    go_simp
    with_reducible rfl
  rotate_left
  · simp only [Act.put, qA, q0, qS, i64_w, i32_w]
    rfl
  refine one_ (i := 23) (N := some 26) #[true, true, true, true, true, true, true, true, true, true, true, true, true, true, true, true, true, true, true, true, true, true, true, true, false] rfl rfl (one_of HT_.out (by kernel_rfl)) (by decide) (fun K hK => ?_)
  refine value_ (w1 := ?_) (v := ?_) (by rfl) rfl ?_ ?_
  rotate_left 2
  · go_simp
    constructor
    · rfl
    · rfl
  refine hK.out _ _ ⟨(blk_cell (blk_alloc BK.out _) 0).trans rfl, (blk_cell (blk_alloc BK.out _) 1).trans rfl, (blk_cell (blk_alloc BK.out _) 2).trans rfl, (blk_cell (blk_alloc BK.out _) 3).trans rfl, (blk_cell (blk_alloc BK.out _) 4).trans rfl, (blk_cell (blk_alloc BK.out _) 5).trans rfl, (blk_cell (blk_alloc BK.out _) 6).trans rfl, (blk_cell (blk_alloc BK.out _) 7).trans rfl, (blk_cell (blk_alloc BK.out _) 8).trans rfl, (blk_cell (blk_alloc BK.out _) 9).trans rfl, (blk_cell (blk_alloc BK.out _) 10).trans rfl⟩ (fun hHeld => ?_)
  clear hK K
  refine norm_ (a' := ?_) ?_ ?_
  rotate_left
  · show Act.put _ (some 26) _ = _
    simp only [Act.put, qA, q0, qS, i64_w, i32_w]
    rfl
  refine pure_ (i := 24) (N := some 2) (v := ?_) (a' := ?_) #[true, true, true, true, true, true, true, true, true, true, true, true, true, true, true, true, true, true, true, true, true, true, true, true, true] rfl rfl (any_of HT_.out (by kernel_rfl)) (fun _ _ _ h => h) (Or.inl ⟨by rfl, ?_⟩) ?_ ?_
  rotate_left
  · intro w'
    go_simp
    with_reducible rfl
  rotate_left
  · simp only [Act.put, qA, q0, qS, i64_w, i32_w]
    rfl
  refine done_ (done_of HT_.out (by kernel_rfl)) ?_
  go_wp2
  go_ret
  refine ⟨_, .slice (some ⟨b_, 0, none⟩) addr.size c_, rfl, ?_, HB.out.size, ?_, ?_⟩
  · exact below_alloc HB.out _
  · exact RdB.below RB.out (below_alloc (Below.refl _ _) _)
  · exact heap_alloc_new _ _
end Go.Proofs.Ytlnknihjccdgkaa.M
