/- The walks of the message functions that the print does not take. -/
import Derived.Test.YtlnknihjccdgkaaM0
namespace Go.Proofs.Ytlnknihjccdgkaa.M
open Go.RowKit Go.Proofs.YtlnknihjccdgkaaW.PrintWords Go.Proofs.YtlnknihjccdgkaaW.PrintLast Go.Proofs.YtlnknihjccdgkaaW.PrintMore Go.Proofs.Ytlnknihjccdgkaa.PFnMessage
set_option linter.unusedVariables false
set_option linter.unusedSimpArgs false

/-- A value that reads as these bytes. -/
def RdB (w : World) (v : Value) (l : List Int) : Prop := ∃ A c, v = .slice A l.length c ∧ l.length ≤ c ∧ Kd.C (Kd.int .u8) w A l.length l
theorem RdB.below {w w1 : World} {v : Value} {l : List Int} (h : RdB w v l) (hb : Below w.heap.size w w1) : RdB w1 v l := by
  obtain ⟨A, c, e, hl, hc⟩ := h
  exact ⟨A, c, e, hl, Kd.C_below hc hb⟩
theorem RdB.of_R {w : World} {base : Nat} {e : Nat} {ok : Nat → Prop} {v : Value} {l : List Int} (h : Kd.R (Kd.int .u8) e w base ok v l) : RdB w v l := by
  obtain ⟨A, c, he, hl, hr⟩ := Kd.R_reads h
  exact ⟨A, c, he, hl, hr⟩

theorem bcell {W w1 : World} (hb : Below W.heap.size W w1) : (∀ b o, b < W.heap.size → w1.cell? ⟨b, o, none⟩ = W.cell? ⟨b, o, none⟩) ∧ (∀ b o, b < W.heap.size → w1.frozen? ⟨b, o, none⟩ = W.frozen? ⟨b, o, none⟩) :=
  ⟨fun b o h => hb.cell (p := ⟨b, o, none⟩) h, fun b o h => hb.frozen (p := ⟨b, o, none⟩) h⟩

theorem vhash0 (A : Option Addr) (c : Nat) (w : World) :
    Calls Try.prog 42 #[.slice A 0 c] w fun e w' => e = .returned .nilIface ∧ w' = w := by
  go_enter Try.func42, Try.ntmps42
  go_wp2
  go_ret
  exact ⟨rfl, rfl⟩
theorem vhash32 (A : Option Addr) (c : Nat) (w : World) :
    Calls Try.prog 42 #[.slice A 32 c] w fun e w' => e = .returned .nilIface ∧ w' = w := by
  go_enter Try.func42, Try.ntmps42
  go_wp2
  go_ret
  exact ⟨rfl, rfl⟩
theorem vhash (A : Option Addr) (n c : Nat) (w : World) (hn : n = 0 ∨ n = 32) :
    Calls Try.prog 42 #[.slice A n c] w fun e w' => e = .returned .nilIface ∧ w' = w := by
  rcases hn with rfl | rfl
  · exact vhash0 A c w
  · exact vhash32 A c w
theorem pshVB (x : Value) (A : Option Addr) (n c : Nat) (w : World) (hn : n = 0 ∨ n = 32) :
    Calls Try.prog 44 #[.agg #[x, .slice A n c]] w fun e w' => e = .returned .nilIface ∧ Below w.heap.size w w' := by
  go_enter Try.func44, Try.ntmps44
  go_wp2_with (go_at_call 42; refine (vhash _ _ _ _ hn).mono ?_; rintro e w' ⟨rfl, rfl⟩)
  go_ret
  exact ⟨rfl, (Below.refl _ _).alloc (Nat.le_refl _) _⟩
theorem bidVB (A : Option Addr) (n c : Nat) (x : Value) (A2 : Option Addr) (n2 c2 : Nat) (w : World) (hn : n = 0 ∨ n = 32) (hn2 : n2 = 0 ∨ n2 = 32) :
    Calls Try.prog 38 #[.agg #[.slice A n c, x, .slice A2 n2 c2]] w fun e w' => e = .returned .nilIface ∧ Below w.heap.size w w' := by
  have H := Aside0.mk hn
  have H2 := Aside0.mk hn2
  clear hn hn2
  go_enter Try.func38, Try.ntmps38
  go_wp2_with (first | (go_at_call 42; refine (vhash _ _ _ _ H.out).mono ?_; rintro e w' ⟨rfl, rfl⟩) | (go_at_call 44; refine (pshVB _ _ _ _ _ H2.out).mono ?_; rintro e w' ⟨rfl, hb⟩))
  go_ret
  exact ⟨rfl, below_step ((Below.refl _ _).alloc (Nat.le_refl _) _) hb⟩
theorem isNil0 (A : Option Addr) (c : Nat) (A2 : Option Addr) (c2 : Nat) (w : World) :
    Calls Try.prog 39 #[.agg #[.slice A 0 c, .int .u32 0, .slice A2 0 c2]] w fun e w' => e = .returned (.bool true) ∧ Below w.heap.size w w' := by
  go_enter Try.func39, Try.ntmps39
  go_wp2
  go_ret
  exact ⟨rfl, by repeat (first | exact Below.refl _ _ | apply below_alloc)⟩
theorem isNil32 (A : Option Addr) (c : Nat) (x : Value) (A2 : Option Addr) (n2 c2 : Nat) (w : World) :
    Calls Try.prog 39 #[.agg #[.slice A 32 c, x, .slice A2 n2 c2]] w fun e w' => e = .returned (.bool false) ∧ Below w.heap.size w w' := by
  go_enter Try.func39, Try.ntmps39
  go_wp2
  go_ret
  exact ⟨rfl, by repeat (first | exact Below.refl _ _ | apply below_alloc)⟩
theorem cpsh (x : Int) (A : Option Addr) (n c : Nat) (w : World) :
    Calls Try.prog 40 #[.agg #[.int .u32 x, .slice A n c]] w fun e w' => e = .returned (.agg #[.int .u32 x, .slice A n c]) ∧ Below w.heap.size w w' := by
  go_enter Try.func40, Try.ntmps40
  go_wp2
  refine bodyPost_ret (v := .agg #[.int .u32 x, .slice A n c]) (by simp [results, Try.results40, go_sem]) rfl ⟨rfl, ?_⟩
  repeat (first | exact Below.refl _ _ | apply below_alloc)
theorem cbid0 (A : Option Addr) (c : Nat) (A2 : Option Addr) (c2 : Nat) (w : World) :
    Calls Try.prog 29 #[.agg #[.slice A 0 c, .int .u32 0, .slice A2 0 c2]] w fun e w' => e = .returned (.pointer none) ∧ Below w.heap.size w w' := by
  go_enter Try.func29, Try.ntmps29
  go_wp2_with (first | (go_at_call 38; refine (bidVB _ _ _ _ _ _ _ _ (.inl rfl) (.inl rfl)).mono ?_; rintro e w1 ⟨rfl, hb⟩; obtain ⟨hc, hf⟩ := bcell hb) | (go_at_call 39; refine (isNil0 _ _ _ _ _).mono ?_; rintro e w2 ⟨rfl, hb2⟩))
  go_ret
  exact ⟨rfl, below_step (below_step ((Below.refl _ _).alloc (Nat.le_refl _) _) hb) hb2⟩
theorem blk3 {w : World} {g : Nat} {x y z : Value} {ty : TypeId} (h : w.heap[g]? = some (.cells #[x, y, z] ty (0, 0))) :
    w.cell? ⟨g, 0, none⟩ = some x ∧ w.cell? ⟨g, 1, none⟩ = some y ∧ w.cell? ⟨g, 2, none⟩ = some z := ⟨blk_cell h 0, blk_cell h 1, blk_cell h 2⟩
theorem cbid32 (A : Option Addr) (c : Nat) (p : Int) (A2 : Option Addr) (c2 : Nat) (w : World) :
    Calls Try.prog 29 #[.agg #[.slice A 32 c, .int .u32 p, .slice A2 32 c2]] w fun e w' => ∃ g, e = .returned (.pointer (some ⟨g, 0, none⟩)) ∧ Below w.heap.size w w' ∧ w'.heap[g]? = some (.cells #[.slice A 32 c, .int .u32 p, .slice A2 32 c2] 90 (0, 0)) := by
  go_enter Try.func29, Try.ntmps29
  go_wp2_with (first | (go_at_call 38; refine (bidVB _ _ _ _ _ _ _ _ (.inr rfl) (.inr rfl)).mono ?_; rintro e w1 ⟨rfl, hb⟩; obtain ⟨hc, hf⟩ := bcell hb) | (go_at_call 39; refine (isNil32 _ _ _ _ _ _ _).mono ?_; rintro e w2 ⟨rfl, hb2⟩))
  obtain ⟨h0, h1, h2⟩ := blk3 (blk_below (blk_below (heap_alloc_new w _) hb) hb2)
  have HB := Aside0.mk (below_step (below_step ((Below.refl _ _).alloc (Nat.le_refl _) _) hb) hb2)
  clear hc hf hb hb2
  go_region_held3 (fun w' => w'.cell? ⟨w.heap.size, 0, none⟩ = some (.slice A 32 c) ∧ w'.cell? ⟨w.heap.size, 1, none⟩ = some (.int .u32 p) ∧ w'.cell? ⟨w.heap.size, 2, none⟩ = some (.slice A2 32 c2)) (go_keep)
    (first | (go_at_call 40; refine (cpsh _ _ _ _ _).mono ?_; rintro e w3 ⟨rfl, hb3⟩; have k0 := pw_cell_below hb3 (a := ⟨w.heap.size, 0, none⟩) (v := .slice A 32 c) (by assumption); have k1 := pw_cell_below hb3 (a := ⟨w.heap.size, 1, none⟩) (v := .int .u32 p) (by assumption); have k2 := pw_cell_below hb3 (a := ⟨w.heap.size, 2, none⟩) (v := .slice A2 32 c2) (by assumption)))
  go_wp2
  go_ret
  exact ⟨_, rfl, below_alloc (below_step (below_drew HB.out) hb3) _, heap_alloc_new _ _⟩

/-- The cells of a vote of the package: its block. -/
def voteCells (kind height round : Int) (A : Option Addr) (n c : Nat) (parts : Int) (A2 : Option Addr) (n2 c2 : Nat) (s ns : Int) (va : Value) (pl : Int) (sg : Value) (x1 x2 : Value) : Array Value :=
  #[.int .i32 kind, .int .i64 height, .int .i32 round, .slice A n c, .int .u32 parts, .slice A2 n2 c2, .int .i64 s, .int .i32 ns, va, .int .i32 pl, sg, x1, x2]
/-- What a block's identity is as it is signed. -/
def CanId (w : World) (A : Option Addr) (n c : Nat) (parts : Int) (A2 : Option Addr) (n2 c2 : Nat) (id : Option Addr) : Prop :=
  (id = none ∧ n = 0 ∧ parts = 0 ∧ n2 = 0) ∨ ∃ g, id = some ⟨g, 0, none⟩ ∧ n = 32 ∧ n2 = 32 ∧ w.heap[g]? = some (.cells #[.slice A n c, .int .u32 parts, .slice A2 n2 c2] 90 (0, 0))
theorem CanId.below {w w1 : World} {A : Option Addr} {n c : Nat} {parts : Int} {A2 : Option Addr} {n2 c2 : Nat} {id : Option Addr} (h : CanId w A n c parts A2 n2 c2 id) (hb : Below w.heap.size w w1) : CanId w1 A n c parts A2 n2 c2 id := by
  rcases h with h | ⟨g, h1, h2, h3, h4⟩
  · exact .inl h
  · exact .inr ⟨g, h1, h2, h3, blk_below h4 hb⟩
/-- None, or a whole one. -/
def OkId (n : Nat) (parts : Int) (n2 : Nat) : Prop := (n = 0 ∧ parts = 0 ∧ n2 = 0) ∨ (n = 32 ∧ n2 = 32)
def CanPost (w : World) (A : Option Addr) (n c : Nat) (parts : Int) (A2 : Option Addr) (n2 c2 : Nat) (e : Ending) (w' : World) : Prop :=
  ∃ id, e = .returned (.pointer id) ∧ Below w.heap.size w w' ∧ CanId w' A n c parts A2 n2 c2 id
theorem cbid (A : Option Addr) (n c : Nat) (p : Int) (A2 : Option Addr) (n2 c2 : Nat) (w : World) (h : OkId n p n2) :
    Calls Try.prog 29 #[.agg #[.slice A n c, .int .u32 p, .slice A2 n2 c2]] w (CanPost w A n c p A2 n2 c2) := by
  rcases h with ⟨rfl, rfl, rfl⟩ | ⟨rfl, rfl⟩
  · exact (cbid0 A c A2 c2 w).mono fun e w' ⟨he, hb⟩ => ⟨_, he, hb, .inl ⟨rfl, rfl, rfl, rfl⟩⟩
  · exact (cbid32 A c p A2 c2 w).mono fun e w' ⟨g, he, hb, hg⟩ => ⟨_, he, hb, .inr ⟨g, rfl, rfl, rfl, hg⟩⟩
def CvPost (w : World) (chain : ByteArray) (kind height round : Int) (A : Option Addr) (n c : Nat) (parts : Int) (A2 : Option Addr) (n2 c2 : Nat) (s ns : Int) (e : Ending) (w' : World) : Prop :=
  ∃ id, e = .returned (.agg #[.int .i32 kind, .int .i64 height, .int .i64 round, .pointer id, .int .i64 s, .int .i32 ns, .string chain]) ∧ Below w.heap.size w w' ∧ CanId w' A n c parts A2 n2 c2 id
theorem undrew {B : Nat} {w w3 : World} (h : Below B w.drew w3) : Below B w w3 := ⟨h.os, h.tape, h.output, h.size, h.block⟩
set_option maxHeartbeats 8000000 in
set_option maxRecDepth 100000 in
theorem cvote (chain : ByteArray) (g : Nat) (kind height round : Int) (A : Option Addr) (n c : Nat) (parts : Int) (A2 : Option Addr) (n2 c2 : Nat) (s ns : Int) (va : Value) (pl : Int) (sg x1 x2 : Value) (w : World)
    (hr : -2147483648 ≤ round ∧ round < 2147483648) (h : OkId n parts n2) (hg : w.heap[g]? = some (.cells (voteCells kind height round A n c parts A2 n2 c2 s ns va pl sg x1 x2) 73 (0, 0))) :
    Calls Try.prog 24 #[.string chain, .pointer (some ⟨g, 0, none⟩)] w (CvPost w chain kind height round A n c parts A2 n2 c2 s ns) := by
  obtain ⟨hr1, hr2⟩ := hr
  have HG := Aside0.mk hg
  have HH := Aside0.mk h
  clear hg h
  go_enter Try.func24, Try.ntmps24
  go_wp2
  have HO := Aside0.mk (heap_alloc_new w (.cells #[.int .i32 0, .int .i64 0, .int .i64 0, .pointer none, .int .i64 0, .int .i32 0, .string ⟨#[]⟩] 63))
  have HB := Aside0.mk ((Below.refl w.heap.size w).alloc (Nat.le_refl _) (.cells #[.int .i32 0, .int .i64 0, .int .i64 0, .pointer none, .int .i64 0, .int .i32 0, .string ⟨#[]⟩] 63))
  generalize w.alloc (.cells #[.int .i32 0, .int .i64 0, .int .i64 0, .pointer none, .int .i64 0, .int .i32 0, .string ⟨#[]⟩] 63) = w1 at HO HB ⊢
  obtain ⟨W, hW⟩ : ∃ W, W = w.heap.size := ⟨_, rfl⟩
  have HG1 := Aside0.mk (blk_below HG.out HB.out)
  have h0 : w1.cell? ⟨g, 0, none⟩ = some (.int .i32 kind) := blk_cell HG1.out 0
  have h1 : w1.cell? ⟨g, 1, none⟩ = some (.int .i64 height) := blk_cell HG1.out 1
  have h2 : w1.cell? ⟨g, 2, none⟩ = some (.int .i32 round) := blk_cell HG1.out 2
  have h3 : w1.cell? ⟨g, 3, none⟩ = some (.slice A n c) := blk_cell HG1.out 3
  have h4 : w1.cell? ⟨g, 4, none⟩ = some (.int .u32 parts) := blk_cell HG1.out 4
  have h5 : w1.cell? ⟨g, 5, none⟩ = some (.slice A2 n2 c2) := blk_cell HG1.out 5
  have h6 : w1.cell? ⟨g, 6, none⟩ = some (.int .i64 s) := blk_cell HG1.out 6
  have h7 : w1.cell? ⟨g, 7, none⟩ = some (.int .i32 ns) := blk_cell HG1.out 7
  have hne : w.heap.size ≠ g := by have := blk_lt HG.out; omega
  have hrw : IntKind.i64.wrap round = round := by rw [IntKind.wrap_i64]; omega
  go_region_held3 (fun w' => w'.cell? ⟨g, 0, none⟩ = some (.int .i32 kind) ∧ w'.cell? ⟨g, 1, none⟩ = some (.int .i64 height) ∧ w'.cell? ⟨g, 2, none⟩ = some (.int .i32 round) ∧ w'.cell? ⟨g, 3, none⟩ = some (.slice A n c) ∧ w'.cell? ⟨g, 4, none⟩ = some (.int .u32 parts) ∧ w'.cell? ⟨g, 5, none⟩ = some (.slice A2 n2 c2) ∧ w'.cell? ⟨g, 6, none⟩ = some (.int .i64 s) ∧ w'.cell? ⟨g, 7, none⟩ = some (.int .i32 ns)) (go_keep)
    (first | (go_at_call 29; refine (cbid _ _ _ _ _ _ _ _ HH.out).mono ?_; rintro e w3 ⟨id, rfl, hb3, hid⟩; have HB3 := Aside0.mk (undrew hb3); have HID := Aside0.mk hid; clear hb3 hid; have HG3 := Aside0.mk (blk_below HG1.out HB3.out); have HO3 := Aside0.mk (blk_below HO.out HB3.out); have k0 : w3.cell? ⟨g, 0, none⟩ = some (.int .i32 kind) := blk_cell HG3.out 0; have k1 : w3.cell? ⟨g, 1, none⟩ = some (.int .i64 height) := blk_cell HG3.out 1; have k2 : w3.cell? ⟨g, 2, none⟩ = some (.int .i32 round) := blk_cell HG3.out 2; have k3 : w3.cell? ⟨g, 3, none⟩ = some (.slice A n c) := blk_cell HG3.out 3; have k4 : w3.cell? ⟨g, 4, none⟩ = some (.int .u32 parts) := blk_cell HG3.out 4; have k5 : w3.cell? ⟨g, 5, none⟩ = some (.slice A2 n2 c2) := blk_cell HG3.out 5; have k6 : w3.cell? ⟨g, 6, none⟩ = some (.int .i64 s) := blk_cell HG3.out 6; have k7 : w3.cell? ⟨g, 7, none⟩ = some (.int .i32 ns) := blk_cell HG3.out 7; have o0 : w3.cell? ⟨w.heap.size, 0, none⟩ = some (.int .i32 0) := blk_cell HO3.out 0; have o1 : w3.cell? ⟨w.heap.size, 1, none⟩ = some (.int .i64 0) := blk_cell HO3.out 1; have o2 : w3.cell? ⟨w.heap.size, 2, none⟩ = some (.int .i64 0) := blk_cell HO3.out 2; have o3 : w3.cell? ⟨w.heap.size, 3, none⟩ = some (.pointer none) := blk_cell HO3.out 3; have o4 : w3.cell? ⟨w.heap.size, 4, none⟩ = some (.int .i64 0) := blk_cell HO3.out 4; have o5 : w3.cell? ⟨w.heap.size, 5, none⟩ = some (.int .i32 0) := blk_cell HO3.out 5; have o6 : w3.cell? ⟨w.heap.size, 6, none⟩ = some (.string ⟨#[]⟩) := blk_cell HO3.out 6; have q : ∀ i, w3.frozen? ⟨w.heap.size, i, none⟩ = false := fun i => blk_frozen HO3.out i))
  go_wp2
  have HF := Aside0.mk (blk_put (cs' := #[.int .i32 kind, .int .i64 height, .int .i64 round, .pointer id, .int .i64 s, .int .i32 ns, .string chain]) (blk_put (blk_put (blk_put (blk_put (blk_put (blk_put HO3.out 0 (.int .i32 kind) rfl) 1 (.int .i64 height) rfl) 2 (.int .i64 round) rfl) 3 (.pointer id) rfl) 4 (.int .i64 s) rfl) 5 (.int .i32 ns) rfl) 6 (.string chain) rfl)
  refine bodyPost_ret (results_cell_row rfl _ _ w.heap.size 63 _ (0, 0) _ rfl HF.out Try.underlying63 rfl (by kernel_rfl)) rfl ?_
  have HB4 := below_step HB.out HB3.out
  refine ⟨id, rfl, ?_, ?_⟩
  · with_reducible repeat (first | exact HB4 | refine below_set ?_ (Nat.le_refl _))
  · have hlt : ∀ q, q < w1.heap.size ∨ w1.heap.size ≤ q := fun q => Nat.lt_or_ge q _
    rcases HID.out with h | ⟨q, e1, e2, e3, e4⟩
    · exact .inl h
    · refine .inr ⟨q, e1, e2, e3, ?_⟩
      have hq : q ≠ w.heap.size := by
        rintro rfl
        rw [HO3.out] at e4
        injection e4 with e4
        injection e4 with _ e4
        exact absurd e4 (by decide)
      simp only [Below.heap_setCell _ _ _ _ (show q ≠ (⟨w.heap.size, 0, none⟩ : Addr).block from hq), Below.heap_setCell _ ⟨w.heap.size, 1, none⟩ _ _ hq, Below.heap_setCell _ ⟨w.heap.size, 2, none⟩ _ _ hq, Below.heap_setCell _ ⟨w.heap.size, 3, none⟩ _ _ hq, Below.heap_setCell _ ⟨w.heap.size, 4, none⟩ _ _ hq, Below.heap_setCell _ ⟨w.heap.size, 5, none⟩ _ _ hq, Below.heap_setCell _ ⟨w.heap.size, 6, none⟩ _ _ hq]
      exact e4
end Go.Proofs.Ytlnknihjccdgkaa.M
