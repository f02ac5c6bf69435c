/- The reference's SHA-256: its walk. -/
import Derived.Test.YtlnknihjccdgkaaM2
namespace Go.Proofs.Ytlnknihjccdgkaa.M
open Go.RowKit Go.Proofs.YtlnknihjccdgkaaW.PrintWords Go.Proofs.YtlnknihjccdgkaaW.PrintLast Go.Proofs.YtlnknihjccdgkaaW.PrintMore Go.Proofs.Ytlnknihjccdgkaa.PFnMessage
set_option linter.unusedVariables false
set_option linter.unusedSimpArgs false

/-- A turn to the right. -/
def tn (x k : Int) : Int := bits .or .u32 (x / 2 ^ k.toNat) (IntKind.u32.wrap (x * 2 ^ (32 - k).toNat))
theorem turn_c (x k : Int) (w : World) (h0 : 0 ≤ k) (h1 : k ≤ 32) :
    Calls Try.prog 23 #[.int .u32 x, .int .i64 k] w fun e w' => e = .returned (.int .u32 (tn x k)) ∧ Below w.heap.size w w' := by
  have hk : wrap64 (32 - k) = 32 - k := w64 _ (by omega) (by omega)
  have h2 : 0 ≤ 32 - k := by omega
  go_enter Try.func23, Try.ntmps23
  go_wp2
  refine start_ (n := 9) (S := fun w' => True) (ds := []) #[false, false, false, false, false, false, false, false, false] (by kernel_rfl) rfl rfl trivial (fun hHeld => ?_)
  refine pure_ (i := 0) (N := some 5) (v := ?_) (a' := ?_) #[true, false, false, false, false, false, false, false, false] rfl rfl (by kernel_rfl) (fun _ _ _ h => h) (Or.inl ⟨by rfl, ?_⟩) ?_ ?_
  rotate_left
  · intro w'
    go_simp
    with_reducible rfl
  rotate_left
  · simp only [Act.put, qA, q0, qS, i64_w, i32_w]
    rfl
  refine pure_ (i := 1) (N := some 6) (v := ?_) (a' := ?_) #[true, true, false, false, false, false, false, false, false] rfl rfl (by kernel_rfl) (fun _ _ _ h => h) (Or.inl ⟨by rfl, ?_⟩) ?_ ?_
  rotate_left
  · intro w'
    go_simp
    with_reducible rfl
  rotate_left
  · simp only [Act.put, qA, q0, qS, i64_w, i32_w]
    rfl
  refine pure_ (i := 2) (N := some 7) (v := ?_) (a' := ?_) #[true, true, true, false, false, false, false, false, false] rfl rfl (by kernel_rfl) (fun _ _ _ h => h) (Or.inl ⟨by rfl, ?_⟩) ?_ ?_
  rotate_left
  · intro w'
    go_simp
    with_reducible rfl
  rotate_left
  · simp only [Act.put, qA, q0, qS, i64_w, i32_w]
    rfl
  refine pure_ (i := 3) (N := some 8) (v := ?_) (a' := ?_) #[true, true, true, true, false, false, false, false, false] rfl rfl (by kernel_rfl) (fun _ _ _ h => h) (Or.inl ⟨by rfl, ?_⟩) ?_ ?_
  rotate_left
  · intro w'
    go_simp
    with_reducible rfl
  rotate_left
  · simp only [Act.put, qA, q0, qS, i64_w, i32_w]
    rfl
  refine pure_ (i := 4) (N := some 9) (v := ?_) (a' := ?_) #[true, true, true, true, true, false, false, false, false] rfl rfl (by kernel_rfl) (fun _ _ _ h => h) (Or.inl ⟨by rfl, ?_⟩) ?_ ?_
  rotate_left
  · intro w'
    go_simp
    with_reducible rfl
  rotate_left
  · simp only [Act.put, qA, q0, qS, i64_w, i32_w]
    rfl
  refine pure_ (i := 5) (N := some 10) (v := ?_) (a' := ?_) #[true, true, true, true, true, true, false, false, false] rfl rfl (by kernel_rfl) (fun _ _ _ h => h) (Or.inl ⟨by rfl, ?_⟩) ?_ ?_
  rotate_left
  · intro w'
    go_simp
    with_reducible rfl
  rotate_left
  · simp only [Act.put, qA, q0, qS, i64_w, i32_w]
    rfl
  refine pure_ (i := 6) (N := some 11) (v := ?_) (a' := ?_) #[true, true, true, true, true, true, true, false, false] rfl rfl (by kernel_rfl) (fun _ _ _ h => h) (Or.inl ⟨by rfl, ?_⟩) ?_ ?_
  rotate_left
  · intro w'
    go_simp
    with_reducible rfl
  rotate_left
  · simp only [Act.put, qA, q0, qS, i64_w, i32_w]
    rfl
  refine pure_ (i := 7) (N := some 12) (v := ?_) (a' := ?_) #[true, true, true, true, true, true, true, true, false] rfl rfl (by kernel_rfl) (fun _ _ _ h => h) (Or.inl ⟨by rfl, ?_⟩) ?_ ?_
  rotate_left
  · intro w'
    go_simp
    with_reducible rfl
  rotate_left
  · simp only [Act.put, qA, q0, qS, i64_w, i32_w]
    rfl
  refine pure_ (i := 8) (N := some 4) (v := ?_) (a' := ?_) #[true, true, true, true, true, true, true, true, true] rfl rfl (by kernel_rfl) (fun _ _ _ h => h) (Or.inl ⟨by rfl, ?_⟩) ?_ ?_
  rotate_left
  · intro w'
    go_simp
    with_reducible rfl
  rotate_left
  · simp only [Act.put, qA, q0, qS, i64_w, i32_w]
    rfl
  refine done_ (by kernel_rfl) ?_
  go_wp2
  go_ret
  exact ⟨rfl, below_drew (Below.refl _ _)⟩
def beginL : List Int := [1779033703, 3144134277, 1013904242, 2773480762, 1359893119, 2600822924, 528734635, 1541459225]
set_option maxRecDepth 1000000 in
theorem begin_c (w : World) : Calls Try.prog 21 #[] w fun e w' => e = .returned (.agg (nums .u32 beginL).toArray) ∧ Below w.heap.size w w' := by
  go_enter Try.func21, Try.ntmps21
  go_wp2
  refine bodyPost_ret (v := .agg (nums .u32 beginL).toArray) (by simp [results, Try.results21, go_sem, nums, beginL]) rfl ⟨rfl, ?_⟩
  with_reducible repeat (first | exact Below.refl _ _ | apply below_alloc)
def roundsL : List Int := [1116352408, 1899447441, 3049323471, 3921009573, 961987163, 1508970993, 2453635748, 2870763221, 3624381080, 310598401, 607225278, 1426881987, 1925078388, 2162078206, 2614888103, 3248222580, 3835390401, 4022224774, 264347078, 604807628, 770255983, 1249150122, 1555081692, 1996064986, 2554220882, 2821834349, 2952996808, 3210313671, 3336571891, 3584528711, 113926993, 338241895, 666307205, 773529912, 1294757372, 1396182291, 1695183700, 1986661051, 2177026350, 2456956037, 2730485921, 2820302411, 3259730800, 3345764771, 3516065817, 3600352804, 4094571909, 275423344, 430227734, 506948616, 659060556, 883997877, 958139571, 1322822218, 1537002063, 1747873779, 1955562222, 2024104815, 2227730452, 2361852424, 2428436474, 2756734187, 3204031479, 3329325298]
section
variable {P : Program} {ops : Array Oper} {rest : List Oper} {o : Oper} {a : Act} {Q : Exit → Act → World → Prop}
theorem wpList_buildC {w : World} (hg : o.guard = none) (t : TypeId) (parts : Array (Nat × Operand)) (ho : o.op = .build t parts) (C : Array Value)
    (hC : P.built t (parts.map fun (i, x) => (i, a.eval x)).toList = some C) (h : wpList P ops Q rest (a.put o.dst (.agg C)) w) : wpList P ops Q (o :: rest) a w :=
  wpList_build hg t parts ho (by rw [hC]; rfl) (by rw [hC]; exact h)
/-- A whole array stored over a block: the block is the array. -/
theorem store_row_event {w : World} (hgd : o.guard = none) (ty : TypeId) (x y : Operand) (ho : o.op = .store ty x y) (hN : o.dst = none)
    (g : Nat) (cells : Array Value) (hx : a.eval x = .pointer (some ⟨g, 0, none⟩)) (hy : a.eval y = .agg cells)
    (t : TypeId) (old : Array Value) (hg : w.heap[g]? = some (.cells old t (0, 0))) (hi : (P.info? ty).map (·.size) = some cells.size)
    (hold : old.size = cells.size) (h1 : cells.all (·.oneCell') = true)
    (h : ∀ w', w'.heap[g]? = some (.cells cells t (0, 0)) → KeepBut w w' g none → Below g w w' → wpList P ops Q rest a w') : wpList P ops Q (o :: rest) a w := by
  refine wpList_store_row hgd ty x y ho g cells hx hy t old hg hi hold h1 ?_
  rw [hN]
  refine h _ (setRow_heap w g old cells t (0, 0) hg) ⟨by simp [World.setRow], fun i hi hne _ => by simp [World.setRow, Array.getElem?_modify]; intro e; exact absurd e.symm hne⟩ ⟨rfl, rfl, rfl, by simp [World.setRow], fun k hk => by simp [World.setRow, Array.getElem?_modify]; intro e; omega⟩
end
theorem nums_one (k : IntKind) (l : List Int) : (nums k l).toArray.all (·.oneCell') = true := by
  rw [Array.all_eq_true_iff_forall_mem]
  intro v hv
  simp [nums] at hv
  obtain ⟨x, _, rfl⟩ := hv
  rfl
set_option maxHeartbeats 8000000 in
set_option maxRecDepth 1000000 in
theorem rounds_c (w : World) : Calls Try.prog 22 #[] w fun e w' => e = .returned (.agg (nums .u32 roundsL).toArray) ∧ Below w.heap.size w w' := by
  go_enter Try.func22, Try.ntmps22
  go_wp2_with (first | ((with_reducible refine gate_dst (N := 0) rfl ?_); refine box_event rfl (N := 0) rfl (cs := (nums .u32 (List.replicate 64 0)).toArray) (t := 53) (by kernel_rfl) ?_; intro g hg w1 hbox hb; have HG := Aside0.mk hg; have HK := Aside0.mk hbox; have HB := Aside0.mk hb; clear hg hbox hb) | (refine wpList_buildC rfl 53 _ rfl (nums .u32 roundsL).toArray (by kernel_rfl) ?_) | (refine store_row_event rfl 53 (.tmp 0) (.tmp 1) rfl rfl g (nums .u32 roundsL).toArray rfl rfl 53 _ HK.out (by kernel_rfl) rfl (nums_one _ _) ?_; intro w2 h2 hk2 hb2; have HK2 := Aside0.mk h2; have HB2 := Aside0.mk hb2; clear h2 hk2 hb2))
  refine bodyPost_ret (results_cell_row rfl _ _ g 53 _ (0, 0) _ rfl HK2.out Try.underlying53 rfl (by kernel_rfl)) rfl ⟨rfl, ?_⟩
  exact HB.out.trans (HB2.out.mono (by rw [HG.out]; exact Nat.le_refl _))
theorem below_row {w w1 w2 w3 : World} {g : Nat} (h1 : Below w.heap.size w w1) (hg : g = w1.heap.size) (h2 : Below w1.heap.size w1 w2) (h3 : Below g w2 w3) : Below w.heap.size w w3 :=
  h1.trans ((h2.mono h1.size).trans (h3.mono (by rw [hg]; exact h1.size)))
/-- Blocks of other types stay as they are. -/
def Others (ty : Nat) (W w1 : World) : Prop := ∀ (g : Nat) (cs : Array Value) (t : Nat), t ≠ ty → W.heap[g]? = some (.cells cs t (0, 0)) → w1.heap[g]? = some (.cells cs t (0, 0))
theorem others_grown {α : Type} {d : Kd α} {e base : Nat} {ok : Nat → Prop} {W w1 : World} {v : Value} {xs : List α} (h : d.R e W base ok v xs) (hg : W.grownBy w1 v.ownBlock) : Others e W w1 :=
  fun g cs t ht hb => (hg.block g (blk_lt hb) (fun e' => Kd.R_ne h hb (fun e'' => ht e''.symm) e')).trans hb
section
variable {ops : Array Oper} {rest : List Oper} {o : Oper} {a : Act} {Q : Exit → Act → World → Prop}
theorem own_append1 {w0 W : World} (hgd : o.guard = none) (s x : Operand) (ho : o.op = .call { callee := .builtin .append, args := #[s, x], argTypes := #[25, 25] })
    (v : Value) (xs : List Int) (y : Int) (hs : a.eval s = v) (hx : a.eval x = .slice (some ⟨W.heap.size, 0, none⟩) 1 1) (HO : Own w0 W v xs) (hl : xs.length + 1 ≤ 140737488355328)
    (h : ∀ v1 w1, Own w0 w1 v1 (xs ++ [y]) → Others 5 W w1 → wpList Try.prog ops Q rest (a.put o.dst v1) w1) : wpList Try.prog ops Q (o :: rest) a (W.alloc (.cells #[.int .u8 y] 5)) :=
  Kd.R_append (Kd.int .u8) (w0 := w0) w0.heap.size hgd s x 25 5 (.int .u8 0) 1 ho Try.underlying25 info5 rfl (by decide) (by omega) v xs y [.int .u8 y] (fun k => w0.heap.size ≤ k) (fun _ => False) hs hx rfl (fun _ h => h.elim)
    (fun k h => Nat.le_trans HO.below.size h) HO.row HO.below HO.below.size (by omega) fun v1 w1 h1 h2 h3 _ => h v1 w1 ⟨h1, h2⟩ (others_grown HO.row h3)
theorem own_appendN {w0 W : World} (hgd : o.guard = none) (s x : Operand) (ho : o.op = .call { callee := .builtin .append, args := #[s, x], argTypes := #[25, 25] })
    (v u : Value) (xs ys : List Int) (hs : a.eval s = v) (hx : a.eval x = u) (HO : Own w0 W v xs) (HU : RdB W u ys) (hl : xs.length + ys.length ≤ 140737488355328)
    (h : ∀ v1 w1, Own w0 w1 v1 (xs ++ ys) → Others 5 W w1 → wpList Try.prog ops Q rest (a.put o.dst v1) w1) : wpList Try.prog ops Q (o :: rest) a W := by
  obtain ⟨A, c, rfl, hc, hr⟩ := HU
  exact Kd.R_append_rows (Kd.int .u8) (w0 := w0) w0.heap.size hgd s x 25 5 (.int .u8 0) 1 ho Try.underlying25 info5 rfl (by decide) (by omega) v xs ys A _ c (fun k => w0.heap.size ≤ k) (fun _ => False) hs hx HO.row hr (fun _ _ h => h) (fun _ h => h.elim)
    (fun k h => Nat.le_trans HO.below.size h) HO.below HO.below.size (by omega) fun v1 w1 h1 h2 h3 _ => h v1 w1 ⟨h1, h2⟩ (others_grown HO.row h3)
end
theorem Own.drewn {w0 w : World} {v : Value} {l : List Int} (h : Own w0 w v l) : ∃ A c, v = .slice A l.length c ∧ l.length ≤ c := by
  obtain ⟨A, c, e, hl, _⟩ := h.rdB
  exact ⟨A, c, e, hl⟩
theorem own_set {w W : World} {v : Value} {xs : List Int} {g t j : Nat} {cs : Array Value} {u : Value} (h : Own w W v xs) (hb : W.heap[g]? = some (.cells cs t (0, 0))) (ht : 5 ≠ t) (hg : w.heap.size ≤ g) : Own w (W.setCell ⟨g, j, none⟩ u) v xs :=
  ⟨Kd.R_set h.row hb (by intro q hq; simp [Kd.int, Kd.scalar] at hq; subst hq; exact ht) j u, h.below.setCell hg _⟩
theorem blk_far {W : World} {g g' j : Nat} {o : Obj} {u : Value} (h : W.heap[g']? = some o) (hne : g' ≠ g) : (W.setCell ⟨g, j, none⟩ u).heap[g']? = some o := (Below.heap_setCell W ⟨g, j, none⟩ u g' hne).trans h
theorem nums_set (k : IntKind) (xs : List Int) (i : Nat) (x : Int) : (nums k xs).toArray.setIfInBounds i (.int k x) = (nums k (xs.set i x)).toArray := by simp [nums, List.map_set]
theorem nums_get {k : IntKind} {xs : List Int} {i : Nat} (h : i < xs.length) : (nums k xs).toArray[i]? = some (.int k (xs.getD i 0)) := by
  simp [nums, List.getElem?_eq_getElem h, List.getD_eq_getElem?_getD]
theorem blk_ne {W : World} {g g' t t' : Nat} {cs cs' : Array Value} (h : W.heap[g]? = some (.cells cs t (0, 0))) (h' : W.heap[g']? = some (.cells cs' t' (0, 0))) (ht : t ≠ t') : g ≠ g' := by
  rintro rfl
  rw [h] at h'
  injection h' with h'
  injection h' with _ h'
  exact ht h'

/-- The reference's memory while it sums: the message, the state, the constants, the words. -/
structure St (w W : World) (gh gk gw : Nat) (u : Value) (m hs ws : List Int) : Prop where
  own : Own w W u m
  kh : W.heap[gh]? = some (.cells (nums .u32 hs).toArray 51 (0, 0))
  kk : W.heap[gk]? = some (.cells (nums .u32 roundsL).toArray 53 (0, 0))
  kw : W.heap[gw]? = some (.cells (nums .u32 ws).toArray 53 (0, 0))
  gh0 : w.heap.size ≤ gh
  gw0 : w.heap.size ≤ gw
  ne : gk ≠ gw
theorem St.step {w W w1 : World} {gh gk gw : Nat} {u : Value} {m hs ws : List Int} (h : St w W gh gk gw u m hs ws) (hb : Below W.heap.size W w1) : St w w1 gh gk gw u m hs ws :=
  ⟨h.own.step hb, blk_below h.kh hb, blk_below h.kk hb, blk_below h.kw hb, h.gh0, h.gw0, h.ne⟩
theorem St.setW {w W : World} {gh gk gw : Nat} {u : Value} {m hs ws : List Int} (h : St w W gh gk gw u m hs ws) (i : Nat) (x : Int) : St w (W.setCell ⟨gw, i, none⟩ (.int .u32 x)) gh gk gw u m hs (ws.set i x) :=
  ⟨own_set h.own h.kw (by decide) h.gw0, blk_far h.kh (blk_ne h.kh h.kw (by decide)), blk_far h.kk h.ne, blk_put h.kw i _ (nums_set .u32 ws i x), h.gh0, h.gw0, h.ne⟩
theorem St.setH {w W : World} {gh gk gw : Nat} {u : Value} {m hs ws : List Int} (h : St w W gh gk gw u m hs ws) (i : Nat) (x : Int) : St w (W.setCell ⟨gh, i, none⟩ (.int .u32 x)) gh gk gw u m (hs.set i x) ws :=
  ⟨own_set h.own h.kh (by decide) h.gh0, blk_put h.kh i _ (nums_set .u32 hs i x), blk_far h.kk (blk_ne h.kk h.kh (by decide)), blk_far h.kw (blk_ne h.kw h.kh (by decide)), h.gh0, h.gw0, h.ne⟩
theorem St.w {w W : World} {gh gk gw : Nat} {u : Value} {m hs ws : List Int} (h : St w W gh gk gw u m hs ws) (i : Nat) (hi : i < ws.length) : W.cell? ⟨gw, i, none⟩ = some (.int .u32 (ws.getD i 0)) := (blk_cell h.kw i).trans (nums_get hi)
theorem St.h {w W : World} {gh gk gw : Nat} {u : Value} {m hs ws : List Int} (h : St w W gh gk gw u m hs ws) (i : Nat) (hi : i < hs.length) : W.cell? ⟨gh, i, none⟩ = some (.int .u32 (hs.getD i 0)) := (blk_cell h.kh i).trans (nums_get hi)
theorem St.k {w W : World} {gh gk gw : Nat} {u : Value} {m hs ws : List Int} (h : St w W gh gk gw u m hs ws) (i : Nat) (hi : i < 64) : W.cell? ⟨gk, i, none⟩ = some (.int .u32 (roundsL.getD i 0)) := (blk_cell h.kk i).trans (nums_get hi)
theorem St.m {w W : World} {gh gk gw gm n c : Nat} {m hs ws : List Int} (h : St w W gh gk gw (.slice (some ⟨gm, 0, none⟩) n c) m hs ws) (i : Nat) (hi : i < m.length) : W.cell? ⟨gm, i, none⟩ = some (.int .u8 (m.getD i 0)) := by
  have hn : n = m.length := (Kd.R_reads' h.own.row).1
  have := (Kd.R_celln (0 : Int) h.own.row (i : Int) (by omega) (by omega)).1
  simpa [rdOf] using this
theorem Own.form {w W : World} {v : Value} {l : List Int} (h : Own w W v l) (hl : 0 < l.length) : ∃ g c, v = .slice (some ⟨g, 0, none⟩) l.length c := by
  obtain ⟨inner, ho⟩ := Kd.R_own h.row
  obtain ⟨g, cap, e, _⟩ := ho.form hl
  exact ⟨g, cap, e⟩
theorem gat {T : Array Value} {i n : Nat} {v : Value} (hsz : T.size = n) (hi : i < n) (f : T[i]? = some v) : T[i]'(by omega) = v := by
  rw [Array.getElem?_eq_getElem (by omega)] at f
  exact Option.some.inj f
theorem gq_ne {T : Array Value} {d i : Nat} {v u : Value} (h : d ≠ i) (f : T[i]? = some u) : (T.setIfInBounds d v)[i]? = some u := by rw [Array.getElem?_setIfInBounds_ne h]; exact f
theorem gq_eq {T : Array Value} {i : Nat} {v : Value} (h : i < T.size) : (T.setIfInBounds i v)[i]? = some v := by simp [h]
theorem gev {T : Array Value} {d : List Deferred} {i : Nat} {v : Value} (f : T[i]? = some v) : (Act.mk T d).eval (.tmp i) = v := by simp [Act.eval, f]
section
variable {P : Program} {ops : Array Oper} {Q : Exit → Act → World → Prop} {md : Region.Mode} {S : World → Prop} {ds : List Nat}
theorem last_store {i : Nat} {oi : Oper} {fuel : Nat} {l : Array Bool} {a : Act} {w w1 : World} (l' : Array Bool) (hi : ops[i]? = some oi) (hN : oi.dst = none) (hc : readyB md ops l l' i = true) (hd : i ∈ ds)
    (hw : Region.wanted oi (yielded ops a.tmps) = true) (hrun : (execOp a.eval oi).run P w = .ok .skip w1) (h : wpAnyLast P md ops Q S ds fuel l' a w1) : wpAnyLast P md ops Q S ds (fuel + 1) l a w :=
  last_ l' hi hN hc hd (fun K hK => skip_ hw hN hrun (hK.out _ _ h))
theorem one_value {i : Nat} {N : Option Tmp} {oi : Oper} {v : Value} {fuel : Nat} {l : Array Bool} {a : Act} {w w1 : World} (l' : Array Bool) (hi : ops[i]? = some oi) (hN : oi.dst = N) (hc : readyB md ops l l' i = true) (hd : i ∉ ds)
    (hw : Region.wanted oi (yielded ops a.tmps) = true) (hrun : (execOp a.eval oi).run P w = .ok (.value v) w1) (hS : S w1) (h : wpAnyLast P md ops Q S ds fuel l' (a.put N v) w1) : wpAnyLast P md ops Q S ds (fuel + 1) l a w :=
  one_ l' hi hN hc hd (fun K hK => value_ hw hN hrun (hK.out _ _ hS (fun _ => h)))
theorem one_valueS {i : Nat} {N : Option Tmp} {oi : Oper} {v : Value} {fuel : Nat} {l : Array Bool} {a : Act} {w w1 : World} (l' : Array Bool) (hi : ops[i]? = some oi) (hN : oi.dst = N) (hc : readyB md ops l l' i = true) (hd : i ∉ ds)
    (hw : Region.wanted oi (yielded ops a.tmps) = true) (hrun : (execOp a.eval oi).run P w = .ok (.value v) w1) (h : S w1 ∧ wpAnyLast P md ops Q S ds fuel l' (a.put N v) w1) : wpAnyLast P md ops Q S ds (fuel + 1) l a w :=
  one_value l' hi hN hc hd hw hrun h.1 h.2
theorem one_call {i : Nat} {N : Option Tmp} {oi : Oper} {fuel : Nat} {l : Array Bool} {a : Act} {w : World} {f : FuncId} (l' : Array Bool) (hi : ops[i]? = some oi) (hN : oi.dst = N) (hc : readyB md ops l l' i = true) (hd : i ∉ ds)
    (hw : Region.wanted oi (yielded ops a.tmps) = true) (args : Array Value) (hrun : (execOp a.eval oi).run P w = .ok (.enter f args) w)
    (h : Calls P f args w fun e w' => ∃ v, e = .returned v ∧ S w' ∧ wpAnyLast P md ops Q S ds fuel l' (a.put N v) w') : wpAnyLast P md ops Q S ds (fuel + 1) l a w :=
  one_ l' hi hN hc hd (fun K hK => call_ f args hw hN hrun (h.mono fun e w' ⟨v, he, hS, hh⟩ => ⟨v, he, hK.out _ _ hS (fun _ => hh)⟩))
end
theorem and_held {p q : Prop} (hp : p) (h : p → q) : p ∧ q := ⟨hp, h hp⟩
/-- A post that speaks of the ordinary end alone. -/
def OnlyN (N : Act → World → Prop) : Exit → Act → World → Prop
  | .normal, a, w => N a w
  | _, _, _ => False
theorem hideQ {P : Program} {c : Code} {Q : Exit → Act → World → Prop} {a : Act} {w : World} (h : ∀ N : Act → World → Prop, (∀ a w, Q .normal a w → N a w) → Code.wp P c (OnlyN N) a w) : Code.wp P c Q a w :=
  wp_mono (h _ (fun _ _ h => h)) (fun e a w hq => by cases e <;> first | exact hq | exact (hq : False).elim)
/-- A part of a code: 0: the first of two, what a block or a loop holds; 1: the second of two. -/
def at_ : List Nat → Code → Code
  | [], c => c
  | 0 :: p, .seq a _ => at_ p a
  | _ :: p, .seq _ b => at_ p b
  | _ :: p, .block _ c => at_ p c
  | _ :: p, .loop c => at_ p c
  | _, c => c
theorem absG {R : Act → World → Prop} {tmps : Array Value} {d : List Deferred} {w : World} (h : ∀ T : Array Value, T = tmps → R ⟨T, d⟩ w) : R ⟨tmps, d⟩ w := h _ rfl
theorem absR {P : Program} {c : Code} {Q : Exit → Act → World → Prop} {tmps : Array Value} {d : List Deferred} {w : World} (h : ∀ T : Array Value, T = tmps → Code.wp P c Q ⟨T, d⟩ w) : Code.wp P c Q ⟨tmps, d⟩ w := h _ rfl
def slen : Value → Nat
  | .slice _ n _ => n
  | _ => 0
end Go.Proofs.Ytlnknihjccdgkaa.M
