/- A frame told by what is known of its slots; what changes from one world to the next; a region that draws its order, by what each operation leaves. -/
import Derived.Orders
import Derived.RegionTactic
import Derived.Below
import Derived.KernelRfl
import Derived.ProofKit
namespace Go.Proofs.Ytlnknihjccdgkaa.X
open Go.RowKit
set_option linter.unusedVariables false
set_option linter.unusedSimpArgs false

/-! ### the world's steps -/
/-- The kind of a block: its cells' type; a map; anything else. -/
def okind : Obj → Nat
  | .cells _ t _ => t
  | .map _ _ => 1000001
  | _ => 1000002
/-- From w to w1 only blocks of a kind in σ, from number base on, may have turned. -/
structure Mv (σ : List Nat) (base : Nat) (w w1 : World) : Prop where
  os : w1.os = w.os
  tape : w1.tape = w.tape
  output : w1.output = w.output
  size : w.heap.size ≤ w1.heap.size
  keep : ∀ b o, w.heap[b]? = some o → b < base ∨ σ.contains (okind o) = false → w1.heap[b]? = some o
theorem Mv.refl (σ : List Nat) (base : Nat) (w : World) : Mv σ base w w := ⟨rfl, rfl, rfl, Nat.le_refl _, fun _ _ h _ => h⟩
theorem Mv.trans {σ : List Nat} {base : Nat} {a b c : World} (h : Mv σ base a b) (k : Mv σ base b c) : Mv σ base a c :=
  ⟨k.os.trans h.os, k.tape.trans h.tape, k.output.trans h.output, Nat.le_trans h.size k.size, fun i o hi hc => k.keep i o (h.keep i o hi hc) hc⟩
/-- The kinds of σ all stand in τ. -/
def subB (σ τ : List Nat) : Bool := σ.all (fun x => τ.contains x)
theorem subB_not {σ τ : List Nat} (h : subB σ τ = true) {x : Nat} (hx : τ.contains x = false) : σ.contains x = false := by
  cases hc : σ.contains x with
  | false => rfl
  | true =>
    have h1 := List.all_eq_true.1 h x (by simpa using hc)
    rw [hx] at h1
    cases h1
theorem Mv.up {σ τ : List Nat} {base base1 : Nat} {a b : World} (h : Mv σ base a b) (hs : subB σ τ = true) (hb : base1 ≤ base) : Mv τ base1 a b :=
  ⟨h.os, h.tape, h.output, h.size, fun i o hi hc => h.keep i o hi (hc.elim (fun x => .inl (Nat.lt_of_lt_of_le x hb)) (fun x => .inr (subB_not hs x)))⟩
/-- One step more. -/
theorem Mv.step {σ τ : List Nat} {base base1 : Nat} {a b c : World} (h : Mv τ base1 a b) (k : Mv σ base b c) (hs : subB σ τ = true) (hb : base1 ≤ base) : Mv τ base1 a c := h.trans (k.up hs hb)
/-- A step that turns nothing that was there. -/
theorem Mv.step0 {τ : List Nat} {base1 : Nat} {a b c : World} (h : Mv τ base1 a b) (k : Below b.heap.size b c) : Mv τ base1 a c :=
  h.trans ⟨k.os, k.tape, k.output, k.size, fun i o hi _ => (k.block i (Array.getElem?_eq_some_iff.1 hi).1).trans hi⟩
theorem Mv.of_below {a b : World} (k : Below a.heap.size a b) (σ : List Nat) (base : Nat) : Mv σ base a b := (Mv.refl σ base a).step0 k
theorem Mv.below {σ : List Nat} {base : Nat} {a b : World} (h : Mv σ base a b) (hb : base ≤ a.heap.size) : Below base a b :=
  ⟨h.os, h.tape, h.output, h.size, fun k hk => by
    have hlt : k < a.heap.size := Nat.lt_of_lt_of_le hk hb
    rw [Array.getElem?_eq_getElem hlt]
    exact h.keep k _ (Array.getElem?_eq_getElem hlt) (.inl hk)⟩
theorem Mv.below0 {base : Nat} {a b : World} (h : Mv [] base a b) : Below a.heap.size a b :=
  ⟨h.os, h.tape, h.output, h.size, fun k hk => by
    rw [Array.getElem?_eq_getElem hk]
    exact h.keep k _ (Array.getElem?_eq_getElem hk) (.inr rfl)⟩
theorem mv_drew (σ : List Nat) (base : Nat) (w : World) : Mv σ base w w.drew := ⟨rfl, rfl, rfl, Nat.le_refl _, fun _ _ h _ => h⟩
theorem mv_alloc (σ : List Nat) (base : Nat) (w : World) (o : Obj) : Mv σ base w (w.alloc o) := Mv.of_below ((Below.refl _ _).alloc (Nat.le_refl _) o) σ base
theorem heap_new (w : World) (o : Obj) : (w.alloc o).heap[w.heap.size]? = some o := by
  show (w.heap.push o)[w.heap.size]? = _
  simp
theorem heap_lt {w : World} {g : Nat} {o : Obj} (h : w.heap[g]? = some o) : g < w.heap.size := (Array.getElem?_eq_some_iff.1 h).1
/-- A block over a step. -/
theorem Mv.blk {σ : List Nat} {base : Nat} {a b : World} (h : Mv σ base a b) {g t : Nat} {cs : Array Value} {fr : Nat × Nat} (hg : a.heap[g]? = some (.cells cs t fr)) (hc : σ.contains t = false) : b.heap[g]? = some (.cells cs t fr) := h.keep g _ hg (.inr hc)
theorem Mv.blkLt {σ : List Nat} {base : Nat} {a b : World} (h : Mv σ base a b) {g : Nat} {o : Obj} (hg : a.heap[g]? = some o) (hc : g < base) : b.heap[g]? = some o := h.keep g _ hg (.inl hc)
theorem Mv.obj {σ : List Nat} {base : Nat} {a b : World} (h : Mv σ base a b) {g : Nat} {o : Obj} (hg : a.heap[g]? = some o) (hc : σ.contains (okind o) = false) : b.heap[g]? = some o := h.keep g _ hg (.inr hc)
theorem cell_of {w : World} {g t i : Nat} {cs : Array Value} {fr : Nat × Nat} {v : Value} (h : w.heap[g]? = some (.cells cs t fr)) (hi : cs[i]? = some v) : w.cell? ⟨g, i, none⟩ = some v := by
  simp [World.cell?, h, hi]

/-! ### a frame by its slots -/
theorem nbeq {a b : Nat} (h : ¬ a = b) : Nat.beq a b = false := by
  cases hb : Nat.beq a b with
  | false => rfl
  | true => exact absurd (Nat.eq_of_beq_eq_true hb) h
def lk : List (Nat × Value) → Nat → Option Value
  | [], _ => none
  | (k, v) :: r, i => bif Nat.beq k i then some v else lk r i
def Env (T : Array Value) (n : Nat) (l : List (Nat × Value)) : Prop := T.size = n ∧ ∀ i v, lk l i = some v → T[i]? = some v
theorem Env.get {T : Array Value} {n : Nat} {l : List (Nat × Value)} (E : Env T n l) {i : Nat} {v : Value} (h : lk l i = some v) : T[i]? = some v := E.2 i v h
theorem Env.put {T : Array Value} {n : Nat} {l : List (Nat × Value)} (E : Env T n l) {d : Nat} (hd : Nat.blt d n = true) (v : Value) : Env (T.setIfInBounds d v) n ((d, v) :: l) := by
  have hd' : d < n := by simpa using hd
  refine ⟨by simp [E.1], fun i u h => ?_⟩
  by_cases e : d = i
  · subst e
    simp [lk] at h
    simp [E.1, hd', h]
  · have e1 : Nat.beq d i = false := nbeq e
    rw [lk, e1] at h
    rw [Array.getElem?_setIfInBounds_ne e]
    exact E.2 i u h
theorem Env.add {T : Array Value} {n : Nat} {l : List (Nat × Value)} (E : Env T n l) {d : Nat} {v : Value} (h : T[d]? = some v) : Env T n ((d, v) :: l) := by
  refine ⟨E.1, fun i u hi => ?_⟩
  by_cases e : d = i
  · subst e
    simp [lk] at hi
    rw [← hi]; exact h
  · have e1 : Nat.beq d i = false := nbeq e
    rw [lk, e1] at hi
    exact E.2 i u hi
/-- All of these slots read so. -/
def Lks (l : List (Nat × Value)) : List (Nat × Value) → Prop
  | [] => True
  | (k, v) :: r => lk l k = some v ∧ Lks l r
theorem Lks.spec {l : List (Nat × Value)} : ∀ {r : List (Nat × Value)}, Lks l r → ∀ i v, lk r i = some v → lk l i = some v
  | [], _, i, v, h => by cases h
  | (k, u) :: r, hl, i, v, h => by
    by_cases e : k = i
    · subst e
      simp [lk] at h
      rw [← h]; exact hl.1
    · have e1 : Nat.beq k i = false := nbeq e
      rw [lk, e1] at h
      exact Lks.spec hl.2 i v h
theorem Env.sub {T : Array Value} {n : Nat} {l r : List (Nat × Value)} (E : Env T n l) (h : Lks l r) : Env T n r := ⟨E.1, fun i v hi => E.2 i v (Lks.spec h i v hi)⟩
/-- The frame ahead of the first operation. -/
def lits : List Value → Nat → List (Nat × Value)
  | [], _ => []
  | v :: r, k => (k, v) :: lits r (k + 1)
theorem lk_lits : ∀ (l : List Value) (k i : Nat) (v : Value), lk (lits l k) i = some v → k ≤ i ∧ l[i - k]? = some v
  | [], _, _, _, h => by cases h
  | u :: r, k, i, v, h => by
    by_cases e : k = i
    · subst e
      simp [lits, lk] at h
      simp [h]
    · have e1 : Nat.beq k i = false := nbeq e
      rw [lits, lk, e1] at h
      obtain ⟨h1, h2⟩ := lk_lits r (k + 1) i v h
      refine ⟨by omega, ?_⟩
      rw [show i - k = (i - (k + 1)) + 1 from by omega, List.getElem?_cons_succ]
      exact h2
theorem Env.start {n : Nat} {l : List Value} (h : Nat.ble l.length n = true) : Env (l.toArray ++ Array.replicate (n - l.length) undef) n (lits l 0) := by
  have h' : l.length ≤ n := by simpa using h
  refine ⟨by simp; omega, fun i v hi => ?_⟩
  obtain ⟨_, h2⟩ := lk_lits l 0 i v hi
  have hlt : i < l.length := by
    have := (List.getElem?_eq_some_iff.1 h2).1
    simpa using this
  rw [Array.getElem?_append_left (by simpa using hlt)]
  simpa using h2
/-- An operand's value. -/
def ev (l : List (Nat × Value)) : Operand → Option Value
  | .tmp t => lk l t
  | .const v => some v
  | .global g => some (.pointer (some ⟨g, 0, none⟩))
  | .func f => some (.func (.func f) #[] #[])
theorem Env.ev {T : Array Value} {n : Nat} {l : List (Nat × Value)} (E : Env T n l) {x : Operand} {v : Value} (h : ev l x = some v) (ds : List Deferred) : (Act.mk T ds).eval x = v := by
  cases x with
  | tmp t =>
    have := E.get h
    simp [Act.eval, this]
  | const u => simpa [X.ev, Act.eval] using h
  | global g => simpa [X.ev, Act.eval] using h
  | func f => simpa [X.ev, Act.eval] using h

/-! ### one operation -/
section
variable {P : Program} {ops : Array Oper} {Q : Exit → Act → World → Prop}
/-- An operation's turn. -/
def Stp (P : Program) (ops : Array Oper) (Q : Exit → Act → World → Prop) (o : Oper) (a : Act) (w : World) (K : Act → World → Prop) : Prop :=
  if Region.wanted o (yielded ops a.tmps) then o.wp P a w K Q ∨ (o.asks P a w ∧ LetsOut Q) else K (a.put o.dst undef) w
/-- It yields a value, and a world, that are R. -/
def Ru (P : Program) (ops : Array Oper) (Q : Exit → Act → World → Prop) (o : Oper) (a : Act) (w : World) (R : Value → World → Prop) : Prop :=
  ∀ K : Act → World → Prop, (∀ v w1, R v w1 → K (a.put o.dst v) w1) → Stp P ops Q o a w K
theorem Ru.mono {o : Oper} {a : Act} {w : World} {R R1 : Value → World → Prop} (h : Ru P ops Q o a w R) (hr : ∀ v w1, R v w1 → R1 v w1) : Ru P ops Q o a w R1 :=
  fun K hK => h K (fun v w1 hv => hK v w1 (hr v w1 hv))
theorem Ru.list {o : Oper} {rest : List Oper} {a : Act} {w : World} {R : Value → World → Prop} (h : Ru P ops Q o a w R) (k : ∀ v w1, R v w1 → wpList P ops Q rest (a.put o.dst v) w1) : wpList P ops Q (o :: rest) a w := h _ k
theorem Ru.op {i : Nat} {o : Oper} {a : Act} {w : World} {K : Act → World → Prop} {R : Value → World → Prop} (ho : ops[i]? = some o) (h : Ru P ops Q o a w R) (k : ∀ v w1, R v w1 → K (a.put o.dst v) w1) : wpOp P ops Q i K a w := by
  have := h K k
  unfold wpOp
  rw [ho]
  exact this
/-- A step of its own, as the kit's tactics bring it. -/
theorem Ru.of {o : Oper} {a : Act} {w : World} {R : Value → World → Prop} (h : ∀ K : Act → World → Prop, (∀ v w1, R v w1 → K (a.put o.dst v) w1) → if Region.wanted o (yielded ops a.tmps) = true then Oper.wp P o a w K Q else K (a.put o.dst undef) w) : Ru P ops Q o a w R := fun K hK => by
  have := h K hK
  unfold Stp
  split
  · rename_i hw; rw [if_pos hw] at this; exact .inl this
  · rename_i hw; rw [if_neg hw] at this; exact this
/-- The value that an operation yields, and the world behind it. -/
def Dv (P : Program) (o : Oper) (a : Act) (w : World) (v : Value) (w1 : World) : Prop := (execOp a.eval o).run P w = .ok (.value v) w1
def Dk (P : Program) (o : Oper) (a : Act) (w : World) (w1 : World) : Prop := (execOp a.eval o).run P w = .ok .skip w1
theorem wanted_none {o : Oper} (h : o.guard = none) (y : Nat → Option Bool) : Region.wanted o y = true := by simp [Region.wanted, h]
theorem Ru.v {o : Oper} {a : Act} {w w1 : World} {v : Value} {R : Value → World → Prop} (h : Dv P o a w v w1) (hg : o.guard = none) (hR : R v w1) : Ru P ops Q o a w R := Ru.of fun K hK => by
  rw [if_pos (wanted_none hg _)]
  unfold Oper.wp
  rw [show (execOp a.eval o).run P w = _ from h]
  exact hK v w1 hR
theorem Ru.k {o : Oper} {a : Act} {w w1 : World} {R : Value → World → Prop} (h : Dk P o a w w1) (hg : o.guard = none) (hR : R undef w1) : Ru P ops Q o a w R := Ru.of fun K hK => by
  rw [if_pos (wanted_none hg _)]
  unfold Oper.wp
  rw [show (execOp a.eval o).run P w = _ from h]
  exact hK undef w1 hR
theorem seq_v {o : Oper} {rest : List Oper} {T : Array Value} {ds : List Deferred} {n d : Nat} {l : List (Nat × Value)} {w w1 : World} {v : Value} (E : Env T n l) (h : Dv P o ⟨T, ds⟩ w v w1) (hg : o.guard = none) (hd : o.dst = some d) (hn : Nat.blt d n = true)
    (k : ∀ T1, Env T1 n ((d, v) :: l) → wpList P ops Q rest ⟨T1, ds⟩ w1) : wpList P ops Q (o :: rest) ⟨T, ds⟩ w := by
  refine (Ru.v (R := fun u w2 => u = v ∧ w2 = w1) h hg ⟨rfl, rfl⟩).list ?_
  rintro u w2 ⟨rfl, rfl⟩
  rw [hd]
  exact k _ (E.put hn _)
theorem seq_k {o : Oper} {rest : List Oper} {a : Act} {w w1 : World} (h : Dk P o a w w1) (hg : o.guard = none) (hd : o.dst = none) (k : wpList P ops Q rest a w1) : wpList P ops Q (o :: rest) a w := by
  refine (Ru.k (R := fun _ w2 => w2 = w1) h hg rfl).list ?_
  rintro u w2 rfl
  rw [hd]
  exact k
theorem seq_r {o : Oper} {rest : List Oper} {T : Array Value} {ds : List Deferred} {n d : Nat} {l : List (Nat × Value)} {w : World} {R : Value → World → Prop} (E : Env T n l) (h : Ru P ops Q o ⟨T, ds⟩ w R) (hd : o.dst = some d) (hn : Nat.blt d n = true)
    (k : ∀ v w1, R v w1 → ∀ T1, Env T1 n ((d, v) :: l) → wpList P ops Q rest ⟨T1, ds⟩ w1) : wpList P ops Q (o :: rest) ⟨T, ds⟩ w := by
  refine h.list (fun v w1 hv => ?_)
  rw [hd]
  exact k v w1 hv _ (E.put hn _)
/-- A guard that is off: nothing is done. -/
theorem seq_off {o : Oper} {rest : List Oper} {T : Array Value} {ds : List Deferred} {n d j dj : Nat} {b : Bool} {l : List (Nat × Value)} {w : World} {oj : Oper} (E : Env T n l) (hg : o.guard = some (j, !b)) (hj : ops[j]? = some oj) (hdj : oj.dst = some dj) (hv : lk l dj = some (.bool b)) (hd : o.dst = some d) (hn : Nat.blt d n = true)
    (k : ∀ T1, Env T1 n ((d, undef) :: l) → wpList P ops Q rest ⟨T1, ds⟩ w) : wpList P ops Q (o :: rest) ⟨T, ds⟩ w := by
  have hy : Region.wanted o (yielded ops T) = false := by
    have h1 := E.get hv
    simp [Region.wanted, hg, yielded, hj, hdj, h1]
  unfold wpList
  rw [if_neg (by show ¬ (Region.wanted o (yielded ops T) = true); rw [hy]; simp), hd]
  exact k _ (E.put hn _)
theorem wanted_on {o oj : Oper} {T : Array Value} {n j dj : Nat} {b : Bool} {l : List (Nat × Value)} (E : Env T n l) (hg : o.guard = some (j, b)) (hj : ops[j]? = some oj) (hdj : oj.dst = some dj) (hv : lk l dj = some (.bool b)) : Region.wanted o (yielded ops T) = true := by
  have h1 := E.get hv
  simp [Region.wanted, hg, yielded, hj, hdj, h1]
theorem seq_von {o oj : Oper} {rest : List Oper} {T : Array Value} {ds : List Deferred} {n d j dj : Nat} {b : Bool} {l : List (Nat × Value)} {w w1 : World} {v : Value} (E : Env T n l) (h : Dv P o ⟨T, ds⟩ w v w1) (hg : o.guard = some (j, b)) (hj : ops[j]? = some oj) (hdj : oj.dst = some dj) (hv : lk l dj = some (.bool b)) (hd : o.dst = some d) (hn : Nat.blt d n = true)
    (k : ∀ T1, Env T1 n ((d, v) :: l) → wpList P ops Q rest ⟨T1, ds⟩ w1) : wpList P ops Q (o :: rest) ⟨T, ds⟩ w := by
  unfold wpList
  rw [if_pos (wanted_on (ops := ops) E hg hj hdj hv)]
  refine .inl ?_
  unfold Oper.wp
  rw [show (execOp (Act.mk T ds).eval o).run P w = _ from h]
  show wpList P ops Q rest ((Act.mk T ds).put o.dst v) w1
  rw [hd]
  exact k _ (E.put hn _)
end

/-! ### a region that draws its order -/
section
variable {P : Program} {ops : Array Oper} {Q : Exit → Act → World → Prop}
def needs (o : Oper) : List Nat := (o.after.toList.filter (fun e => Region.binds .any e)).map (·.on)
theorem mem_needs {o : Oper} {j : Nat} : j ∈ needs o ↔ ∃ e ∈ o.after, Region.binds .any e = true ∧ e.on = j := by
  simp only [needs, List.mem_map, List.mem_filter, Array.mem_toList_iff]
  exact ⟨fun ⟨e, ⟨h1, h2⟩, h3⟩ => ⟨e, h1, h2, h3⟩, fun ⟨e, h1, h2, h3⟩ => ⟨e, ⟨h1, h2⟩, h3⟩⟩
/-- What operation j left, if it writes a slot. -/
def Left (ops : Array Oper) (R : Nat → Value → World → Prop) (j : Nat) (T : Array Value) (w : World) : Prop :=
  match (ops[j]?).bind (·.dst) with
  | some d => ∃ v, T[d]? = some v ∧ R j v w
  | none => ∃ v, R j v w
/-- The slots written ahead of number n0. -/
def dstOf (ops : Array Oper) (n0 : Nat) : List (Option Nat) := (List.range n0).map fun j => (ops[j]?).bind (·.dst)
/-- All that writes slot s waits for operation i. -/
def oldB (ops : Array Oper) (n0 i s : Nat) : Bool := (List.range n0).all fun j => match ops[j]? with
  | some o => o.dst != some s || (needs o).contains i
  | none => true
/-- The region's form: each edge points back; ahead of n0 no two operations write one slot; from n0 on each operation waits for all ahead of it. -/
def formB (ops : Array Oper) (n0 n : Nat) : Bool :=
  Nat.ble n0 ops.size && (List.range ops.size).all (fun i => match ops[i]? with
    | some o => (needs o).all (fun j => Nat.blt j i) && (if i < n0 then (match o.dst with
        | some d => Nat.blt d n && (List.range n0).all (fun j => j == i || (ops[j]?).bind (·.dst) != some d)
        | none => true) else (List.range i).all (fun j => (needs o).contains j))
    | none => false)
structure FormP (ops : Array Oper) (n0 n : Nat) : Prop where
  le : n0 ≤ ops.size
  back : ∀ i o, ops[i]? = some o → ∀ j ∈ needs o, j < i
  one : ∀ i o d, i < n0 → ops[i]? = some o → o.dst = some d → d < n ∧ ∀ j oj, j < n0 → ops[j]? = some oj → oj.dst = some d → j = i
  tail : ∀ i o, n0 ≤ i → ops[i]? = some o → ∀ j, j < i → j ∈ needs o
theorem formB_spec {n0 n : Nat} (h : formB ops n0 n = true) : FormP ops n0 n := by
  simp only [formB, Bool.and_eq_true, List.all_eq_true, List.mem_range] at h
  obtain ⟨h0, h1⟩ := h
  have hx : ∀ i o, ops[i]? = some o → _ := fun i o ho => by
    have := h1 i (Array.getElem?_eq_some_iff.1 ho).1
    rw [ho] at this
    simpa only [Bool.and_eq_true] using this
  refine ⟨by simpa using h0, ?_, ?_, ?_⟩
  · intro i o ho j hj
    have := (hx i o ho).1
    rw [List.all_eq_true] at this
    simpa using this j hj
  · intro i o d hi ho hd
    have := (hx i o ho).2
    rw [if_pos hi, hd] at this
    simp only [Bool.and_eq_true, List.all_eq_true, List.mem_range] at this
    refine ⟨by simpa using this.1, fun j oj hj hoj hdj => ?_⟩
    have := this.2 j hj
    simp only [hoj, Option.bind_some, hdj, Bool.or_eq_true, beq_iff_eq, bne_self_eq_false, Bool.false_eq_true, or_false] at this
    exact this
  · intro i o hi ho j hj
    have := (hx i o ho).2
    rw [if_neg (by omega), List.all_eq_true] at this
    simpa using this j (List.mem_range.2 hj)
/-- From the tail on the order is the text's. -/
theorem tail_list {n0 n : Nat} {ds : List Deferred} (F : FormP ops n0 n) : ∀ (fuel k : Nat) (l : Array Bool) (a : Act) (w : World), n0 ≤ k → k ≤ ops.size → ops.size - k ≤ fuel → l.size = ops.size →
    (∀ j, j < k → l.getD j false = true) → (∀ j, k ≤ j → j < ops.size → l.getD j true = false) → wpList P ops Q (ops.toList.drop k) a w → wpAny P .any ops Q fuel l a w := by
  intro fuel
  induction fuel with
  | zero =>
    intro k l a w h0 hk hf hs hl hu h
    obtain rfl : k = ops.size := by omega
    rw [List.drop_of_length_le (by simp)] at h
    refine ⟨?_, h⟩
    apply List.eq_nil_iff_forall_not_mem.2
    intro j hj
    obtain ⟨h1, o, ho, _⟩ := mem_ready.1 hj
    have hlt := (Array.getElem?_eq_some_iff.1 ho).1
    have := hl j hlt
    simp [hs ▸ hlt] at h1 this
    rw [h1] at this; cases this
  | succ fuel ih =>
    intro k l a w h0 hk hf hs hl hu h
    refine ⟨fun hr => ?_, fun i hi => ?_⟩
    · by_cases hlt : k < ops.size
      · exfalso
        have hm : k ∈ Region.ready .any ops l := by
          refine mem_ready.2 ⟨hu k (Nat.le_refl _) hlt, ops[k], Array.getElem?_eq_getElem hlt, fun e he hb => hl _ ?_⟩
          exact F.back k _ (Array.getElem?_eq_getElem hlt) _ (mem_needs.2 ⟨e, he, hb, rfl⟩)
        rw [hr] at hm; cases hm
      · rw [List.drop_of_length_le (by simp; omega)] at h
        exact h
    · obtain ⟨h1, o, ho, hall⟩ := mem_ready.1 hi
      have hlt := (Array.getElem?_eq_some_iff.1 ho).1
      have hki : k ≤ i := by
        rcases Nat.lt_or_ge i k with hx | hx
        · have := hl i hx
          simp [hs ▸ hlt] at h1 this
          rw [h1] at this; cases this
        · exact hx
      have hik : i ≤ k := by
        rcases Nat.lt_or_ge k i with hx | hx
        · obtain ⟨e, he, hb, he2⟩ := mem_needs.1 (F.tail i o (by omega) ho k hx)
          have h2 := hall e he hb
          rw [he2] at h2
          have h3 := hu k (Nat.le_refl _) (by omega)
          simp [show k < l.size from by omega] at h2 h3
          rw [h2] at h3; cases h3
        · exact hx
      obtain rfl : i = k := by omega
      have hdr : ops.toList.drop i = o :: ops.toList.drop (i + 1) := by
        rw [List.drop_eq_getElem_cons (by simpa using hlt)]
        congr 1
        rw [Array.getElem?_eq_getElem hlt] at ho
        simpa using ho
      rw [hdr] at h
      have h' : Stp P ops Q o a w (wpList P ops Q (ops.toList.drop (i + 1))) := h
      unfold wpOp
      rw [ho]
      unfold Stp at h'
      have hnext : ∀ a' w', wpList P ops Q (ops.toList.drop (i + 1)) a' w' → wpAny P .any ops Q fuel (l.setIfInBounds i true) a' w' := fun a' w' hh => by
        refine ih (i + 1) _ a' w' (by omega) (by omega) (by omega) (by simpa using hs) ?_ ?_ hh
        · intro j hj
          by_cases e : i = j
          · subst e; simp [hs ▸ hlt]
          · rw [getD_set_ne false e]; exact hl j (by omega)
        · intro j h3 h4
          rw [getD_set_ne true (by omega)]
          exact hu j (by omega) h4
      show if Region.wanted o (yielded ops a.tmps) = true then _ else _
      split
      · rename_i hw
        rw [if_pos hw] at h'
        exact h'.imp (Oper.wp_mono hnext) id
      · rename_i hw
        rw [if_neg hw] at h'
        exact hnext _ _ h'
/-- A region that draws its order, by what each operation leaves. -/
theorem rg_any {n0 n : Nat} {T0 : Array Value} {ds : List Deferred} {w0 : World} {σ : List Nat} {base : Nat} {R : Nat → Value → World → Prop} (F : FormP ops n0 n) (hn : T0.size = n)
    (hst : ∀ i v w w1, i < n0 → R i v w → Mv σ base w w1 → R i v w1)
    (step : ∀ i o, i < n0 → ops[i]? = some o → ∀ T w, Mv σ base w0 w → T.size = n → (∀ s, oldB ops n0 i s = true → T[s]? = T0[s]?) → (∀ j ∈ needs o, Left ops R j T w) → Ru P ops Q o ⟨T, ds⟩ w (fun v w1 => Mv σ base w w1 ∧ R i v w1))
    (fin : ∀ T w, Mv σ base w0 w → T.size = n → (∀ s, (∀ j o, j < n0 → ops[j]? = some o → o.dst ≠ some s) → T[s]? = T0[s]?) → (∀ j, j < n0 → Left ops R j T w) → wpList P ops Q (ops.toList.drop n0) ⟨T, ds⟩ w) :
    ∀ (fuel : Nat) (l : Array Bool) (T : Array Value) (w : World), l.size = ops.size → (List.range ops.size).countP (fun j => l.getD j true == false) ≤ fuel → Mv σ base w0 w → T.size = n →
      (∀ j o, j < ops.size → l.getD j false = true → ops[j]? = some o → ∀ k ∈ needs o, l.getD k false = true) → (∀ j, n0 ≤ j → j < ops.size → l.getD j true = false) →
      (∀ s, (∀ j o, j < n0 → ops[j]? = some o → l.getD j false = true → o.dst ≠ some s) → T[s]? = T0[s]?) → (∀ j, j < n0 → l.getD j false = true → Left ops R j T w) → wpAny P .any ops Q fuel l ⟨T, ds⟩ w := by
  intro fuel
  induction fuel with
  | zero =>
    intro l T w hs hc hm hT hcl htl hold hleft
    have hall : ∀ j, j < ops.size → l.getD j true = true := fun j hj => by
      have h1 : (List.range ops.size).countP (fun j => l.getD j true == false) = 0 := by omega
      have h2 := List.countP_eq_zero.1 h1 j (List.mem_range.2 hj)
      simpa using h2
    have h0 : n0 = ops.size := by
      have := F.le
      rcases Nat.lt_or_ge n0 ops.size with hx | hx
      · have h1 := htl n0 (Nat.le_refl _) hx
        rw [hall n0 hx] at h1; cases h1
      · omega
    refine tail_list F 0 n0 l ⟨T, ds⟩ w (Nat.le_refl _) F.le (by omega) hs ?_ htl (fin T w hm hT ?_ ?_) (ds := ds)
    · intro j hj
      have := hall j (by omega)
      simp [show j < l.size from by omega] at this ⊢
      exact this
    · intro s h; exact hold s (fun j o hj ho _ => h j o hj ho)
    · intro j hj
      refine hleft j hj ?_
      have := hall j (by omega)
      simp [show j < l.size from by omega] at this ⊢
      exact this
  | succ fuel ih =>
    intro l T w hs hc hm hT hcl htl hold hleft
    by_cases hpre : ∀ j, j < n0 → l.getD j false = true
    · have hcnt : ops.size - n0 ≤ fuel + 1 := by
        refine Nat.le_trans ?_ hc
        have hle := F.le
        have : (List.range ops.size).countP (fun j => l.getD j true == false) = ops.size - n0 := by
          rw [show ops.size = n0 + (ops.size - n0) from by omega, List.range_add, List.countP_append]
          have h1 : (List.range n0).countP (fun j => l.getD j true == false) = 0 := by
            rw [List.countP_eq_zero]
            intro j hj
            have hj' := List.mem_range.1 hj
            have := hpre j hj'
            simp [show j < l.size from by omega] at this ⊢
            exact this
          have h2 : (List.map (fun x => n0 + x) (List.range (ops.size - n0))).countP (fun j => l.getD j true == false) = ops.size - n0 := by
            rw [List.countP_map, List.countP_eq_length.2]
            · simp
            · intro j hj
              have hj' := List.mem_range.1 hj
              have := htl (n0 + j) (by omega) (by omega)
              simpa using this
          omega
        omega
      exact tail_list F (fuel + 1) n0 l ⟨T, ds⟩ w (Nat.le_refl _) F.le hcnt hs hpre htl (fin T w hm hT (fun s h => hold s (fun j o hj ho _ => h j o hj ho)) (fun j hj => hleft j hj (hpre j hj))) (ds := ds)
    · refine ⟨fun hr => ?_, fun i hi => ?_⟩
      · exfalso
        obtain ⟨j, hj, hmin⟩ : ∃ j, (j < n0 ∧ l.getD j false = false) ∧ ∀ k, k < j → l.getD k false = true := by
          have hex : ∃ j, j < n0 ∧ l.getD j false = false := by
            false_or_by_contra
            rename_i hno
            refine hpre (fun j hj => ?_)
            cases hb : l.getD j false with
            | true => rfl
            | false => exact absurd ⟨j, hj, hb⟩ hno
          have key : ∀ m, (∃ j, j < m ∧ j < n0 ∧ l.getD j false = false) → ∃ j, (j < n0 ∧ l.getD j false = false) ∧ ∀ k, k < j → l.getD k false = true := by
            intro m
            induction m with
            | zero => rintro ⟨j, hj, _⟩; omega
            | succ m ihm =>
              rintro ⟨j, hj, h1, h2⟩
              by_cases hsm : ∃ j, j < m ∧ j < n0 ∧ l.getD j false = false
              · exact ihm hsm
              · refine ⟨j, ⟨h1, h2⟩, fun k hk => ?_⟩
                cases hb : l.getD k false with
                | true => rfl
                | false => exact absurd ⟨k, by omega, by omega, hb⟩ hsm
          obtain ⟨j, h1, h2⟩ := hex
          exact key n0 ⟨j, h1, h1, h2⟩
        have hle := F.le
        have hlt : j < ops.size := by omega
        have hm : j ∈ Region.ready .any ops l := by
          refine mem_ready.2 ⟨?_, ops[j], Array.getElem?_eq_getElem hlt, fun e he hb => hmin _ (F.back j _ (Array.getElem?_eq_getElem hlt) _ (mem_needs.2 ⟨e, he, hb, rfl⟩))⟩
          have := hj.2
          simp [show j < l.size from by omega] at this ⊢
          exact this
        rw [hr] at hm; cases hm
      · obtain ⟨h1, o, ho, hall⟩ := mem_ready.1 hi
        have hlt := (Array.getElem?_eq_some_iff.1 ho).1
        have hneeds : ∀ k ∈ needs o, l.getD k false = true := fun k hk => by
          obtain ⟨e, he, hb, rfl⟩ := mem_needs.1 hk
          exact hall e he hb
        have hin : i < n0 := by
          rcases Nat.lt_or_ge i n0 with hx | hx
          · exact hx
          · exact absurd (fun j hj => hneeds j (F.tail i o hx ho j (by omega))) hpre
        have hun : l.getD i false = false := by
          simp [show i < l.size from by omega] at h1 ⊢
          exact h1
        refine Ru.op ho (step i o hin ho T w hm hT ?_ ?_) ?_
        · intro s hsb
          refine hold s (fun j oj hj hoj hlj hd => ?_)
          have h2 := List.all_eq_true.1 hsb j (List.mem_range.2 hj)
          rw [hoj] at h2
          simp only [hd, bne_self_eq_false, Bool.false_or] at h2
          have h3 := hcl j oj (Array.getElem?_eq_some_iff.1 hoj).1 hlj hoj i (by simpa using h2)
          rw [hun] at h3; cases h3
        · intro j hj
          have := F.back i o ho j hj
          exact hleft j (by omega) (hneeds j hj)
        · rintro v w1 ⟨hmv, hR⟩
          have hTs : ((Act.mk T ds).put o.dst v) = ⟨(match o.dst with | some d => T.setIfInBounds d v | none => T), ds⟩ := by cases o.dst <;> rfl
          rw [hTs]
          refine ih _ _ w1 (by simpa using hs) ?_ (hm.trans hmv) (by cases o.dst <;> simp [hT]) ?_ ?_ ?_ ?_
          · have hlt2 : (List.range ops.size).countP (fun j => (l.setIfInBounds i true).getD j true == false) < (List.range ops.size).countP (fun j => l.getD j true == false) := by
              have hsplit : ∀ m, (List.range m).countP (fun j => (l.setIfInBounds i true).getD j true == false) + (if i < m then 1 else 0) = (List.range m).countP (fun j => l.getD j true == false) := by
                intro m
                induction m with
                | zero => simp
                | succ m ihm =>
                  rw [List.range_succ, List.countP_append, List.countP_append]
                  simp only [List.countP_singleton]
                  by_cases e : i = m
                  · subst e
                    have e1 : (l.setIfInBounds i true).getD i true = true := by
                      simp [show i < l.size from by omega]
                    rw [e1, h1]
                    simp at ihm ⊢
                    omega
                  · rw [getD_set_ne true e]
                    by_cases e2 : i < m
                    · rw [if_pos e2] at ihm
                      rw [show (if i < m + 1 then 1 else 0) = 1 from if_pos (by omega)]
                      omega
                    · rw [if_neg e2] at ihm
                      rw [show (if i < m + 1 then 1 else 0) = 0 from if_neg (by omega)]
                      omega
              have := hsplit ops.size
              rw [if_pos hlt] at this
              omega
            omega
          · intro j oj hj hlj hoj k hk
            by_cases e : i = j
            · subst e
              have : oj = o := Option.some.inj (hoj.symm.trans ho)
              subst this
              exact getD_set_true (hneeds k hk)
            · rw [getD_set_ne false e] at hlj
              exact getD_set_true (hcl j oj hj hlj hoj k hk)
          · intro j h2 h3
            rw [getD_set_ne true (by omega)]
            exact htl j h2 h3
          · intro s hsx
            have hne : o.dst ≠ some s := hsx i o hin ho (by simp [show i < l.size from by omega])
            have hT' : (match o.dst with | some d => T.setIfInBounds d v | none => T)[s]? = T[s]? := by
              cases hd : o.dst with
              | none => rfl
              | some d =>
                simp only
                rw [Array.getElem?_setIfInBounds_ne]
                rintro rfl
                exact hne hd
            rw [hT']
            refine hold s (fun j oj hj hoj hlj => hsx j oj hj hoj ?_)
            exact getD_set_true hlj
          · intro j hj hlj
            by_cases e : i = j
            · subst e
              unfold Left
              rw [ho]
              simp only [Option.bind_some]
              cases hd : o.dst with
              | none =>
                exact ⟨v, hR⟩
              | some d =>
                simp only
                have hdn := (F.one i o d hin ho hd).1
                exact ⟨v, by simp [hT, hdn], hR⟩
            · rw [getD_set_ne false e] at hlj
              have hl2 := hleft j hj hlj
              unfold Left at hl2 ⊢
              cases hoj : ops[j]? with
              | none =>
                rw [hoj] at hl2
                simp only [Option.bind_none] at hl2 ⊢
                exact hl2.imp fun u hu => hst j _ _ _ hj hu hmv
              | some oj =>
                rw [hoj] at hl2
                simp only [Option.bind_some] at hl2 ⊢
                cases hdj : oj.dst with
                | none =>
                  rw [hdj] at hl2
                  exact hl2.imp fun u hu => hst j _ _ _ hj hu hmv
                | some d =>
                  rw [hdj] at hl2
                  obtain ⟨u, hu, hRu⟩ := hl2
                  refine ⟨u, ?_, hst j _ _ _ hj hRu hmv⟩
                  cases hdi : o.dst with
                  | none => exact hu
                  | some d2 =>
                    simp only
                    rw [Array.getElem?_setIfInBounds_ne]
                    · exact hu
                    · rintro rfl
                      exact e ((F.one j oj d2 hj hoj hdj).2 i o hin ho hdi)
/-- For each of m numbers from k on. -/
def AllI (f : Nat → Prop) (k m : Nat) : Prop := ∀ i, k ≤ i → i < k + m → f i
theorem AllI.nil {f : Nat → Prop} {k : Nat} : AllI f k 0 := fun i h1 h2 => by omega
theorem AllI.cons {f : Nat → Prop} {k m : Nat} (h : f k) (h' : AllI f (k + 1) m) : AllI f k (m + 1) := fun i h1 h2 => by
  by_cases e : i = k
  · subst e; exact h
  · exact h' i (by omega) (by omega)
theorem AllI.get {f : Nat → Prop} {m k i : Nat} (h : AllI f k m) (h1 : k ≤ i) (h2 : i < k + m) : f i := h i h1 h2
def opAt (ops : Array Oper) (i : Nat) : Oper := ops.getD i default
def Rn (Rs : List (Value → World → Prop)) (i : Nat) : Value → World → Prop := Rs.getD i (fun _ _ => True)
theorem dstOf_not {n0 s : Nat} (h : ∀ j o, j < n0 → ops[j]? = some o → o.dst ≠ some s) : (dstOf ops n0).contains (some s) = false := by
  cases hc : (dstOf ops n0).contains (some s) with
  | false => rfl
  | true =>
    exfalso
    have h1 : some s ∈ dstOf ops n0 := by simpa using hc
    simp only [dstOf, List.mem_map, List.mem_range] at h1
    obtain ⟨j, hj, hd⟩ := h1
    cases ho : ops[j]? with
    | none => rw [ho] at hd; cases hd
    | some o =>
      rw [ho] at hd
      exact h j o hj ho hd
theorem rg {id : Nat} {lops : List Oper} {T0 : Array Value} {n : Nat} {l0 : List (Nat × Value)} {ds : List Deferred} {w0 : World} (n0 : Nat) (σ : List Nat) (base : Nat) (Rs : List (Value → World → Prop)) (E0 : Env T0 n l0) (hm : P.follows .mixedOrders = true) (hF : formB lops.toArray n0 n = true)
    (hst : AllI (fun i => ∀ v w w1, Rn Rs i v w → Mv σ base w w1 → Rn Rs i v w1) 0 n0)
    (step : AllI (fun i => ∀ T w, Mv σ base w0.drew w → T.size = n → (∀ s, oldB lops.toArray n0 i s = true → T[s]? = T0[s]?) → (∀ j, (needs (opAt lops.toArray i)).contains j = true → Left lops.toArray (Rn Rs) j T w) → Ru P lops.toArray Q (opAt lops.toArray i) ⟨T, ds⟩ w (fun v w1 => Mv σ base w w1 ∧ Rn Rs i v w1)) 0 n0)
    (fin : ∀ T w, Mv σ base w0.drew w → T.size = n → (∀ s, (dstOf lops.toArray n0).contains (some s) = false → T[s]? = T0[s]?) → (∀ j, Nat.blt j n0 = true → Left lops.toArray (Rn Rs) j T w) → wpList P lops.toArray Q (lops.drop n0) ⟨T, ds⟩ w) :
    (Code.region id lops.toArray true).wp P Q ⟨T0, ds⟩ w0 := by
  have F := formB_spec hF
  refine wp_region_any hm ?_
  refine rg_any (R := Rn Rs) (w0 := w0.drew) F E0.1 (fun i v w w1 hi => hst.get (Nat.zero_le _) (by omega) v w w1) ?_ ?_ lops.toArray.size _ T0 _ (by simp) ?_ (Mv.refl _ _ _) E0.1 ?_ ?_ ?_ ?_
  · intro i o hi ho T w hmv hT hold hN
    have hoe : opAt lops.toArray i = o := by
      have := (Array.getElem?_eq_some_iff.1 ho)
      unfold opAt
      rw [Array.getD_eq_getD_getElem?, ho]; rfl
    have h1 := step.get (Nat.zero_le _) (by omega : i < 0 + n0) T w hmv hT hold
    rw [hoe] at h1
    exact h1 (fun j hj => hN j (by simpa using hj))
  · intro T w hmv hT hold hl
    have := fin T w hmv hT (fun s hs => hold s (fun j o hj ho hd => ?_)) (fun j hj => hl j (by simpa using hj))
    · simpa using this
    · have h1 : some s ∈ dstOf lops.toArray n0 := by
        simp only [dstOf, List.mem_map, List.mem_range]
        exact ⟨j, hj, by rw [ho]; exact hd⟩
      have h2 : (dstOf lops.toArray n0).contains (some s) = true := by simpa using h1
      rw [hs] at h2; cases h2
  · exact Nat.le_trans List.countP_le_length (by simp)
  · intro j o hj hl
    simp at hl
    have : (Array.replicate lops.toArray.size false).getD j false = false := by
      simp [Array.getD_eq_getD_getElem?]
      cases h : (Array.replicate lops.length false)[j]? with
      | none => rfl
      | some b => simp [Array.getElem?_replicate] at h; simp [h]
    simp_all
  · intro j h1 h2
    simp at h2
    simp [h2]
  · intro s _; rfl
  · intro j hj hl
    have : (Array.replicate lops.toArray.size false).getD j false = false := by
      simp [Array.getD_eq_getD_getElem?]
      cases h : (Array.replicate lops.length false)[j]? with
      | none => rfl
      | some b => simp [Array.getElem?_replicate] at h; simp [h]
    rw [this] at hl; cases hl
def LksA (T : Array Value) : List (Nat × Value) → Prop
  | [] => True
  | (k, v) :: r => T[k]? = some v ∧ LksA T r
theorem LksA.spec {T : Array Value} : ∀ {r : List (Nat × Value)}, LksA T r → ∀ i v, lk r i = some v → T[i]? = some v
  | [], _, i, v, h => by cases h
  | (k, u) :: r, hl, i, v, h => by
    by_cases e : k = i
    · subst e
      simp [lk] at h
      rw [← h]; exact hl.1
    · have e1 : Nat.beq k i = false := nbeq e
      rw [lk, e1] at h
      exact LksA.spec hl.2 i v h
theorem Env.lit {T : Array Value} {n : Nat} {l : List (Nat × Value)} (h : T.size = n) (hl : LksA T l) : Env T n l := ⟨h, LksA.spec hl⟩
theorem Env.nil {T : Array Value} {n : Nat} (h : T.size = n) : Env T n [] := ⟨h, fun _ _ h => by cases h⟩
end
end Go.Proofs.Ytlnknihjccdgkaa.X
