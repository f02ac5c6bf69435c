/- What each kind of operation yields, told over a frame by its slots. -/
import Derived.Test.YtlnknihjccdgkaaX0
import Derived.Laws.Bits
import Derived.Laws.Rows
import Derived.Maps.OwnOps
import Derived.WalkSpells
namespace Go.Proofs.Ytlnknihjccdgkaa.X
open Go.RowKit
set_option linter.unusedVariables false
set_option linter.unusedSimpArgs false
section
variable {P : Program} {o : Oper} {T : Array Value} {ds : List Deferred} {n : Nat} {l : List (Nat × Value)} {w : World}
theorem dv_of {v : Value} {w1 : World} {s : Sem Value} (h : execOp (Act.mk T ds).eval o = (do pure (.value (← s)))) (hs : s.run P w = .ok v w1) : Dv P o ⟨T, ds⟩ w v w1 := by
  unfold Dv
  rw [h]
  simp [hs]
theorem dv_move {x : Operand} {v : Value} (E : Env T n l) (ho : o.op = .move x) (hx : ev l x = some v) : Dv P o ⟨T, ds⟩ w v w := by
  unfold Dv execOp; rw [ho]; simp only [E.ev hx ds]; rfl
theorem dv_assign {x : Operand} {v : Value} (E : Env T n l) (ho : o.op = .assign x) (hx : ev l x = some v) : Dv P o ⟨T, ds⟩ w v w := by
  unfold Dv execOp; rw [ho]; simp only [E.ev hx ds]; rfl
theorem dv_pick {c x y : Operand} {b : Bool} {u v : Value} (E : Env T n l) (ho : o.op = .pick c x y) (hc : ev l c = some (.bool b)) (hx : ev l x = some u) (hy : ev l y = some v) : Dv P o ⟨T, ds⟩ w (if b then u else v) w := by
  unfold Dv execOp; rw [ho]; simp only [E.ev hx ds, E.ev hy ds, E.ev hc ds]; cases b <;> rfl
theorem run_zero {t : TypeId} {z : Value} (hz : (P.info? t).bind (·.zero) = some z) : (zeroValue t).run P w = .ok z w := by
  cases h : P.info? t with
  | none => rw [h] at hz; cases hz
  | some i =>
    rw [h] at hz
    simp only [Option.bind_some] at hz
    simp [zeroValue, typeInfo, h, hz, go_sem]
theorem dv_alloc {t : TypeId} {z : Value} (ho : o.op = .alloc t) (hz : (P.info? t).bind (·.zero) = some z) : Dv P o ⟨T, ds⟩ w (.pointer (some ⟨w.heap.size, 0, none⟩)) (w.alloc (.cells z.cells t)) := by
  refine dv_of (by unfold execOp; rw [ho]) ?_
  simp [Instr.alloc, run_zero hz, newVar, go_sem]
theorem dv_box {t : TypeId} {x : Operand} {v : Value} (E : Env T n l) (ho : o.op = .box t x) (hx : ev l x = some v) : Dv P o ⟨T, ds⟩ w (.pointer (some ⟨w.heap.size, 0, none⟩)) (w.alloc (.cells v.cells t)) := by
  refine dv_of (by unfold execOp; rw [ho]) ?_
  simp only [E.ev hx ds]
  simp [Instr.box, newVar, go_sem]
/-! numbers -/
theorem dv_add {k : IntKind} {t t2 : TypeId} {x y : Operand} {a b c : Int} (E : Env T n l) (ho : o.op = .binOp .add t x y t2) (hx : ev l x = some (.int k a)) (hy : ev l y = some (.int k b)) (hc : k.wrap (a + b) = c) : Dv P o ⟨T, ds⟩ w (.int k c) w := by
  refine dv_of (by unfold execOp; rw [ho]) ?_
  simp only [E.ev hx ds, E.ev hy ds]
  simp [eqGuard, binOp, Op.intArith, hc, go_sem]
theorem dv_sub {k : IntKind} {t t2 : TypeId} {x y : Operand} {a b c : Int} (E : Env T n l) (ho : o.op = .binOp .sub t x y t2) (hx : ev l x = some (.int k a)) (hy : ev l y = some (.int k b)) (hc : k.wrap (a - b) = c) : Dv P o ⟨T, ds⟩ w (.int k c) w := by
  refine dv_of (by unfold execOp; rw [ho]) ?_
  simp only [E.ev hx ds, E.ev hy ds]
  simp [eqGuard, binOp, Op.intArith, hc, go_sem]
theorem dv_mul {k : IntKind} {t t2 : TypeId} {x y : Operand} {a b c : Int} (E : Env T n l) (ho : o.op = .binOp .mul t x y t2) (hx : ev l x = some (.int k a)) (hy : ev l y = some (.int k b)) (hc : k.wrap (a * b) = c) : Dv P o ⟨T, ds⟩ w (.int k c) w := by
  refine dv_of (by unfold execOp; rw [ho]) ?_
  simp only [E.ev hx ds, E.ev hy ds]
  simp [eqGuard, binOp, Op.intArith, hc, go_sem]
theorem dv_quo {k : IntKind} {t t2 : TypeId} {x y : Operand} {a b c : Int} (E : Env T n l) (ho : o.op = .binOp .quo t x y t2) (hx : ev l x = some (.int k a)) (hy : ev l y = some (.int k b)) (h0 : b ≠ 0) (hc : k.wrap (a.tdiv b) = c) : Dv P o ⟨T, ds⟩ w (.int k c) w := by
  refine dv_of (by unfold execOp; rw [ho]) ?_
  simp only [E.ev hx ds, E.ev hy ds]
  simp [eqGuard, binOp, Op.intDiv, hc, h0, go_sem]
theorem dv_rem {k : IntKind} {t t2 : TypeId} {x y : Operand} {a b c : Int} (E : Env T n l) (ho : o.op = .binOp .rem t x y t2) (hx : ev l x = some (.int k a)) (hy : ev l y = some (.int k b)) (h0 : b ≠ 0) (hc : a.tmod b = c) : Dv P o ⟨T, ds⟩ w (.int k c) w := by
  refine dv_of (by unfold execOp; rw [ho]) ?_
  simp only [E.ev hx ds, E.ev hy ds]
  simp [eqGuard, binOp, Op.intDiv, hc, h0, go_sem]
theorem dv_eql {k : IntKind} {t t2 : TypeId} {x y : Operand} {a b : Int} {c : Bool} (E : Env T n l) (ho : o.op = .binOp .eql t x y t2) (hx : ev l x = some (.int k a)) (hy : ev l y = some (.int k b)) (hc : decide (a = b) = c) : Dv P o ⟨T, ds⟩ w (.bool c) w := by
  refine dv_of (by unfold execOp; rw [ho]) ?_
  simp only [E.ev hx ds, E.ev hy ds]
  have : (a == b) = c := by rw [← hc]; cases h : decide (a = b) <;> simp_all
  simp [eqGuard, binOp, Op.intCmp, this, go_sem]
theorem dv_neq {k : IntKind} {t t2 : TypeId} {x y : Operand} {a b : Int} {c : Bool} (E : Env T n l) (ho : o.op = .binOp .neq t x y t2) (hx : ev l x = some (.int k a)) (hy : ev l y = some (.int k b)) (hc : decide (a ≠ b) = c) : Dv P o ⟨T, ds⟩ w (.bool c) w := by
  refine dv_of (by unfold execOp; rw [ho]) ?_
  simp only [E.ev hx ds, E.ev hy ds]
  have : (a != b) = c := by rw [← hc]; cases h : decide (a ≠ b) <;> simp_all
  simp [eqGuard, binOp, Op.intCmp, this, go_sem]
theorem dv_lss {k : IntKind} {t t2 : TypeId} {x y : Operand} {a b : Int} {c : Bool} (E : Env T n l) (ho : o.op = .binOp .lss t x y t2) (hx : ev l x = some (.int k a)) (hy : ev l y = some (.int k b)) (hc : decide (a < b) = c) : Dv P o ⟨T, ds⟩ w (.bool c) w := by
  refine dv_of (by unfold execOp; rw [ho]) ?_
  simp only [E.ev hx ds, E.ev hy ds]
  simp [eqGuard, binOp, Op.intCmp, hc, go_sem]
theorem dv_leq {k : IntKind} {t t2 : TypeId} {x y : Operand} {a b : Int} {c : Bool} (E : Env T n l) (ho : o.op = .binOp .leq t x y t2) (hx : ev l x = some (.int k a)) (hy : ev l y = some (.int k b)) (hc : decide (a ≤ b) = c) : Dv P o ⟨T, ds⟩ w (.bool c) w := by
  refine dv_of (by unfold execOp; rw [ho]) ?_
  simp only [E.ev hx ds, E.ev hy ds]
  simp [eqGuard, binOp, Op.intCmp, hc, go_sem]
theorem dv_gtr {k : IntKind} {t t2 : TypeId} {x y : Operand} {a b : Int} {c : Bool} (E : Env T n l) (ho : o.op = .binOp .gtr t x y t2) (hx : ev l x = some (.int k a)) (hy : ev l y = some (.int k b)) (hc : decide (b < a) = c) : Dv P o ⟨T, ds⟩ w (.bool c) w := by
  refine dv_of (by unfold execOp; rw [ho]) ?_
  simp only [E.ev hx ds, E.ev hy ds]
  simp [eqGuard, binOp, Op.intCmp, hc, go_sem]
theorem dv_geq {k : IntKind} {t t2 : TypeId} {x y : Operand} {a b : Int} {c : Bool} (E : Env T n l) (ho : o.op = .binOp .geq t x y t2) (hx : ev l x = some (.int k a)) (hy : ev l y = some (.int k b)) (hc : decide (b ≤ a) = c) : Dv P o ⟨T, ds⟩ w (.bool c) w := by
  refine dv_of (by unfold execOp; rw [ho]) ?_
  simp only [E.ev hx ds, E.ev hy ds]
  simp [eqGuard, binOp, Op.intCmp, hc, go_sem]
theorem dv_not {t : TypeId} {x : Operand} {b : Bool} (E : Env T n l) (ho : o.op = .unOp .not t x) (hx : ev l x = some (.bool b)) : Dv P o ⟨T, ds⟩ w (.bool (!b)) w := by
  refine dv_of (by unfold execOp; rw [ho]) ?_
  simp only [E.ev hx ds]
  simp [Op.unary, go_sem]
theorem dv_neg {k : IntKind} {t : TypeId} {x : Operand} {a c : Int} (E : Env T n l) (ho : o.op = .unOp .neg t x) (hx : ev l x = some (.int k a)) (hc : k.wrap (0 - a) = c) : Dv P o ⟨T, ds⟩ w (.int k c) w := by
  refine dv_of (by unfold execOp; rw [ho]) ?_
  simp only [E.ev hx ds]
  simp only [Op.unary, Op.intArith, hc]
  rfl
/-! places -/
theorem dv_nilCheck {x : Operand} {a : Addr} (E : Env T n l) (ho : o.op = .nilCheck x) (hx : ev l x = some (.pointer (some a))) : Dv P o ⟨T, ds⟩ w (.pointer (some a)) w := by
  unfold Dv execOp; rw [ho]; simp only [E.ev hx ds]; rfl
theorem run_under {t : TypeId} {d : TypeDesc} (h : P.underlying t = some d) : (underlying t).run P w = .ok d w := by
  simp [underlying, h, go_sem]
theorem run_size {t : TypeId} {k : Nat} (h : (P.info? t).map (·.size) = some k) : (sizeOf t).run P w = .ok k w := by
  cases hi : P.info? t with
  | none => rw [hi] at h; cases h
  | some i =>
    rw [hi] at h
    simp only [Option.map_some, Option.some.injEq] at h
    simp [sizeOf, typeInfo, hi, h, go_sem]
/-- Field f of a struct lies off cells on, and is not of no size. -/
def fieldB (P : Program) (t f off : Nat) : Bool := match P.underlying t with
  | some (.struct fs) => match fs[f]? with
    | some x => x.offset == off && (match P.info? x.type with | some i => !(i.size == 0) | none => false)
    | none => false
  | _ => false
theorem run_fieldAt {t f off : Nat} {a : Addr} (h : fieldB P t f off = true) : (Instr.fieldAt t (.pointer (some a)) f).run P w = .ok (.pointer (some (a.add off))) w := by
  unfold fieldB at h
  cases hu : P.underlying t with
  | none => rw [hu] at h; cases h
  | some d =>
    rw [hu] at h
    cases d <;> simp only [Bool.false_eq_true] at h
    rename_i fs
    cases hf : fs[f]? with
    | none => rw [hf] at h; cases h
    | some x =>
      rw [hf] at h
      simp only [Bool.and_eq_true, beq_iff_eq] at h
      cases hi : P.info? x.type with
      | none => rw [hi] at h; simp at h
      | some i =>
        rw [hi] at h
        have h2 : ¬ i.size = 0 := by simpa using h.2
        simp [Instr.fieldAt, run_under hu, hf, Instr.sureAddr, fieldPlace, sizeOf, typeInfo, hi, h2, h.1, go_sem]
theorem dv_fieldAddr {t f : Nat} {x : Operand} {a b : Addr} (off : Nat) (E : Env T n l) (ho : o.op = .fieldAddr t x f) (hx : ev l x = some (.pointer (some a))) (hf : fieldB P t f off = true) (hb : a.add off = b) : Dv P o ⟨T, ds⟩ w (.pointer (some b)) w := by
  refine dv_of (by unfold execOp; rw [ho]) ?_
  simp only [E.ev hx ds]
  rw [run_fieldAt hf, hb]
def sliceB (P : Program) (t k : Nat) : Bool := match P.underlying t with
  | some (.slice e) => match P.info? e with | some i => i.size == k | none => false
  | _ => false
theorem dv_indexAddr {t k i : Nat} {x y : Operand} {ky : IntKind} {a b : Addr} {m c : Nat} (E : Env T n l) (ho : o.op = .indexAddr t x y) (hx : ev l x = some (.slice (some a) m c)) (hy : ev l y = some (.int ky (i : Int))) (hs : sliceB P t k = true) (hi : i < m) (hb : a.add (i * k) = b) : Dv P o ⟨T, ds⟩ w (.pointer (some b)) w := by
  refine dv_of (by unfold execOp; rw [ho]) ?_
  simp only [E.ev hx ds, E.ev hy ds]
  unfold sliceB at hs
  cases hu : P.underlying t with
  | none => rw [hu] at hs; cases hs
  | some d =>
    rw [hu] at hs
    cases d <;> simp only [Bool.false_eq_true] at hs
    rename_i e
    cases hi2 : P.info? e with
    | none => rw [hi2] at hs; cases hs
    | some inf =>
      rw [hi2] at hs
      have h2 : inf.size = k := by simpa using hs
      simp [Instr.indexAt, asIntOf, run_under hu, hi, sizeOf, typeInfo, hi2, h2, hb, go_sem]
/-! reads -/
def aggB (P : Program) (t : Nat) (b : Bool) : Bool := match P.underlying t with
  | some (.struct _) | some (.array _ _) => b
  | some _ => !b
  | none => false
theorem run_isAgg {t : Nat} {b : Bool} (h : aggB P t b = true) : (isAgg t).run P w = .ok b w := by
  unfold aggB at h
  cases hu : P.underlying t with
  | none => rw [hu] at h; cases h
  | some d =>
    rw [hu] at h
    cases d <;> simp at h <;> subst h <;> simp [isAgg, run_under hu, go_sem]
theorem dv_load {t : Nat} {x : Operand} {a : Addr} {v : Value} (E : Env T n l) (ho : o.op = .load t x) (hx : ev l x = some (.pointer (some a))) (ht : aggB P t false = true) (hc : w.cell? a = some v) : Dv P o ⟨T, ds⟩ w v w := by
  refine dv_of (by unfold execOp; rw [ho]) ?_
  simp only [E.ev hx ds]
  simp [Instr.loadAt, Instr.sureAddr, loadVar, run_isAgg ht, hc, go_sem]
theorem run_loadCells (P : Program) (w : World) (a : Addr) : ∀ (k i : Nat) (acc vs : Array Value), (∀ j, j < k → w.cell? (a.add (i + j)) = vs[j]?) → vs.size = k → (loadCellsFrom a i k acc).run P w = .ok (acc ++ vs) w
  | 0, i, acc, vs, h, hs => by
    have : vs = #[] := Array.eq_empty_of_size_eq_zero hs
    subst this
    simp [loadCellsFrom, go_sem]
  | k + 1, i, acc, vs, h, hs => by
    have h0 := h 0 (by omega)
    rw [Nat.add_zero, Array.getElem?_eq_getElem (by omega)] at h0
    have ih := run_loadCells P w a k (i + 1) (acc.push vs[0]) (vs.extract 1 (k + 1)) (fun j hj => by
      have := h (j + 1) (by omega)
      rw [show i + 1 + j = i + (j + 1) from by omega, this]
      simp [Array.getElem?_extract]
      rw [if_pos (by omega), Nat.add_comm]) (by simp; omega)
    have e : acc.push vs[0] ++ vs.extract 1 (k + 1) = acc ++ vs := by
      apply Array.ext
      · simp; omega
      · intro j h1 h2
        simp [Array.getElem_append, Array.getElem_push]
        split
        · split
          · rfl
          · rename_i h3 h4
            obtain rfl : j = acc.size := by omega
            simp
        · rename_i h3
          rw [dif_neg (by omega)]
          congr 1
          omega
    rw [e] at ih
    simp [loadCellsFrom, h0, go_sem]
    exact ih
theorem dv_loadRow {t k : Nat} {x : Operand} {a : Addr} {vs : Array Value} (E : Env T n l) (ho : o.op = .load t x) (hx : ev l x = some (.pointer (some a))) (ht : aggB P t true = true) (hk : (P.info? t).map (·.size) = some k) (hs : vs.size = k) (hc : ∀ j, j < k → w.cell? (a.add j) = vs[j]?) : Dv P o ⟨T, ds⟩ w (.agg vs) w := by
  refine dv_of (by unfold execOp; rw [ho]) ?_
  simp only [E.ev hx ds]
  have h1 := run_loadCells P w a k 0 #[] vs (fun j hj => by rw [Nat.zero_add]; exact hc j hj) hs
  simp at h1
  simp [Instr.loadAt, Instr.sureAddr, loadVar, run_isAgg ht, run_size hk, loadCells, h1, go_sem]
end
/-- A block whose row is read whole. -/
theorem row_cells {w : World} {g t : Nat} {cs : Array Value} {fr : Nat × Nat} (h : w.heap[g]? = some (.cells cs t fr)) (j : Nat) : w.cell? ((Addr.mk g 0 none).add j) = cs[j]? := by
  unfold Addr.add
  split
  · rename_i e; subst e; simp [World.cell?, h]
  · simp [World.cell?, h]
theorem row_cells_at {w : World} {g t k : Nat} {cs vs : Array Value} {fr : Nat × Nat} (h : w.heap[g]? = some (.cells cs t fr)) (hv : ∀ j, j < vs.size → cs[k + j]? = vs[j]?) (j : Nat) (hj : j < vs.size) : w.cell? ((Addr.mk g k none).add j) = vs[j]? := by
  rw [← hv j hj]
  unfold Addr.add
  split
  · rename_i e; subst e; simp [World.cell?, h]
  · simp [World.cell?, h]
/-! stores -/
section
variable {P : Program} {o : Oper} {T : Array Value} {ds : List Deferred} {n : Nat} {l : List (Nat × Value)} {w : World}
/-- A whole row of cells written from cell k of block g on. -/
def putRow (cs : Array Value) (k : Nat) (vs : List Value) : Array Value := (vs.zipIdx.foldl (fun c p => c.setIfInBounds (k + p.2) p.1) cs)
/-- Block g turned. -/
def setBlk (w : World) (g : Nat) (cs : Array Value) (t : Nat) : World := { w with heap := w.heap.setIfInBounds g (.cells cs t (0, 0)) }
theorem setBlk_at {w : World} {g t : Nat} {cs : Array Value} (h : g < w.heap.size) : (setBlk w g cs t).heap[g]? = some (.cells cs t (0, 0)) := by simp [setBlk, h]
theorem setBlk_ne {w : World} {g t k : Nat} {cs : Array Value} (h : k ≠ g) : (setBlk w g cs t).heap[k]? = w.heap[k]? := by simp [setBlk, Array.getElem?_setIfInBounds_ne (Ne.symm h)]
theorem setBlk_size {w : World} {g t : Nat} {cs : Array Value} : (setBlk w g cs t).heap.size = w.heap.size := by simp [setBlk]
theorem setCell_setBlk {w : World} {g t i : Nat} {cs : Array Value} {v : Value} (h : w.heap[g]? = some (.cells cs t (0, 0))) : w.setCell ⟨g, i, none⟩ v = setBlk w g (cs.setIfInBounds i v) t := by
  have hg := heap_lt h
  have : w.heap.modify g (fun | .cells c elem frozen => .cells (if (Addr.mk g i none).spot.isSome then c else c.setIfInBounds i v) elem frozen | o => o) = w.heap.setIfInBounds g (.cells (cs.setIfInBounds i v) t (0, 0)) := by
    apply Array.ext_getElem?
    intro j
    rw [Array.getElem?_modify, Array.getElem?_setIfInBounds]
    by_cases e : g = j
    · subst e
      rw [if_pos rfl, if_pos rfl, h]
      simp [hg]
    · rw [if_neg e, if_neg e]
  unfold World.setCell setBlk
  simp only [World.mk.injEq, and_self, and_true]
  exact this
theorem setBlk_setBlk {w : World} {g t : Nat} {cs cs2 : Array Value} : setBlk (setBlk w g cs t) g cs2 t = setBlk w g cs2 t := by simp [setBlk]
theorem mv_setBlk {w : World} {g t : Nat} {cs cs2 : Array Value} (h : w.heap[g]? = some (.cells cs t (0, 0))) : Mv [t] g w (setBlk w g cs2 t) := by
  refine ⟨rfl, rfl, rfl, by simp [setBlk], fun b o hb hc => ?_⟩
  by_cases e : b = g
  · subst e
    rcases hc with hc | hc
    · omega
    · rw [h] at hb
      obtain rfl := Option.some.inj hb
      simp [okind] at hc
  · rw [setBlk_ne e]; exact hb
/-- Only block g turns. -/
theorem setBlk_keep {w : World} {g t : Nat} {cs : Array Value} {b : Nat} {o : Obj} (hb : w.heap[b]? = some o) (hne : b ≠ g) : (setBlk w g cs t).heap[b]? = some o := by rw [setBlk_ne hne]; exact hb
theorem run_storeCells {g t : Nat} : ∀ (vs : List Value) (w : World) (cs : Array Value) (k i : Nat), w.heap[g]? = some (.cells cs t (0, 0)) → k + i + vs.length ≤ cs.size → (∀ v ∈ vs, v.oneCell' = true) →
    (storeCells ⟨g, k, none⟩ vs i).run P w = .ok () (setBlk w g (vs.zipIdx.foldl (fun c p => c.setIfInBounds (k + i + p.2) p.1) cs) t)
  | [], w, cs, k, i, h, hk, hv => by
    have hg := heap_lt h
    have e : setBlk w g cs t = w := by
      unfold setBlk
      congr 1
      apply Array.ext_getElem?
      intro j
      rw [Array.getElem?_setIfInBounds]
      by_cases e : g = j
      · subst e; rw [if_pos rfl, if_pos hg, h]
      · rw [if_neg e]
    simp [storeCells, e, go_sem]
  | v :: r, w, cs, k, i, h, hk, hv => by
    have hg := heap_lt h
    have hadd : (Addr.mk g k none).add i = ⟨g, k + i, none⟩ := by
      unfold Addr.add
      split
      · rename_i e; subst e; rfl
      · rfl
    have hlen : k + i < cs.size := by simp at hk; omega
    have hcell : w.cell? ⟨g, k + i, none⟩ = some cs[k + i] := by simp [World.cell?, h, hlen]
    have hfr : w.frozen? ⟨g, k + i, none⟩ = false := by simp [World.frozen?, h]
    have h1 := hv v (by simp)
    have ih := run_storeCells r (setBlk w g (cs.setIfInBounds (k + i) v) t) (cs.setIfInBounds (k + i) v) k (i + 1) (setBlk_at hg) (by simp at hk ⊢; omega) (fun u hu => hv u (by simp [hu]))
    rw [setBlk_setBlk] at ih
    have hfold : (v :: r).zipIdx.foldl (fun c p => c.setIfInBounds (k + i + p.2) p.1) cs = r.zipIdx.foldl (fun c p => c.setIfInBounds (k + (i + 1) + p.2) p.1) (cs.setIfInBounds (k + i) v) := by
      rw [List.zipIdx_cons, List.foldl_cons, Nat.zero_add]
      rw [show k + i + 0 = k + i from rfl]
      have : ∀ (r : List Value) (m : Nat) (c : Array Value), (r.zipIdx (m + 1)).foldl (fun c p => c.setIfInBounds (k + i + p.2) p.1) c = (r.zipIdx m).foldl (fun c p => c.setIfInBounds (k + (i + 1) + p.2) p.1) c := by
        intro r
        induction r with
        | nil => intro m c; rfl
        | cons x r ihr =>
          intro m c
          rw [List.zipIdx_cons, List.zipIdx_cons, List.foldl_cons, List.foldl_cons, ihr]
          rw [show k + i + (m + 1) = k + (i + 1) + m from by omega]
      exact this r 0 _
    rw [hfold]
    have hrun : (store ((Addr.mk g k none).add i) v).run P w = .ok () (setBlk w g (cs.setIfInBounds (k + i) v) t) := by
      rw [hadd, ← setCell_setBlk h]
      cases v <;> simp [Value.oneCell'] at h1 <;> simp [store, Sem.run, hcell, hfr]
    unfold storeCells
    rw [Sem.run_bind, hrun]
    exact ih
/-- The operands' values, one by one. -/
theorem evs {T : Array Value} {n : Nat} {l : List (Nat × Value)} (E : Env T n l) (ds : List Deferred) : ∀ {as : List Operand} {vs : List Value}, as.map (ev l) = vs.map some → as.map (Act.mk T ds).eval = vs
  | [], [], _ => rfl
  | [], _ :: _, h => by cases h
  | _ :: _, [], h => by cases h
  | a :: as, v :: vs, h => by
    simp only [List.map_cons, List.cons.injEq] at h
    rw [List.map_cons, E.ev h.1 ds, evs E ds h.2]
theorem evsP {T : Array Value} {n : Nat} {l : List (Nat × Value)} (E : Env T n l) (ds : List Deferred) : ∀ {as : List (Nat × Operand)} {vs : List (Nat × Value)}, as.map (fun p => (p.1, ev l p.2)) = vs.map (fun p => (p.1, some p.2)) → as.map (fun p => (p.1, (Act.mk T ds).eval p.2)) = vs
  | [], [], _ => rfl
  | [], _ :: _, h => by cases h
  | _ :: _, [], h => by cases h
  | a :: as, v :: vs, h => by
    simp only [List.map_cons, List.cons.injEq, Prod.mk.injEq] at h
    rw [List.map_cons, E.ev h.1.2 ds, evsP E ds h.2, h.1.1]
theorem dv_build {t : Nat} {parts : List (Nat × Operand)} {vs : List (Nat × Value)} {C : Array Value} (E : Env T n l) (ho : o.op = .build t parts.toArray) (hv : parts.map (fun p => (p.1, ev l p.2)) = vs.map (fun p => (p.1, some p.2))) (hC : P.built t vs = some C) : Dv P o ⟨T, ds⟩ w (.agg C) w := by
  refine dv_of (by unfold execOp; rw [ho]) ?_
  refine run_build w t _ C ?_
  have h1 := evsP E ds hv
  rw [← hC]
  congr 1
  rw [← h1]
  simp
theorem dk_store {t : Nat} {x y : Operand} {g i : Nat} {v : Value} {cs : Array Value} {tb : Nat} (E : Env T n l) (ho : o.op = .store t x y) (hx : ev l x = some (.pointer (some ⟨g, i, none⟩))) (hy : ev l y = some v) (h1 : v.oneCell' = true) (ht : (P.info? t).map (·.size) = some 1) (hb : w.heap[g]? = some (.cells cs tb (0, 0))) (hi : Nat.blt i cs.size = true) : Dk P o ⟨T, ds⟩ w (setBlk w g (cs.setIfInBounds i v) tb) := by
  unfold Dk execOp
  rw [ho]
  simp only [E.ev hx ds, E.ev hy ds]
  have hi' : i < cs.size := by simpa using hi
  have hcells : v.cells = #[v] := by cases v <;> simp [Value.oneCell'] at h1 <;> rfl
  have h2 := run_storeCells (P := P) [v] w cs i 0 hb (by simp; omega) (by simp [h1])
  simp [storeCells, go_sem] at h2
  have h3 : (storeVar t ⟨g, i, none⟩ v).run P w = .ok () (setBlk w g (cs.setIfInBounds i v) tb) := by
    unfold storeVar
    rw [hcells]
    simp [run_size ht, storeCells, h2, go_sem]
  simp only [Instr.storeAt, Instr.sureAddr]
  rw [show ((do storeVar t (← pure (Addr.mk g i none)) v) : Sem Unit) = storeVar t ⟨g, i, none⟩ v from rfl]
  simp only [Sem.run_bind, h3]
  rfl
theorem dk_storeRow {t k : Nat} {x y : Operand} {g i : Nat} {vs cs : Array Value} {tb : Nat} (E : Env T n l) (ho : o.op = .store t x y) (hx : ev l x = some (.pointer (some ⟨g, i, none⟩))) (hy : ev l y = some (.agg vs)) (h1 : vs.toList.all (·.oneCell') = true) (ht : (P.info? t).map (·.size) = some k) (hk : vs.size = k) (hb : w.heap[g]? = some (.cells cs tb (0, 0))) (hi : i + k ≤ cs.size) : Dk P o ⟨T, ds⟩ w (setBlk w g (putRow cs i vs.toList) tb) := by
  unfold Dk execOp
  rw [ho]
  simp only [E.ev hx ds, E.ev hy ds]
  have h2 := run_storeCells (P := P) vs.toList w cs i 0 hb (by simp; omega) (fun v hv => by have := List.all_eq_true.1 h1 v hv; exact this)
  simp at h2
  simp [Instr.storeAt, Instr.sureAddr, storeVar, run_size ht, Value.cells, hk, h2, putRow, go_sem]
theorem putRow_get (cs : Array Value) (k : Nat) : ∀ (vs : List Value) (m : Nat) (c : Array Value), (∀ j, j < m → True) → ∀ j, ((vs.zipIdx m).foldl (fun c p => c.setIfInBounds (k + p.2) p.1) c).size = c.size ∧ ((vs.zipIdx m).foldl (fun c p => c.setIfInBounds (k + p.2) p.1) c)[j]? = (if k + m ≤ j ∧ j < k + m + vs.length ∧ j < c.size then vs[j - (k + m)]? else c[j]?)
  | [], m, c, _, j => by
    refine ⟨rfl, ?_⟩
    rw [if_neg (by simp; omega)]
    rfl
  | v :: r, m, c, _, j => by
    rw [List.zipIdx_cons, List.foldl_cons]
    obtain ⟨h1, h2⟩ := putRow_get cs k r (m + 1) (c.setIfInBounds (k + m) v) (fun _ _ => trivial) j
    refine ⟨by rw [h1]; simp, ?_⟩
    rw [h2]
    simp only [Array.size_setIfInBounds, List.length_cons]
    by_cases e : j = k + m
    · subst e
      rw [if_neg (by omega)]
      by_cases hs : k + m < c.size
      · rw [if_pos ⟨by omega, by omega, hs⟩]
        simp [hs]
      · rw [if_neg (by omega)]
        simp [hs]
    · by_cases hin : k + (m + 1) ≤ j ∧ j < k + (m + 1) + r.length ∧ j < c.size
      · rw [if_pos hin, if_pos (by omega), show j - (k + m) = (j - (k + (m + 1))) + 1 from by omega, List.getElem?_cons_succ]
      · rw [if_neg hin, Array.getElem?_setIfInBounds_ne (Ne.symm e), if_neg (by omega)]
theorem putRow_full {cs : Array Value} {vs : List Value} (h : vs.length = cs.size) : putRow cs 0 vs = vs.toArray := by
  apply Array.ext_getElem?
  intro j
  obtain ⟨_, h2⟩ := putRow_get cs 0 vs 0 cs (fun _ _ => trivial) j
  unfold putRow
  rw [h2]
  by_cases hj : j < cs.size
  · rw [if_pos (by omega)]
    simp
  · rw [if_neg (by omega)]
    simp [hj, show ¬ j < vs.length from by omega]
/-- A struct stored over its whole block. -/
theorem dk_storeAll {t k : Nat} {x y : Operand} {g : Nat} {vs : List Value} {cs : Array Value} {tb : Nat} (E : Env T n l) (ho : o.op = .store t x y) (hx : ev l x = some (.pointer (some ⟨g, 0, none⟩))) (hy : ev l y = some (.agg vs.toArray)) (h1 : vs.all (·.oneCell') = true) (ht : (P.info? t).map (·.size) = some k) (hk : vs.length = k) (hb : w.heap[g]? = some (.cells cs tb (0, 0))) (hi : cs.size = k) : Dk P o ⟨T, ds⟩ w (setBlk w g vs.toArray tb) := by
  have h := dk_storeRow (P := P) (ds := ds) (k := k) E ho hx hy (by simpa using h1) ht (by simpa using hk) hb (by omega)
  have e : putRow cs 0 vs.toArray.toList = vs.toArray := by
    rw [List.toList_toArray]
    exact putRow_full (by omega)
  rw [e] at h
  exact h
theorem wp_of_enter {Q : Exit → Act → World → Prop} {a : Act} {f : FuncId} {args : Array Value} {K : Act → World → Prop} {R : Value → World → Prop} (hr : (execOp a.eval o).run P w = .ok (.enter f args) w) (h : Calls P f args w (fun e w1 => ∃ v, e = .returned v ∧ R v w1)) (hK : ∀ v w1, R v w1 → K (a.put o.dst v) w1) : o.wp P a w K Q := by
  unfold Oper.wp
  rw [hr, Oper.upon_enter]
  refine h.mono fun e w2 hh => ?_
  obtain ⟨v, rfl, hR⟩ := hh
  exact hK v w2 hR
/-- A call of a Go function, by its contract. -/
theorem ru_call {ops : Array Oper} {Q : Exit → Act → World → Prop} {f : FuncId} {fn : Func} {as : List Operand} {ts : Array TypeId} {args : List Value} {R : Value → World → Prop} (E : Env T n l) (hg : o.guard = none) (ho : o.op = .call { callee := .value (.func f), args := as.toArray, argTypes := ts }) (hargs : as.map (ev l) = args.map some)
    (hf : P.funcs[f]? = some fn) (hname : (fn.name == "runtime.NumGoroutine") = false) (hb : fn.body.isSome = true) (h : Calls P f args.toArray w (fun e w1 => ∃ v, e = .returned v ∧ R v w1)) : Ru P ops Q o ⟨T, ds⟩ w R := Ru.of fun K hK => by
  rw [if_pos (wanted_none hg _)]
  refine wp_of_enter (f := f) (args := args.toArray) ?_ h hK
  have h1 := evs E ds hargs
  have h2 : fn.name ≠ "runtime.NumGoroutine" := by simpa using hname
  obtain ⟨c, hc⟩ := Option.isSome_iff_exists.1 hb
  have h3 : as.toArray.map (Act.mk T ds).eval = args.toArray := by rw [← h1]; simp
  unfold execOp
  rw [ho]
  simp only [resolve, Act.eval, Deferred.ofValue]
  rw [show (as.toArray.map (Act.mk T ds).eval) = args.toArray from h3]
  simp [invoke, callFunc, hf, h2, hc, go_sem]
end
end Go.Proofs.Ytlnknihjccdgkaa.X
