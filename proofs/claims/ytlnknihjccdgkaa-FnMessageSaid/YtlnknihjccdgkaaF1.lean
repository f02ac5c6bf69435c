/- The law's parts: the reference's message of any vote, the vote turned, the blocks read. -/
import Derived.Test.YtlnknihjccdgkaaB1
import Derived.Test.YtlnknihjccdgkaaM5
import Derived.Test.YtlnknihjccdgkaaM7
namespace Go.Proofs.Ytlnknihjccdgkaa.M
open Go.RowKit Go.Proofs.YtlnknihjccdgkaaW.PrintWords Go.Proofs.YtlnknihjccdgkaaW.PrintLast Go.Proofs.YtlnknihjccdgkaaW.PrintMore Go.Proofs.Ytlnknihjccdgkaa.PFnMessage
set_option linter.unusedVariables false
set_option linter.unusedSimpArgs false

theorem smessage (chain : ByteArray) (kind height round place : Int) (addr : ByteArray) (A1 : Option Addr) (n1 c1 : Nat) (parts : Int) (A2 : Option Addr) (n2 c2 : Nat) (s ns : Int) (A3 : Option Addr) (n3 c3 : Nat) (ob : Option (List Int × Int × List Int)) (w : World)
    (hN : NumOk kind height round s ns) (hI : IdOk w (.slice A1 n1 c1) parts (.slice A2 n2 c2) ob) (hch : chain.size < 2 ^ 40) :
    Calls Try.prog 8 #[.agg (ivoteCells kind height round place addr (.slice A1 n1 c1) parts (.slice A2 n2 c2) s ns (.slice A3 n3 c3)), .string chain] w (Chain w (delim (body (bytesOf chain) kind height round (idB ob) s ns))) := by
  rcases ob with _ | ⟨l1, p, l2⟩
  · exact smessage0 chain kind height round place addr A1 n1 c1 parts A2 n2 c2 s ns A3 n3 c3 w hN hI hch
  · exact smessage1 chain kind height round place addr A1 n1 c1 parts A2 n2 c2 s ns A3 n3 c3 l1 p l2 w hN hI hch
set_option maxHeartbeats 8000000 in
set_option maxRecDepth 1000000 in
theorem vote_c (kind height round place : Int) (addr : ByteArray) (A1 : Option Addr) (n1 c1 : Nat) (parts : Int) (A2 : Option Addr) (n2 c2 : Nat) (s ns : Int) (A3 : Option Addr) (n3 c3 : Nat) (w : World) :
    Calls Try.prog 7 #[.agg (ivoteCells kind height round place addr (.slice A1 n1 c1) parts (.slice A2 n2 c2) s ns (.slice A3 n3 c3))] w fun e w' => e = .returned (.agg (ivoteCells kind height round place addr (.slice A1 n1 c1) parts (.slice A2 n2 c2) s ns (.slice A3 n3 c3))) ∧ Below w.heap.size w w' := by
  unfold ivoteCells
  go_enter Try.func7, Try.ntmps7
  go_wp2_with fail
  refine bodyPost_ret (results_cell_row rfl _ _ (w.heap.size + 1) 36 _ (0, 0) _ rfl ?_ Try.underlying36 rfl (by kernel_rfl)) rfl ⟨rfl, below_alloc (below_alloc (Below.refl _ _) _) _⟩
  have hn := blk_new (w.alloc (.cells #[.int .i64 kind, .int .i64 height, .int .i64 round, .int .i64 place, .string addr, .slice A1 n1 c1, .int .i64 parts, .slice A2 n2 c2, .int .i64 s, .int .i64 ns, .slice A3 n3 c3] 31)) (.cells #[.int .i64 kind, .int .i64 height, .int .i64 round, .int .i64 place, .string addr, .slice A1 n1 c1, .int .i64 parts, .slice A2 n2 c2, .int .i64 s, .int .i64 ns, .slice A3 n3 c3] 36)
  simpa using hn
theorem bks_form {W : World} {base : Nat} {ok : Nat → Prop} {v : Value} (h : kblk.R 27 W base ok v (bks 3)) : ∃ gb cb, v = .slice (some ⟨gb, 0, none⟩) 4 cb := by
  obtain ⟨inner, ho⟩ := Kd.R_own h
  obtain ⟨g, cap, e, _⟩ := ho.form (by decide : 0 < (bks 3).length)
  exact ⟨g, cap, e⟩
theorem bks_get (k : Nat) (hk : k < 4) : ∃ x ob, (bks 3)[k]? = some x ∧ ∀ (W : World) (v1 v2 : Value), RdB W v1 x.1 → RdB W v2 x.2.2 → IdOk W v1 x.2.1 v2 ob := by
  match k, hk with
  | 0, _ => exact ⟨([], 0, []), none, rfl, fun W v1 v2 h1 h2 => ⟨h1, rfl, h2⟩⟩
  | 1, _ => exact ⟨(sumF [0], 1, sumF [0, 1]), some (sumF [0], 1, sumF [0, 1]), rfl, fun W v1 v2 h1 h2 => ⟨h1, rfl, h2, sumF_len _, sumF_len _, by decide, by decide⟩⟩
  | 2, _ => exact ⟨(sumF [1], 2, sumF [1, 1]), some (sumF [1], 2, sumF [1, 1]), rfl, fun W v1 v2 h1 h2 => ⟨h1, rfl, h2, sumF_len _, sumF_len _, by decide, by decide⟩⟩
  | 3, _ => exact ⟨(sumF [2], 3, sumF [2, 1]), some (sumF [2], 3, sumF [2, 1]), rfl, fun W v1 v2 h1 h2 => ⟨h1, rfl, h2, sumF_len _, sumF_len _, by decide, by decide⟩⟩
theorem bks_at {W : World} {base gb cb : Nat} {ok : Nat → Prop} (h : kblk.R 27 W base ok (.slice (some ⟨gb, 0, none⟩) 4 cb) (bks 3)) (k : Nat) (hk : k < 4) :
    ∃ A1 n1 c1 p A2 n2 c2 ob, W.cell? ⟨gb, k * 3, none⟩ = some (.slice A1 n1 c1) ∧ W.cell? ⟨gb, k * 3 + 1, none⟩ = some (.int .i64 p) ∧ W.cell? ⟨gb, k * 3 + 2, none⟩ = some (.slice A2 n2 c2) ∧ IdOk W (.slice A1 n1 c1) p (.slice A2 n2 c2) ob := by
  obtain ⟨x, ob, hx, hid⟩ := bks_get k hk
  obtain ⟨h4, _, hc⟩ := Kd.R_reads' h
  obtain ⟨ad, e, hrow⟩ := hc.2.2 (by decide)
  injection e with e
  subst e
  obtain ⟨c, hl, hK, hcell⟩ := hrow k x hx
  obtain ⟨c0, c1, rfl, ⟨A1, k1, rfl, hc1, hC1⟩, c2, c3, rfl, hk2, A2, k2, rfl, hc2, hC2⟩ := hK
  have hk2' : c2 = [.int .i64 x.2.1] := hk2
  subst hk2'
  have e3 : ∀ i, Addr.add ⟨gb, 0, none⟩ i = ⟨gb, i, none⟩ := fun i => by simp [Addr.add]; intro h; exact h.symm
  have h0 := hcell 0 _ rfl
  have h1 := hcell 1 _ rfl
  have h2 := hcell 2 _ rfl
  rw [e3] at h0 h1 h2
  exact ⟨_, _, _, _, _, _, _, ob, h0, h1, h2, hid W _ _ ⟨_, _, rfl, hc1, hC1⟩ ⟨_, _, rfl, hc2, hC2⟩⟩
theorem store_rowS {P : Program} {ops : Array Oper} {Q : Exit → Act → World → Prop} {oi : Oper} {a : Act} {w : World} {K : Act → World → Prop} (hw : Region.wanted oi (yielded ops a.tmps) = true) (hN : oi.dst = none) (ty : TypeId) (x y : Operand) (ho : oi.op = .store ty x y)
    (g : Nat) (cells : Array Value) (hx : a.eval x = .pointer (some ⟨g, 0, none⟩)) (hy : a.eval y = .agg cells)
    (t : TypeId) (old : Array Value) (hg : w.heap[g]? = some (.cells old t (0, 0))) (hi : (P.info? ty).map (·.size) = some cells.size)
    (hold : old.size = cells.size) (h1 : cells.all (·.oneCell') = true)
    (h : ∀ w', w'.heap[g]? = some (.cells cells t (0, 0)) → KeepBut w w' g none → Below g w w' → K a w') : if Region.wanted oi (yielded ops a.tmps) = true then Oper.wp P oi a w K Q else K (a.put none undef) w := by
  rw [if_pos hw]
  refine wp_store_row ty x y ho g cells hx hy t old hg hi hold h1 ?_
  rw [hN]
  refine h _ (setRow_heap w g old cells t (0, 0) hg) ⟨by simp [World.setRow], fun i hi hne _ => by simp [World.setRow, Array.getElem?_modify]; intro e; exact absurd e.symm hne⟩ ⟨rfl, rfl, rfl, by simp [World.setRow], fun k hk => by simp [World.setRow, Array.getElem?_modify]; intro e; omega⟩
end Go.Proofs.Ytlnknihjccdgkaa.M
