/- The walks of the message functions, on: the thin package's Message, the reference's. -/
import Derived.Test.YtlnknihjccdgkaaM4
namespace Go.Proofs.Ytlnknihjccdgkaa.M
open Go.RowKit Go.Proofs.YtlnknihjccdgkaaW.PrintWords Go.Proofs.YtlnknihjccdgkaaW.PrintLast Go.Proofs.YtlnknihjccdgkaaW.PrintMore Go.Proofs.Ytlnknihjccdgkaa.PFnMessage
set_option linter.unusedVariables false
set_option linter.unusedSimpArgs false

theorem ivote (kind height round place : Int) (addr : ByteArray) (v1 : Value) (parts : Int) (v2 : Value) (s ns : Int) (v3 : Value) (w : World) (ob : Option (List Int × Int × List Int))
    (hN : NumOk kind height round s ns) (hI : IdOk w v1 parts v2 ob) (h3 : ∃ A n c, v3 = .slice A n c) (hpl : -2147483648 ≤ place ∧ place < 2147483648) (had : addr.size < 2 ^ 40) :
    Calls Try.prog 11 #[.agg (ivoteCells kind height round place addr v1 parts v2 s ns v3)] w (VotePost w kind height round place addr v1 parts v2 s ns v3) := by
  obtain ⟨⟨A, n, c, rfl⟩, ⟨A2, n2, c2, rfl⟩⟩ := idOk_slices hI
  obtain ⟨A3, n3, c3, rfl⟩ := h3
  exact ivote0 kind height round place addr A n c parts A2 n2 c2 s ns A3 n3 c3 w hN (idOk_parts hI) hpl had

set_option maxHeartbeats 8000000 in
set_option maxRecDepth 100000 in
theorem imessage (chain : ByteArray) (kind height round place : Int) (addr : ByteArray) (v1 : Value) (parts : Int) (v2 : Value) (s ns : Int) (v3 : Value) (w : World) (ob : Option (List Int × Int × List Int))
    (hN : NumOk kind height round s ns) (hI : IdOk w v1 parts v2 ob) (h3 : ∃ A n c, v3 = .slice A n c) (hpl : -2147483648 ≤ place ∧ place < 2147483648) (had : addr.size < 2 ^ 40) (hch : chain.size < 2 ^ 40) :
    Calls Try.prog 6 #[.string chain, .agg (ivoteCells kind height round place addr v1 parts v2 s ns v3)] w (Chain w (delim (body (bytesOf chain) kind height round (idB ob) s ns))) := by
  have HN := Aside0.mk hN
  have HI := Aside0.mk hI
  have HP := Aside0.mk hpl
  have HA := Aside0.mk had
  have HC := Aside0.mk hch
  obtain ⟨⟨A, n, c, rfl⟩, ⟨A2, n2, c2, rfl⟩⟩ := idOk_slices hI
  obtain ⟨A3, n3, c3, rfl⟩ := h3
  clear hN hI hpl had hch
  unfold ivoteCells
  go_enter Try.func6, Try.ntmps6
  go_wp2_with fail
  refine (ivote kind height round place addr (.slice A n c) parts (.slice A2 n2 c2) s ns (.slice A3 n3 c3) _ ob HN.out (HI.out.below (below_alloc (Below.refl _ _) _)) ⟨_, _, _, rfl⟩ HP.out HA.out).mono ?_
  rintro e w1 ⟨g, va, rfl, hb, _, _, hg⟩
  have HB1 := Aside0.mk (below_step (below_alloc (Below.refl _ _) _) hb)
  have HG := Aside0.mk hg
  clear hb hg
  go_wp2_with fail
  refine (vsb chain g kind height round _ parts _ s ns va place _ _ _ ob w1 HN.out (HI.out.below HB1.out) HC.out HG.out).mono ?_
  rintro e w2 ⟨v2, rfl, ho⟩
  have HO2 := Aside0.mk ho
  clear ho
  go_wp2
  go_ret
  exact ⟨_, rfl, Own.of_R (Kd.R_lower HO2.out.row HB1.out.size) (below_step HB1.out HO2.out.below)⟩
end Go.Proofs.Ytlnknihjccdgkaa.M
