/-
  The proof of the told and tied card 'Rows.FnSubCountsUndoesItselfToldSaid'. fmt's text is told by the authors' own function; this law does not hang on it: the walk is for every answer.
-/
import Derived.Test.Qxb6608858aFmtShared
import Derived.Test.Qxb6608858aFmtTie
import Derived.Test.Qxb6608858aFmtCards
import Derived.SevenTiedAt
import Derived.Carry
namespace Go.Proofs.Qxb6608858aFmt.fnSubCountsUndoesItself
open Go.ChangeShapes Go.WideShapes Go.ChangeAt Go.RowKit Go.Kit
open Go.ChangeMaps (open_string shut_string)
open Go.Extern.Stop Go.Stop Go.Extern

set_option maxRecDepth 100000 in
theorem lifted (os : Os) (started : os.Started) (H : Type) (enc : TypeId × Value → H) :
    ReturnsInTold none {} Tryf.checked os 3 .any Input.okWide ((OpenSpec.ofChange Rows.fnSubCountsUndoesItselfSpec).preRow enc Tryf.prog Tryf.f3 [] false Rows.fnSubCountsUndoesItselfRow.laid) (fun F => ((OpenSpec.ofChange Rows.fnSubCountsUndoesItselfSpec).at F).post enc Tryf.prog Tryf.f3 false true false false) (aloneAtReturn Tryf.prog) nothingAlways := by
  refine returnsInTold_of_row (C := Tryf.checked) (s := OpenSpec.ofChange Rows.fnSubCountsUndoesItselfSpec) (by kernel_rfl) own started (by kernel_rfl) Tryf.func3
    (OpenSpec.witness_stopped_at (enc := enc) (C := Tryf.checked) false ({ (World.holding Tryf.prog os ⟨#[.cells #[.string ⟨#[115, 105, 122, 101, 32, 111, 117, 116, 32, 111, 102, 32, 114, 97, 110, 103, 101, 58, 32, 97, 116, 32, 109, 111, 115, 116, 32, 49, 56, 52, 52, 54, 55, 52, 52, 48, 55, 51, 55, 48, 57, 53, 53, 49, 54, 49, 53]⟩] 56], #[], []⟩) with heap := (World.holding Tryf.prog os ⟨#[.cells #[.string ⟨#[115, 105, 122, 101, 32, 111, 117, 116, 32, 111, 102, 32, 114, 97, 110, 103, 101, 58, 32, 97, 116, 32, 109, 111, 115, 116, 32, 49, 56, 52, 52, 54, 55, 52, 52, 48, 55, 51, 55, 48, 57, 53, 53, 49, 54, 49, 53]⟩] 56], #[], []⟩).heap.modify 0 fun | .cells _ t frozen => .cells #[.iface 54 (.pointer (some ⟨7, 0, none⟩))] t frozen | o => o }) #[.int .u64 0, .int .u64 0, .string ⟨#[]⟩] rfl (by kernel_rfl) (by kernel_rfl) (by kernel_rfl)
      (OpenSpec.preRow_of_B rfl 8 (by kernel_rfl) (by kernel_rfl) (laid_met os _))) ?_
  intro F W base args ds gs before _ hF hval0 hW _ _ _ hL _
  have hval : ∀ (j : Nat) t v, Tryf.f3.params[j]? = some t → args[j]? = some v → Value.okWide Tryf.prog W .any base t v := hval0
  have hW' := hW
  obtain ⟨p, q, hA0, hV0, rfl, hfz, hnd⟩ := hW
  have hA : DataW.TrodAll enc Tryf.prog W 0 (fun _ => true) true Tryf.f3.params.toList args.toList ds p := hA0
  have hV : DataW.TrodVars enc Tryf.prog W (fun _ => true) [errName] gs q := hV0
  rw [Tryf.params3] at hA hval
  obtain ⟨v0, v1, v2, d0, d1, d2, p0, p1, p2, rfl, rfl, rfl, h0, h1, h2⟩ := trodAll_three hA
  obtain ⟨n0, rfl, rfl, rfl, w0⟩ := open_int Tryf.underlying22 (hval 0 22 v0 rfl rfl) h0
  obtain ⟨n1, rfl, rfl, rfl, w1⟩ := open_int Tryf.underlying22 (hval 1 22 v1 rfl rfl) h1
  obtain ⟨pl, rfl, rfl, rfl, wp⟩ := open_string Tryf.underlying9 (hval 2 9 v2 rfl rfl) h2
  obtain ⟨a1, s1, hv1, hc1, hs1, hz1⟩ := laid_sentinel hL gE gEType Tryf.underlying27 row54 Tryf.underlying54 Tryf.underlying56 rfl rfl Tryf.underlying9 cells56 cells9
  obtain ⟨rfl, rfl⟩ := hV.unique (vars_read1 enc gE gEType Tryf.underlying27 hv1 trivial _)
  clear hA0 hV0 hval0
  have hg1 : W.cell? ⟨0, 0, none⟩ = some (.iface 54 (.pointer (some a1))) := by simpa using World.var?_cell gE hv1 0
  have hB : 0 < W.heap.size := World.block_lt_of_cell? _ _ hg1
  refine (undoes n0 n1 pl a1 s1 W w0 w1 hg1 hc1).mono fun e W' ⟨he, hb⟩ => ?_
  subst he
  have e1 : ((OpenSpec.ofChange Rows.fnSubCountsUndoesItselfSpec).at F.told).fn H ([.lit (.int .u64 n0), .lit (.int .u64 n1), .lit (.string pl.data.toList)] ++ [tok enc (.iface 54 (.pointer (some a1)))]) = { results := [.lit (.bool true)], args := [.lit (.int .u64 n0), .lit (.int .u64 n1), .lit (.string pl.data.toList)], vars := [tok enc (.iface 54 (.pointer (some a1)))] } := rfl
  refine ⟨_, rfl, _, _, _, [], [], [.cell 0 0], hW', ?_, ?_, ?_, hb.frame _, fun h => by cases h⟩
  · rw [e1]; exact trodAll_mk1 (shut_bool Tryf.underlying4 _)
  · rw [e1]; exact trodAll_mk3 (shut_int Tryf.underlying22 w0) (shut_int Tryf.underlying22 w1) (shut_string Tryf.underlying9 wp)
  · rw [e1]; exact vars_read1 enc gE gEType Tryf.underlying27 (var?_below hb gE hB hv1) trivial _

theorem proved : Rows.FnSubCountsUndoesItselfToldSaid :=
  Claim7.holds_of_told_tied_any_at .later 3 Tryf.f3 "fmt.errorf" [] [] _ _ _ _ _ (by kernel_rfl) rfl rfl rfl laidOut (by kernel_rfl) rfl ⟨rfl, rfl, rfl, rfl, rfl, rfl, rfl⟩ rfl rfl (by kernel_rfl) (by kernel_rfl) Tryf.func3 (by kernel_rfl)
    (of_decide_eq_true (by kernel_rfl)) (by unfold Func.isWrapper; first | (rw [if_pos (by decide +kernel)]; kernel_rfl) | (rw [if_neg (by decide +kernel)]; exact ⟨rfl, rfl⟩)) stops.symm rfl stopKnobs.symm (by kernel_rfl)
    (by kernel_rfl) (by kernel_rfl) (by kernel_rfl) (by kernel_rfl) (by kernel_rfl) (by kernel_rfl) (by kernel_rfl) (by kernel_rfl) (by kernel_rfl) rfl (by kernel_rfl) rfl rfl
    rfl rfl
    rfl (by kernel_rfl) (by kernel_rfl) (by kernel_rfl) (by decide) (by kernel_rfl) fnSubCountsUndoesItself_row_tie
    (OpenClaim.moreEntering_of (by kernel_rfl) (by kernel_rfl) (by kernel_rfl) (by kernel_rfl) (by kernel_rfl) (by kernel_rfl) (by kernel_rfl) (by kernel_rfl) (by kernel_rfl) (by kernel_rfl))
    ⟨_, WideRow.started_initial, quiet _⟩
    (fun os started _ H enc _ => lifted os started H enc)
#print axioms proved
end Go.Proofs.Qxb6608858aFmt.fnSubCountsUndoesItself
