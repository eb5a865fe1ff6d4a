/-
  What both cards of this seat share: the closed facts on the program, on the sentinel and on a start that fits.
-/
import Derived.Test.Qxb6608858aFmtLaws
import Derived.ChangeSame
import Derived.ChangeVars
import Derived.ChangeMaps5
import Derived.JoinedOf
import Derived.RowKitTokens
import Derived.Stop.JoinedAt
import Derived.Stop.Texts
import Derived.Stop.ErrReads
import Derived.Stop.LaidErr
import Derived.Stop.JoinedTold
import Derived.WalkSmall
namespace Go.Proofs.Qxb6608858aFmt
open Go.ChangeShapes Go.WideShapes Go.ChangeAt Go.RowKit Go.Kit
open Go.ChangeMaps (open_string shut_string)
open Go.Extern.Stop Go.Stop Go.Extern

theorem own : ownKnob Tryf.prog.godebug = none := by kernel_rfl
theorem laidOut : laidOutB Tryf.pinned.checked.prog = true := by kernel_rfl
theorem stops : Tryf.pinned.checked.prog.stops = ["fmt.errorf"] := by kernel_rfl
theorem stopKnobs : Tryf.pinned.checked.prog.stopKnobs = [] := by kernel_rfl
theorem quiet (os : Os) : Stop.quiet Tryf.pinned.checked.prog os := by
  intro k hk
  rw [stopKnobs] at hk
  cases hk

def errName : String := Rows.fnSubCountsUndoesItselfSpec.vars.headD "none"
theorem gE : Tryf.prog.globalNamed errName = some 0 := by kernel_rfl
theorem gEType : (Tryf.prog.globals[0]?).map (·.type) = some 27 := by kernel_rfl
theorem cells56 : Tryf.prog.cellsOf 56 = 1 := by kernel_rfl
theorem cells9 : Tryf.prog.cellsOf 9 = 1 := by kernel_rfl
theorem row54 (u : TypeId) (h : Tryf.prog.typeName? 3 u = some Tryf.t54.str) : u = 54 :=
  typeName_ptr_named (nm := "errors.errorString") (by kernel_rfl) (by kernel_rfl) (by decide) u (h.trans (congrArg some (by decide)))

/-- One start that fits: the sentinel as its initialiser lays it. -/
theorem laid_met (os : Os) (args : Array Value) : laidMet Tryf.prog Rows.fnSubCountsUndoesItselfRow.laid (({ (World.holding Tryf.prog os ⟨#[.cells #[.string ⟨#[115, 105, 122, 101, 32, 111, 117, 116, 32, 111, 102, 32, 114, 97, 110, 103, 101, 58, 32, 97, 116, 32, 109, 111, 115, 116, 32, 49, 56, 52, 52, 54, 55, 52, 52, 48, 55, 51, 55, 48, 57, 53, 53, 49, 54, 49, 53]⟩] 56], #[], []⟩) with heap := (World.holding Tryf.prog os ⟨#[.cells #[.string ⟨#[115, 105, 122, 101, 32, 111, 117, 116, 32, 111, 102, 32, 114, 97, 110, 103, 101, 58, 32, 97, 116, 32, 109, 111, 115, 116, 32, 49, 56, 52, 52, 54, 55, 52, 52, 48, 55, 51, 55, 48, 57, 53, 53, 49, 54, 49, 53]⟩] 56], #[], []⟩).heap.modify 0 fun | .cells _ t frozen => .cells #[.iface 54 (.pointer (some ⟨7, 0, none⟩))] t frozen | o => o } : World).forCall (fun _ _ => 0) ⟨#[], args, []⟩).memory :=
  laidMet_of_run (ps := [.cell 0 0, .cell 7 0]) 8 (by kernel_rfl) (by kernel_rfl) (by kernel_rfl)

theorem bounds_u {n : Int} (h : (Lit.int .u64 n).wf = true) : 0 ≤ n ∧ n ≤ 18446744073709551615 := by
  simp [Lit.wf, IntKind.min, IntKind.max, IntKind.signed, IntKind.bits] at h
  omega

theorem wrap_less (a b : Int) (a1 : a ≤ 18446744073709551615) (b1 : b ≤ 18446744073709551615) (h : 18446744073709551615 < a + b) : IntKind.u64.wrap (a + b) < a := by
  rw [IntKind.wrap_u64]
  omega

/-- The law of FnSubCountsUndoesItself, whatever the inputs. -/
theorem undoes (n m : Int) (p : ByteArray) (a : Addr) (s : ByteArray) (w : World) (wn : (Lit.int .u64 n).wf = true) (wm : (Lit.int .u64 m).wf = true)
    (hg : w.cell? ⟨0, 0, none⟩ = some (.iface 54 (.pointer (some a)))) (hs : w.cell? a = some (.string s)) :
    Calls Tryf.prog 3 #[.int .u64 n, .int .u64 m, .string p] w fun e w' => e = .returned (.bool true) ∧ Below w.heap.size w w' := by
  have hn := bounds_u wn
  have hm := bounds_u wm
  by_cases hl : (1048576 : Int) < p.size
  · exact u_long n m p w hl
  by_cases hnm : n < m
  · exact u_low n m p a s w hl hnm hg hs
  · exact u_ok n m p w hl hnm (by omega) (by omega)

/-- The law of FnSubCountsInSteps, whatever the inputs. -/
theorem steps (n a b : Int) (p : ByteArray) (ad : Addr) (s : ByteArray) (w : World) (wn : (Lit.int .u64 n).wf = true) (wa : (Lit.int .u64 a).wf = true) (wb : (Lit.int .u64 b).wf = true)
    (hg : w.cell? ⟨0, 0, none⟩ = some (.iface 54 (.pointer (some ad)))) (hs : w.cell? ad = some (.string s)) :
    Calls Tryf.prog 4 #[.int .u64 n, .int .u64 a, .int .u64 b, .string p] w fun e w' => e = .returned (.bool true) ∧ Below w.heap.size w w' := by
  have hn := bounds_u wn
  have ha := bounds_u wa
  have hb := bounds_u wb
  by_cases hl : (1048576 : Int) < p.size
  · exact s_long n a b p w hl
  by_cases hna : n < a
  · exact s_first n a b p ad s w hl hna hg hs
  by_cases hab : a + b ≤ n
  · exact s_both n a b p w hl (by omega) (by omega) hab (by omega)
  by_cases hw : a + b ≤ 18446744073709551615
  · exact s_second n a b p ad s w hl (by omega) (by omega) (by omega) (by omega) hw (by omega) hg hs
  · exact s_wraps n a b p ad s w hl (by omega) (by omega) (by omega) (wrap_less a b (by omega) (by omega) (by omega)) (by omega) hg hs
end Go.Proofs.Qxb6608858aFmt
