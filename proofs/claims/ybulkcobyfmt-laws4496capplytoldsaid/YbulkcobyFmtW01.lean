import Derived.Test.YbulkcobyFmtKept
namespace Go.Proofs.YbulkcobyFmt
open Go.RowKit Go.Extern.Stop Go.Stop Go.Extern

def noun : ByteArray := ⟨#[111, 112, 101, 114, 97, 110, 100]⟩
set_option maxHeartbeats 400000 in
theorem quantity_any (n : Int) (w : World) :
    Calls Ybaf.prog 23 #[.int .i64 n, .string ⟨#[111, 112, 101, 114, 97, 110, 100]⟩] w fun e w' => ∃ s, e = .returned (.string s) ∧ Kept [] w w' := by
  obtain ⟨T, hT⟩ := sprintfQtyF
  unfold fmtQty at hT
  have hI := isI_mk
  have hS := isS_mk
  by_cases h : n = 1
  · subst h
    go_enter Ybaf.func23, Ybaf.ntmps23
    go_wp2
    go_ret
    exact ⟨_, rfl, Kept.refl _ _⟩
  · have hb : (n == 1) = false := by simpa using h
    go_enter Ybaf.func23, Ybaf.ntmps23
    go_wp2
    go_ret
    exact ⟨_, rfl, ((Kept.refl _ _).alloc _).drew⟩
end Go.Proofs.YbulkcobyFmt
