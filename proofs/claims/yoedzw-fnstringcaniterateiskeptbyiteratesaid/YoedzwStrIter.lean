/-
  THE WALK OF (*String).Iterate on a String whose runes are not cached yet: an iterator at 0 over as many runes as the decoder counts.
-/
import Derived.Test.YoedzwRows
import Derived.Test.YoedzwStrPlain
import Derived.WalkKit
import Derived.WalkLawsBesides
import Derived.WalkSpells
import Derived.BigRegion
namespace Go.Proofs.Yoedzw.Sp
open Go.RowKit

theorem iter_end (w : World) (b : Nat) (v : Value) (C : Array Value) (t : TypeId) (x0 x1 x2 : Value) (u : TypeId) :
    w.heap.size ≤ w.heap.size + 1 ∧ w.heap.size + 1 < (((w.setCell ⟨b, 1, none⟩ v).alloc (.cells C t)).alloc (.cells #[x0, x1, x2] u)).drew.drew.heap.size ∧
    (((w.setCell ⟨b, 1, none⟩ v).alloc (.cells C t)).alloc (.cells #[x0, x1, x2] u)).drew.drew.cell? ⟨w.heap.size + 1, 1, none⟩ = some x1 ∧
    (((w.setCell ⟨b, 1, none⟩ v).alloc (.cells C t)).alloc (.cells #[x0, x1, x2] u)).drew.drew.cell? ⟨w.heap.size + 1, 2, none⟩ = some x2 ∧
    (((w.setCell ⟨b, 1, none⟩ v).alloc (.cells C t)).alloc (.cells #[x0, x1, x2] u)).drew.drew.frozen? ⟨w.heap.size + 1, 1, none⟩ = false ∧
    ∀ W : World, W.heap.size ≤ b → Grown W w → Grown W (((w.setCell ⟨b, 1, none⟩ v).alloc (.cells C t)).alloc (.cells #[x0, x1, x2] u)).drew.drew := by
  have hz : w.heap.size + 1 = ((w.setCell ⟨b, 1, none⟩ v).alloc (.cells C t)).heap.size := by simp
  refine ⟨by omega, by simp, ?_, ?_, ?_, fun W hW hg => ?_⟩
  · exact World.cell?_alloc_at #[x0, x1, x2] u _ 1 hz
  · exact World.cell?_alloc_at #[x0, x1, x2] u _ 2 hz
  · exact World.frozen?_alloc_at #[x0, x1, x2] u _ 1 hz
  exact (((hg.setCell (a := ⟨b, 1, none⟩) hW v).alloc C t).alloc #[x0, x1, x2] u).drew.drew

set_option maxHeartbeats 400000 in
theorem iter_any (s : ByteArray) (b : Nat) (hs : s.size ≤ 1048576) (w : World)
    (c0 : w.cell? ⟨b, 0, none⟩ = some (.string s)) (c1 : w.cell? ⟨b, 1, none⟩ = some (.slice none 0 0)) (hf : w.frozen? ⟨b, 1, none⟩ = false) (hb : b < w.heap.size) :
    Calls Edzg.prog 6 #[.pointer (some ⟨b, 0, none⟩)] w fun e w' => ∃ bi, e = .returned (.iface 47 (.pointer (some ⟨bi, 0, none⟩))) ∧ w.heap.size ≤ bi ∧ bi < w'.heap.size ∧
      w'.cell? ⟨bi, 1, none⟩ = some (.int .i64 0) ∧ w'.cell? ⟨bi, 2, none⟩ = some (.int .i64 (cnt s 0)) ∧ w'.frozen? ⟨bi, 1, none⟩ = false ∧ ∀ W, W.heap.size ≤ b → Grown W w → Grown W w' := by
  have hcn := cnt_le s 0
  have hrun := fun w => run_runes_of_string (P := Edzg.prog) w 9 26 21 s Edzg.underlying9 Edzg.underlying26 Edzg.underlying21 (by rw [runes_cnt]; omega)
  rw [runes_cnt] at hrun
  have hnil := fun w a l c => Lib.run_eql_slice_nil (P := Edzg.prog) w 26 21 a l c 0 0 Edzg.underlying26
  generalize hC : Conv.runesFrom s s.size 0 #[] = C at hrun
  generalize cnt s 0 = n at hrun hcn ⊢
  clear hC
  go_enter Edzg.func6, Edzg.ntmps6
  go_wp2
  clear hrun hnil
  go_region
  go_wp2
  go_ret
  exact ⟨w.heap.size + 1, rfl, iter_end w b _ _ 21 _ _ _ 49⟩
end Go.Proofs.Yoedzw.Sp
