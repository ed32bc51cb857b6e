/- Row 40: the law, walked whole. No condition. -/
import Derived.Test.YtikopplofkemlaaDoorT400
import Derived.Test.YtikopplofkemlaaDoorT401
import Derived.Test.YtikopplofkemlaaDoorHd400
import Derived.Test.YtikopplofkemlaaDoorHd401
import Derived.Test.YtikopplofkemlaaDoorHn4
namespace Go.Proofs.YtikopplofkemlaaDoor.Use
open Go.ChangeShapes Go.WideShapes Go.ChangeAt Go.RowKit Go.Sort Own
set_option linter.unusedVariables false
set_option maxRecDepth 100000 in
set_option maxHeartbeats 2000000 in
theorem law40w (a : Option Addr) (n cp : Nat) (z : Nat → ByteArray) (aw : Bool) (w : World) (hg0 : w.cell? ⟨0, 0, none⟩ = some (vU 4294967295)) (hg1 : w.cell? ⟨0, 1, none⟩ = some (vU 4294967295)) (hr : (a = none ∧ n = 0 ∧ cp = 0) ∨ ∃ x, a = some x ∧ n ≤ cp ∧ cp ≤ maxLen ∧ ∀ i, i < n → w.cell? (x.add i) = some (.string (z i)) ∧ (z i).size ≤ maxLen) :
  Calls Tryd.prog 3 #[.slice a n cp, .bool aw] w fun e w' => e = .returned (.bool true) ∧ Below w.heap.size w w' := by
 rcases hr with ⟨rfl, rfl, rfl⟩ | ⟨x, rfl, -, -, hz⟩
 ·cases aw
  ·exact hn400 w w _ _ (fun w3 h3 => ⟨rfl, h3.below⟩) (Own.start w) hg0 hg1
  ·exact hn401 w w _ _ (fun w3 h3 => ⟨rfl, h3.below⟩) (Own.start w) hg0 hg1
 ·have hB : ∀ i : Nat, i < n → w.cell? (x.add i) = some (.string (z i)) := fun i hi => (hz i hi).1
  cases aw
  ·refine hd400 x n cp z w w _ _ (fun w3 h3 => ⟨rfl, h3.below⟩) ?_ (Own.start w) hB hg0 hg1
   unfold Hb400
   intro pb sb c pt mu mp cs ms kx kr nb rb lb tb PC D
   intros
   rename_i w2 hf350 hf32 hf105 hf66 hf117 hf187 hf104 hf333 hf23 hf106 hn4 hij hsp hQ
   by_cases h0 : n = 0
   ·subst h0
    exact z400 z D pb sb c pt mu mp cs ms kx kr tb PC w w2 _ _ (fun w3 h3 => ⟨rfl, h3.below⟩) ((hQ.weaken (fun b o h => Or.inl h)).sub [0, 1, 4, 6, 7, 8, 9, 10, 11, 12] dc) hf350 hf32 hf105 hf66 hf117 hf187 hf104 hf333 hf23 hf106 hg0 hg1
   ·exact t400 n z D pb sb c pt mu mp cs ms kx kr nb rb lb tb PC w w2 _ _ (fun w3 h3 => ⟨rfl, h3.below⟩) hQ hf350 hf32 hf105 hf66 hf117 hf187 hf104 hf333 hf23 hf106 hn4 hij hsp (by omega) hg0 hg1
  ·refine hd401 x n cp z w w _ _ (fun w3 h3 => ⟨rfl, h3.below⟩) ?_ (Own.start w) hB hg0 hg1
   unfold Hb401
   intro pb sb c pt mu mp cs ms kx kr nb rb lb tb PC D
   intros
   rename_i w2 hf350 hf32 hf105 hf66 hf117 hf187 hf104 hf333 hf23 hf106 hn4 hij hsp hQ
   by_cases h0 : n = 0
   ·subst h0
    exact z401 z D pb sb c pt mu mp cs ms kx kr tb PC w w2 _ _ (fun w3 h3 => ⟨rfl, h3.below⟩) ((hQ.weaken (fun b o h => Or.inl h)).sub [0, 1, 4, 6, 7, 8, 9, 10, 11, 12] dc) hf350 hf32 hf105 hf66 hf117 hf187 hf104 hf333 hf23 hf106 hg0 hg1
   ·exact t401 n z D pb sb c pt mu mp cs ms kx kr nb rb lb tb PC w w2 _ _ (fun w3 h3 => ⟨rfl, h3.below⟩) hQ hf350 hf32 hf105 hf66 hf117 hf187 hf104 hf333 hf23 hf106 hn4 hij hsp (by omega) hg0 hg1

end Go.Proofs.YtikopplofkemlaaDoor.Use
