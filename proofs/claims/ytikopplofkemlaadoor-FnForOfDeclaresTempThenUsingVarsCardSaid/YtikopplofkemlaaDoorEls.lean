/- Elements of lists; the rest of finalize. No condition. -/
import Derived.Test.YtikopplofkemlaaDoorUmp
namespace Go.Proofs.YtikopplofkemlaaDoor.Use
open Go.ChangeShapes Go.WideShapes Go.ChangeAt Go.RowKit Go.Sort Own
set_option linter.unusedVariables false
def stmZ : Array Value := #[.nilIface, vI 0]
theorem infoStm : (Tryd.prog.info? 61).map (fun i => (i.zero, i.size, i.bytes)) = some (some (.agg stmZ), 2, 24) := by kernel_rfl
def dsyZ : Array Value := #[vU 0, vU 0, bF]
theorem infoDsy : (Tryd.prog.info? 113).map (fun i => (i.zero, i.size, i.bytes)) = some (some (.agg dsyZ), 3, 12) := by kernel_rfl
def cutC : Nat → Code → Code
 | 0, c => c
 | n + 1, .seq _ b => cutC n b
 | _, c => c
noncomputable def restA : Code := cutC 6 (Tryd.f39.body.getD .skip)
noncomputable def restB : Code := cutC 21 (Tryd.f39.body.getD .skip)

/-- The symbols behind finalize's first part. -/
def stF0 (st : List Sy) (si n : Nat) : List Sy := bump ((bump (bump (bump (((st ++ [syk ⟨#[95]⟩ 27]) ++ [syk ⟨#[95, 101, 114, 114, 111, 114]⟩ 27]) ++ [syk ⟨#[95, 104, 97, 115, 69, 114, 114, 111, 114]⟩ 27]) si) (n + 1)) (n + 1 + 1)) ++ [syk ⟨#[95, 95, 99, 97, 108, 108, 68, 105, 115, 112, 111, 115, 101]⟩ 27]) (n + 1 + 1 + 1)
def stF1 (st : List Sy) (si n : Nat) : List Sy := bump (bump ((stF0 st si n) ++ [syk ⟨#[95, 112, 114, 111, 109, 105, 115, 101]⟩ 27]) (n + 1 + 1 + 1 + 1)) (n + 1 + 1 + 1 + 1)
theorem stF0_length (st : List Sy) (si n : Nat) : (stF0 st si n).length = st.length + 4 := by simp [stF0, bump_length]
theorem stF1_length (st : List Sy) (si n : Nat) : (stF1 st si n).length = st.length + 5 := by simp [stF1, stF0, bump_length]

end Go.Proofs.YtikopplofkemlaaDoor.Use
