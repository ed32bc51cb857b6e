/- What the split of an array leaves. No condition. -/
import Derived.Test.YtghofdhhhbbaaaaGreatDoorMno
import Derived.Test.YtghofdhhhbbaaaaGreatDoorIts
import Derived.Test.YtghofdhhhbbaaaaGreatDoorIfm
import Derived.Test.YtghofdhhhbbaaaaGreatDoorSla
import Derived.Test.YtghofdhhhbbaaaaGreatDoorLoop
import Derived.Test.YtghofdhhhbbaaaaGreatDoorMini
import Derived.Test.YtghofdhhhbbaaaaGreatDoorAppL
import Derived.Test.YtghofdhhhbbaaaaGreatDoorApp
import Derived.Test.YtghofdhhhbbaaaaGreatDoorOwnK
import Derived.Test.YtghofdhhhbbaaaaGreatDoorOwn
import Derived.Test.YtghofdhhhbbaaaaGreatDoorDeepCells
import Derived.Test.YtghofdhhhbbaaaaGreatDoorRows
import Derived.Test.YtghofdhhhbbaaaaGreatDoorLive
namespace Go.Proofs.YtghofdhhhbbaaaaGreatDoor.Use
open Go.ChangeShapes Go.WideShapes Go.ChangeAt Go.RowKit Go.Sort Own
set_option linter.unusedVariables false
def xt : Nat → Nat
  | 0 => 0
  | _ + 1 => 1
def putE (l : List Value) (i : Nat) (vs : List Value) : List Value := l.take (i * 2) ++ vs ++ l.drop (i * 2 + vs.length)
theorem putE_length {l : List Value} {i : Nat} {vs : List Value} (h : i * 2 + vs.length ≤ l.length) : (putE l i vs).length = l.length := by
  unfold putE
  simp only [List.length_append, List.length_take, List.length_drop]
  omega
def pcW (PC : Array Value) (i n x sb c qb cq : Nat) : Array Value := ((PC.setIfInBounds 287 (.int .i64 ((i + 1 + x : Nat) : Int))).setIfInBounds 106 (.slice (some ⟨sb, 0, none⟩) (n + 2 + x) (n + 2 + x + c))).setIfInBounds 199 (.slice (some ⟨qb, 0, none⟩) (1 + x) (1 + x + cq))
theorem tow0 (X : Array Value) (a b c b' : Value) : (((X.setIfInBounds 287 a).setIfInBounds 106 b).setIfInBounds 199 c).setIfInBounds 106 b' = ((X.setIfInBounds 287 a).setIfInBounds 106 b').setIfInBounds 199 c := by
  rw [Array.setIfInBounds_comm (i := 199) (j := 106) _ _ (by decide), Array.setIfInBounds_setIfInBounds]
theorem tow1 (X : Array Value) (a b c a' b' c' b2 : Value) : ((((((X.setIfInBounds 287 a).setIfInBounds 106 b).setIfInBounds 199 c).setIfInBounds 287 a').setIfInBounds 106 b').setIfInBounds 199 c').setIfInBounds 106 b2 = ((X.setIfInBounds 287 a').setIfInBounds 106 b2).setIfInBounds 199 c' := by
  rw [tow0, Array.setIfInBounds_comm (i := 199) (j := 287) _ _ (by decide), Array.setIfInBounds_comm (i := 106) (j := 287) _ _ (by decide), Array.setIfInBounds_setIfInBounds, tow0, Array.setIfInBounds_setIfInBounds]
def stW : Nat → Nat → Nat → List Sy → List Sy
  | 0, i, n, st => bump (bump ((st ++ [syk (tn i) 27]) ++ [syk ⟨#[95, 95, 111, 98, 106, 82, 101, 115, 116]⟩ 27]) (n + 1)) n
  | _ + 1, i, n, st => bump (bump (bump (bump ((st ++ [syk (tn i) 27]) ++ [syk (tn (i + 1)) 27]) (n + 1)) (n + 1) ++ [syk ⟨#[95, 95, 111, 98, 106, 82, 101, 115, 116]⟩ 27]) (n + 2)) n
def rfN (src : Int) (n : Nat) : List Value := [.int .u32 src, .int .u32 (n : Int)]
theorem ln1 {st : List Sy} {n : Nat} {a : Sy} (hn : st.length = n) : (st ++ [a]).length = n + 1 := by simp [hn]
theorem lnb {st : List Sy} {n i : Nat} (hn : st.length = n) : (bump st i).length = n := (bump_length _ _).trans hn
def gW : Nat → Int → Nat → List Value
  | 0, src, n => rfN src n ++ rfN src (n + 1)
  | _ + 1, src, n => (rfN src n ++ rfN src (n + 1)) ++ rfN src (n + 2)
def tqN (src : Int) (n : Nat) : List Value := [.nilIface, .int .i32 0, .int .u32 src, .int .u32 (n : Int)]
def qW : Nat → Int → Nat → List Value
  | 0, src, n => tqN src n
  | _ + 1, src, n => tqN src n ++ tqN src (n + 1)
def iW : Nat → List Value → Nat → Nat → Nat → List Value
  | 0, l, m, b, _ => putE l m [.iface 56 (.pointer (some ⟨b, 0, none⟩)), .int .i32 0]
  | _ + 1, l, m, b, b2 => putE (putE l m [.iface 56 (.pointer (some ⟨b, 0, none⟩)), .int .i32 0]) (m + 1) [.iface 218 (.pointer (some ⟨b2, 0, none⟩)), .int .i32 0]

end Go.Proofs.YtghofdhhhbbaaaaGreatDoor.Use
