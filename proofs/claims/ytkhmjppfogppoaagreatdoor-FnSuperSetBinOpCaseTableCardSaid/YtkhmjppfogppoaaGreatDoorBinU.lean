/- A compound super property assignment, in any context. No condition. -/
import Derived.Test.YtkhmjppfogppoaaGreatDoorUni
import Derived.Test.YtkhmjppfogppoaaGreatDoorCapS
import Derived.Test.YtkhmjppfogppoaaGreatDoorLiveG
import Derived.Test.YtkhmjppfogppoaaGreatDoorLive
import Derived.Test.YtkhmjppfogppoaaGreatDoorApp
import Derived.Test.YtkhmjppfogppoaaGreatDoorOwnK
import Derived.Test.YtkhmjppfogppoaaGreatDoorOwn
import Derived.Test.YtkhmjppfogppoaaGreatDoorDeepCells
import Derived.Test.YtkhmjppfogppoaaGreatDoorRows
import Derived.Test.YtkhmjppfogppoaaGreatDoorUse
namespace Go.Proofs.YtkhmjppfogppoaaGreatDoor.Use
open Go.ChangeShapes Go.WideShapes Go.ChangeAt Go.RowKit Go.Sort Own
set_option linter.unusedVariables false
noncomputable def rbinopU2E (pb : Nat) (PC : Array Value) (sb : Nat) (c : Nat) (mp : Nat) (ms : Nat) (MC : Array Value) (cr : Nat) (loc : Int) (r : Bool) (s : Bool) (eb : Nat) (ub : Nat) (ln : Nat) (cp : Nat) (kl : Int) (op : Int) (vT : Nat) (vx : Nat) (vl : Int) (B1_3 : Nat) (B1_2 : Nat) (B1 : Nat) (nd4 : Nat) (nd5 : Nat) (nd6 : Nat) : Nat → Rega.Atoms → Value
  | 0, α => .func (Fn.func 54) #[] #[.pointer (some ⟨nd5, 0, none⟩)]
  | 1, α => .pointer (some ⟨pb, 0, none⟩)
  | 2, α => .agg #[.int .i32 loc]
  | 3, α => .func (Fn.func 61) #[] #[.pointer (some ⟨nd4, 0, none⟩), .pointer (some ⟨nd6, 0, none⟩)]
  | 4, α => .agg #[.iface 195 (.pointer (some ⟨α 4, 0, none⟩)), .int .i32 kl]
  | 5, α => .pointer (some ⟨B1_2, 1, none⟩)
  | 6, α => .agg #[.int .i32 vl]
  | 7, α => .int .u8 op
  | 8, α => .pointer (some ⟨pb, 0, none⟩)
  | 9, α => .agg #[.int .i32 loc]
  | 10, α => .func (Fn.func 61) #[] #[.pointer (some ⟨nd4, 0, none⟩), .pointer (some ⟨nd6, 0, none⟩)]
  | 11, α => .agg #[.iface 195 (.pointer (some ⟨α 11, 0, none⟩)), .int .i32 kl]
  | 12, α => .agg #[.iface 251 (.pointer (some ⟨α 12, 0, none⟩)), .int .i32 loc]
  | 13, α => .agg #[.iface vT (.pointer (some ⟨vx, 0, none⟩)), .int .i32 vl]
  | 14, α => .agg #[.iface 251 (.pointer (some ⟨α 12, 0, none⟩)), .int .i32 loc, .iface vT (.pointer (some ⟨vx, 0, none⟩)), .int .i32 vl, .int .u8 op, .bool false]
  | 15, α => .pointer (some ⟨α 15, 0, none⟩)
  | 16, α => .iface 235 (.pointer (some ⟨α 15, 0, none⟩))
  | 17, α => .agg #[.iface 235 (.pointer (some ⟨α 15, 0, none⟩)), .int .i32 vl]
  | 18, α => .agg #[.iface 251 (.pointer (some ⟨α 18, 0, none⟩)), .int .i32 loc]
  | 19, α => .agg #[.iface 251 (.pointer (some ⟨α 18, 0, none⟩)), .int .i32 loc]
  | 20, α => undef
  | _, _ => undef
noncomputable def rbinopU2Anc : Nat → List Nat
  | 4 => [3]
  | 6 => [5]
  | 11 => [3, 4, 10]
  | 12 => [3, 4, 8, 9, 10, 11]
  | 14 => [3, 4, 7, 8, 9, 10, 11, 12, 13]
  | 15 => [3, 4, 7, 8, 9, 10, 11, 12, 13, 14]
  | 16 => [3, 4, 7, 8, 9, 10, 11, 12, 13, 14, 15]
  | 17 => [3, 4, 5, 6, 7, 8, 9, 10, 11, 12, 13, 14, 15, 16]
  | 18 => [1, 2, 3, 4, 5, 6, 7, 8, 9, 10, 11, 12, 13, 14, 15, 16, 17]
  | 19 => [0, 1, 2, 3, 4, 5, 6, 7, 8, 9, 10, 11, 12, 13, 14, 15, 16, 17, 18]
  | 20 => [0, 1, 2, 3, 4, 5, 6, 7, 8, 9, 10, 11, 12, 13, 14, 15, 16, 17, 18, 19]
  | _ => []
noncomputable def rbinopU2Trn : Nat → List Nat
  | 12 => [5999, 6999, 7999, 8999]
  | 18 => [5999, 6999, 7999, 8999, 6012]
  | 20 => [2999]
  | _ => []
noncomputable def rbinopU2Cnt : List (Nat × Nat) := [(4, 1), (11, 1), (12, 7), (15, 1), (18, 6)]
noncomputable def rbinopU2T2999 (pb : Nat) (PC : Array Value) (sb : Nat) (c : Nat) (mp : Nat) (ms : Nat) (MC : Array Value) (cr : Nat) (loc : Int) (r : Bool) (s : Bool) (eb : Nat) (ub : Nat) (ln : Nat) (cp : Nat) (kl : Int) (op : Int) (vT : Nat) (vx : Nat) (vl : Int) (B1_3 : Nat) (B1_2 : Nat) (B1 : Nat) (nd4 : Nat) (nd5 : Nat) (nd6 : Nat) (L9 : Nat → Bool) (α : Rega.Atoms) : Rw := if L9 20 = true then row (B1_3) 32 #[.iface 251 (.pointer (some ⟨α 18, 0, none⟩)), .int .i32 loc] else row (B1_3) 32 #[.nilIface, .int .i32 0]
noncomputable def rbinopU2T5999 (pb : Nat) (PC : Array Value) (sb : Nat) (c : Nat) (mp : Nat) (ms : Nat) (MC : Array Value) (cr : Nat) (loc : Int) (r : Bool) (s : Bool) (eb : Nat) (ub : Nat) (ln : Nat) (cp : Nat) (kl : Int) (op : Int) (vT : Nat) (vx : Nat) (vl : Int) (B1_3 : Nat) (B1_2 : Nat) (B1 : Nat) (nd4 : Nat) (nd5 : Nat) (nd6 : Nat) (L9 : Nat → Bool) (α : Rega.Atoms) : Rw := if L9 18 = true then row (pb) 188 ((PC.setIfInBounds 106 (.slice (some ⟨α 7012, 0, none⟩) 2 (2 + (α 8012)))).setIfInBounds 106 (.slice (some ⟨α 6018, 0, none⟩) 3 (3 + (α 7018)))) else if L9 12 = true then row (pb) 188 (PC.setIfInBounds 106 (.slice (some ⟨α 7012, 0, none⟩) 2 (2 + (α 8012)))) else row (pb) 188 PC
noncomputable def rbinopU2T6999 (pb : Nat) (PC : Array Value) (sb : Nat) (c : Nat) (mp : Nat) (ms : Nat) (MC : Array Value) (cr : Nat) (loc : Int) (r : Bool) (s : Bool) (eb : Nat) (ub : Nat) (ln : Nat) (cp : Nat) (kl : Int) (op : Int) (vT : Nat) (vx : Nat) (vl : Int) (B1_3 : Nat) (B1_2 : Nat) (B1 : Nat) (nd4 : Nat) (nd5 : Nat) (nd6 : Nat) (L9 : Nat → Bool) (α : Rega.Atoms) : Rw := if L9 18 = true then row (α 6018) 74 (full symZ (symL ([sy ⟨#[70, 111, 111]⟩ (uz r (uz r 0)), sy ⟨#[95, 95, 115, 117, 112, 101, 114, 71, 101, 116]⟩ 1, sy ⟨#[95, 95, 115, 117, 112, 101, 114, 83, 101, 116]⟩ 1])) (α 7018)) else if L9 12 = true then row (α 7012) 74 (full symZ (symL ([sy ⟨#[70, 111, 111]⟩ (uz r 0), sy ⟨#[95, 95, 115, 117, 112, 101, 114, 71, 101, 116]⟩ 1])) (α 8012)) else row (sb) 74 (full symZ (symL ([sy ⟨#[70, 111, 111]⟩ 0])) c)
noncomputable def rbinopU2T7999 (pb : Nat) (PC : Array Value) (sb : Nat) (c : Nat) (mp : Nat) (ms : Nat) (MC : Array Value) (cr : Nat) (loc : Int) (r : Bool) (s : Bool) (eb : Nat) (ub : Nat) (ln : Nat) (cp : Nat) (kl : Int) (op : Int) (vT : Nat) (vx : Nat) (vl : Int) (B1_3 : Nat) (B1_2 : Nat) (B1 : Nat) (nd4 : Nat) (nd5 : Nat) (nd6 : Nat) (L9 : Nat → Bool) (α : Rega.Atoms) : Rw := if L9 18 = true then ((mp, .map #[⟨.string ⟨#[95, 95, 115, 117, 112, 101, 114, 71, 101, 116]⟩, .agg #[.int .i32 loc, .int .u32 0, .int .u32 1], 0⟩, ⟨.string ⟨#[95, 95, 115, 117, 112, 101, 114, 83, 101, 116]⟩, .agg #[.int .i32 loc, .int .u32 0, .int .u32 2], 1⟩] 2) : Rw) else if L9 12 = true then ((mp, .map #[⟨.string ⟨#[95, 95, 115, 117, 112, 101, 114, 71, 101, 116]⟩, .agg #[.int .i32 loc, .int .u32 0, .int .u32 1], 0⟩] 1) : Rw) else ((mp, .map #[] 0) : Rw)
noncomputable def rbinopU2T8999 (pb : Nat) (PC : Array Value) (sb : Nat) (c : Nat) (mp : Nat) (ms : Nat) (MC : Array Value) (cr : Nat) (loc : Int) (r : Bool) (s : Bool) (eb : Nat) (ub : Nat) (ln : Nat) (cp : Nat) (kl : Int) (op : Int) (vT : Nat) (vx : Nat) (vl : Int) (B1_3 : Nat) (B1_2 : Nat) (B1 : Nat) (nd4 : Nat) (nd5 : Nat) (nd6 : Nat) (L9 : Nat → Bool) (α : Rega.Atoms) : Rw := if L9 18 = true then row (ms) 223 ((MC.setIfInBounds 5 (.slice (some ⟨α 6012, 0, none⟩) 1 (1 + (α 9012)))).setIfInBounds 5 (.slice (some ⟨α 8018, 0, none⟩) 2 (2 + (α 9018)))) else if L9 12 = true then row (ms) 223 (MC.setIfInBounds 5 (.slice (some ⟨α 6012, 0, none⟩) 1 (1 + (α 9012)))) else row (ms) 223 MC
noncomputable def rbinopU2T6012 (pb : Nat) (PC : Array Value) (sb : Nat) (c : Nat) (mp : Nat) (ms : Nat) (MC : Array Value) (cr : Nat) (loc : Int) (r : Bool) (s : Bool) (eb : Nat) (ub : Nat) (ln : Nat) (cp : Nat) (kl : Int) (op : Int) (vT : Nat) (vx : Nat) (vl : Int) (B1_3 : Nat) (B1_2 : Nat) (B1 : Nat) (nd4 : Nat) (nd5 : Nat) (nd6 : Nat) (L9 : Nat → Bool) (α : Rega.Atoms) : Rw := if L9 18 = true then row (α 8018) 48 (full refZ ([.int .u32 0, .int .u32 1, .int .u32 0, .int .u32 2]) (α 9018)) else row (α 6012) 48 (full refZ ([.int .u32 0, .int .u32 1]) (α 9012))
noncomputable def rbinopU2R (pb : Nat) (PC : Array Value) (sb : Nat) (c : Nat) (mp : Nat) (ms : Nat) (MC : Array Value) (cr : Nat) (loc : Int) (r : Bool) (s : Bool) (eb : Nat) (ub : Nat) (ln : Nat) (cp : Nat) (kl : Int) (op : Int) (vT : Nat) (vx : Nat) (vl : Int) (B1_3 : Nat) (B1_2 : Nat) (B1 : Nat) (nd4 : Nat) (nd5 : Nat) (nd6 : Nat) (L9 : Nat → Bool) (α : Rega.Atoms) (ix9 : Nat) : Rw := if ix9 = 999 then row (nd4) 30 #[.int .i32 kl] else if ix9 = 1999 then row (nd6) 195 #[.pointer (some ⟨eb, 0, none⟩)] else if ix9 = 2999 then rbinopU2T2999 pb PC sb c mp ms MC cr loc r s eb ub ln cp kl op vT vx vl B1_3 B1_2 B1 nd4 nd5 nd6 L9 α else if ix9 = 3999 then row (B1_2) 32 #[.iface vT (.pointer (some ⟨vx, 0, none⟩)), .int .i32 vl] else if ix9 = 4999 then row (B1) 30 #[.int .i32 loc] else if ix9 = 5999 then rbinopU2T5999 pb PC sb c mp ms MC cr loc r s eb ub ln cp kl op vT vx vl B1_3 B1_2 B1 nd4 nd5 nd6 L9 α else if ix9 = 6999 then rbinopU2T6999 pb PC sb c mp ms MC cr loc r s eb ub ln cp kl op vT vx vl B1_3 B1_2 B1 nd4 nd5 nd6 L9 α else if ix9 = 7999 then rbinopU2T7999 pb PC sb c mp ms MC cr loc r s eb ub ln cp kl op vT vx vl B1_3 B1_2 B1 nd4 nd5 nd6 L9 α else if ix9 = 8999 then rbinopU2T8999 pb PC sb c mp ms MC cr loc r s eb ub ln cp kl op vT vx vl B1_3 B1_2 B1 nd4 nd5 nd6 L9 α else if ix9 = 9999 then row (cr) 48 #[.int .u32 0, .int .u32 0] else if ix9 = 10999 then row (eb) 197 #[.slice (some ⟨ub, 0, none⟩) ln cp, .int .i32 0, .bool false, .bool false, .bool false] else if ix9 = 4 then row (α 4) 197 #[.slice (some ⟨ub, 0, none⟩) ln cp, .int .i32 0, .bool false, .bool false, .bool false] else if ix9 = 11 then row (α 11) 197 #[.slice (some ⟨ub, 0, none⟩) ln cp, .int .i32 0, .bool false, .bool false, .bool false] else if ix9 = 12 then row (α 12) 255 #[.iface 189 (.pointer (some ⟨α 1012, 0, none⟩)), .int .i32 loc, .slice (some ⟨α 2012, 0, none⟩) 3 3, .int .i32 0, .int .u8 0, .int .u8 0, .bool false, .bool false] else if ix9 = 1012 then row (α 1012) 191 #[.int .u32 0, .int .u32 1, .bool false, .bool false, .bool false] else if ix9 = 2012 then row (α 2012) 32 #[.iface (clsTy s) (.pointer (some ⟨α 3012, 0, none⟩)), .int .i32 loc, .iface (thsTy r) (.pointer (some ⟨α 5012, 0, none⟩)), .int .i32 loc, .iface 195 (.pointer (some ⟨α 11, 0, none⟩)), .int .i32 kl] else if ix9 = 3012 then row (α 3012) (clsT s) (clsC s loc (α 4012)) else if ix9 = 4012 then row (α 4012) (xtrT s) (xtrC s loc (α 3012)) else if ix9 = 5012 then row (α 5012) (thsT r) (thsC r) else if ix9 = 6012 then rbinopU2T6012 pb PC sb c mp ms MC cr loc r s eb ub ln cp kl op vT vx vl B1_3 B1_2 B1 nd4 nd5 nd6 L9 α else if ix9 = 15 then row (α 15) 238 #[.iface 251 (.pointer (some ⟨α 12, 0, none⟩)), .int .i32 loc, .iface vT (.pointer (some ⟨vx, 0, none⟩)), .int .i32 vl, .int .u8 op, .bool false] else if ix9 = 18 then row (α 18) 255 #[.iface 189 (.pointer (some ⟨α 1018, 0, none⟩)), .int .i32 loc, .slice (some ⟨α 2018, 0, none⟩) 4 4, .int .i32 0, .int .u8 0, .int .u8 0, .bool false, .bool false] else if ix9 = 1018 then row (α 1018) 191 #[.int .u32 0, .int .u32 2, .bool false, .bool false, .bool false] else if ix9 = 2018 then row (α 2018) 32 #[.iface (clsTy s) (.pointer (some ⟨α 3018, 0, none⟩)), .int .i32 loc, .iface (thsTy r) (.pointer (some ⟨α 5018, 0, none⟩)), .int .i32 loc, .iface 195 (.pointer (some ⟨α 4, 0, none⟩)), .int .i32 kl, .iface 235 (.pointer (some ⟨α 15, 0, none⟩)), .int .i32 vl] else if ix9 = 3018 then row (α 3018) (clsT s) (clsC s loc (α 4018)) else if ix9 = 4018 then row (α 4018) (xtrT s) (xtrC s loc (α 3018)) else if ix9 = 5018 then row (α 5018) (thsT r) (thsC r) else (0, .map #[] 0)
theorem rbinopU2_he (pb : Nat) (PC : Array Value) (sb : Nat) (c : Nat) (mp : Nat) (ms : Nat) (MC : Array Value) (cr : Nat) (loc : Int) (r : Bool) (s : Bool) (eb : Nat) (ub : Nat) (ln : Nat) (cp : Nat) (kl : Int) (op : Int) (vT : Nat) (vx : Nat) (vl : Int) (B1_3 : Nat) (B1_2 : Nat) (B1 : Nat) (nd4 : Nat) (nd5 : Nat) (nd6 : Nat) : ∀ kk α α', (∀ j, (j % 1000 = kk ∨ j % 1000 ∈ rbinopU2Anc kk) → α j = α' j) → rbinopU2E pb PC sb c mp ms MC cr loc r s eb ub ln cp kl op vT vx vl B1_3 B1_2 B1 nd4 nd5 nd6 kk α = rbinopU2E pb PC sb c mp ms MC cr loc r s eb ub ln cp kl op vT vx vl B1_3 B1_2 B1 nd4 nd5 nd6 kk α' := by
  intro kk α α' h
  match kk with
  | 0 => rfl
  | 1 => rfl
  | 2 => rfl
  | 3 => rfl
  | 4 => simp only [rbinopU2E, h 4 (Or.inl rfl)]
  | 5 => rfl
  | 6 => rfl
  | 7 => rfl
  | 8 => rfl
  | 9 => rfl
  | 10 => rfl
  | 11 => simp only [rbinopU2E, h 11 (Or.inl rfl)]
  | 12 => simp only [rbinopU2E, h 12 (Or.inl rfl)]
  | 13 => rfl
  | 14 => simp only [rbinopU2E, h 12 (Or.inr (by decide))]
  | 15 => simp only [rbinopU2E, h 15 (Or.inl rfl)]
  | 16 => simp only [rbinopU2E, h 15 (Or.inr (by decide))]
  | 17 => simp only [rbinopU2E, h 15 (Or.inr (by decide))]
  | 18 => simp only [rbinopU2E, h 18 (Or.inl rfl)]
  | 19 => simp only [rbinopU2E, h 18 (Or.inr (by decide))]
  | 20 => rfl
  | n + 21 => rfl
theorem rbinopU2_st (pb : Nat) (PC : Array Value) (sb : Nat) (c : Nat) (mp : Nat) (ms : Nat) (MC : Array Value) (cr : Nat) (loc : Int) (r : Bool) (s : Bool) (eb : Nat) (ub : Nat) (ln : Nat) (cp : Nat) (kl : Int) (op : Int) (vT : Nat) (vx : Nat) (vl : Int) (B1_3 : Nat) (B1_2 : Nat) (B1 : Nat) (nd4 : Nat) (nd5 : Nat) (nd6 : Nat) : Stable rbinopU2Cnt 11 rbinopU2Anc rbinopU2Trn (rbinopU2R pb PC sb c mp ms MC cr loc r s eb ub ln cp kl op vT vx vl B1_3 B1_2 B1 nd4 nd5 nd6) := by
  intro k9 L9 α α' ix9 hk hcl hα hact ht
  have hp := act_places hact
  replace hp : ix9 ∈ [999, 1999, 2999, 3999, 4999, 5999, 6999, 7999, 8999, 9999, 10999, 4, 11, 12, 1012, 2012, 3012, 4012, 5012, 6012, 15, 18, 1018, 2018, 3018, 4018, 5018] := hp
  simp only [List.mem_cons, List.not_mem_nil, or_false] at hp
  rcases hp with rfl | rfl | rfl | rfl | rfl | rfl | rfl | rfl | rfl | rfl | rfl | rfl | rfl | rfl | rfl | rfl | rfl | rfl | rfl | rfl | rfl | rfl | rfl | rfl | rfl | rfl | rfl
  · rfl
  · rfl
  · show rbinopU2T2999 pb PC sb c mp ms MC cr loc r s eb ub ln cp kl op vT vx vl B1_3 B1_2 B1 nd4 nd5 nd6 (Rega.ran L9 k9) α' = rbinopU2T2999 pb PC sb c mp ms MC cr loc r s eb ub ln cp kl op vT vx vl B1_3 B1_2 B1 nd4 nd5 nd6 L9 α
    unfold rbinopU2T2999
    have n20 : 20 ≠ k9 := fun e => ht (by rw [← e]; decide)
    rw [ran_ne n20]
    by_cases e20 : L9 20 = true
    · first | rw [if_pos e20, if_pos e20] | rw [if_pos e20]
      try simp only [hα 18 (ne_ran hk (hcl 20 e20 18 (by decide)))]
    first | rw [if_neg e20, if_neg e20] | rw [if_neg e20]
  · rfl
  · rfl
  · show rbinopU2T5999 pb PC sb c mp ms MC cr loc r s eb ub ln cp kl op vT vx vl B1_3 B1_2 B1 nd4 nd5 nd6 (Rega.ran L9 k9) α' = rbinopU2T5999 pb PC sb c mp ms MC cr loc r s eb ub ln cp kl op vT vx vl B1_3 B1_2 B1 nd4 nd5 nd6 L9 α
    unfold rbinopU2T5999
    have n12 : 12 ≠ k9 := fun e => ht (by rw [← e]; decide)
    have n18 : 18 ≠ k9 := fun e => ht (by rw [← e]; decide)
    rw [ran_ne n12, ran_ne n18]
    by_cases e18 : L9 18 = true
    · first | rw [if_pos e18, if_pos e18] | rw [if_pos e18]
      try simp only [hα 6018 (ne_ran hk e18), hα 7012 (ne_ran hk (hcl 18 e18 12 (by decide))), hα 7018 (ne_ran hk e18), hα 8012 (ne_ran hk (hcl 18 e18 12 (by decide)))]
    first | rw [if_neg e18, if_neg e18] | rw [if_neg e18]
    by_cases e12 : L9 12 = true
    · first | rw [if_pos e12, if_pos e12] | rw [if_pos e12]
      try simp only [hα 7012 (ne_ran hk e12), hα 8012 (ne_ran hk e12)]
    first | rw [if_neg e12, if_neg e12] | rw [if_neg e12]
  · show rbinopU2T6999 pb PC sb c mp ms MC cr loc r s eb ub ln cp kl op vT vx vl B1_3 B1_2 B1 nd4 nd5 nd6 (Rega.ran L9 k9) α' = rbinopU2T6999 pb PC sb c mp ms MC cr loc r s eb ub ln cp kl op vT vx vl B1_3 B1_2 B1 nd4 nd5 nd6 L9 α
    unfold rbinopU2T6999
    have n12 : 12 ≠ k9 := fun e => ht (by rw [← e]; decide)
    have n18 : 18 ≠ k9 := fun e => ht (by rw [← e]; decide)
    rw [ran_ne n12, ran_ne n18]
    by_cases e18 : L9 18 = true
    · first | rw [if_pos e18, if_pos e18] | rw [if_pos e18]
      try simp only [hα 6018 (ne_ran hk e18), hα 7018 (ne_ran hk e18)]
    first | rw [if_neg e18, if_neg e18] | rw [if_neg e18]
    by_cases e12 : L9 12 = true
    · first | rw [if_pos e12, if_pos e12] | rw [if_pos e12]
      try simp only [hα 7012 (ne_ran hk e12), hα 8012 (ne_ran hk e12)]
    first | rw [if_neg e12, if_neg e12] | rw [if_neg e12]
  · show rbinopU2T7999 pb PC sb c mp ms MC cr loc r s eb ub ln cp kl op vT vx vl B1_3 B1_2 B1 nd4 nd5 nd6 (Rega.ran L9 k9) α' = rbinopU2T7999 pb PC sb c mp ms MC cr loc r s eb ub ln cp kl op vT vx vl B1_3 B1_2 B1 nd4 nd5 nd6 L9 α
    unfold rbinopU2T7999
    have n12 : 12 ≠ k9 := fun e => ht (by rw [← e]; decide)
    have n18 : 18 ≠ k9 := fun e => ht (by rw [← e]; decide)
    rw [ran_ne n12, ran_ne n18]
  · show rbinopU2T8999 pb PC sb c mp ms MC cr loc r s eb ub ln cp kl op vT vx vl B1_3 B1_2 B1 nd4 nd5 nd6 (Rega.ran L9 k9) α' = rbinopU2T8999 pb PC sb c mp ms MC cr loc r s eb ub ln cp kl op vT vx vl B1_3 B1_2 B1 nd4 nd5 nd6 L9 α
    unfold rbinopU2T8999
    have n12 : 12 ≠ k9 := fun e => ht (by rw [← e]; decide)
    have n18 : 18 ≠ k9 := fun e => ht (by rw [← e]; decide)
    rw [ran_ne n12, ran_ne n18]
    by_cases e18 : L9 18 = true
    · first | rw [if_pos e18, if_pos e18] | rw [if_pos e18]
      try simp only [hα 6012 (ne_ran hk (hcl 18 e18 12 (by decide))), hα 8018 (ne_ran hk e18), hα 9012 (ne_ran hk (hcl 18 e18 12 (by decide))), hα 9018 (ne_ran hk e18)]
    first | rw [if_neg e18, if_neg e18] | rw [if_neg e18]
    by_cases e12 : L9 12 = true
    · first | rw [if_pos e12, if_pos e12] | rw [if_pos e12]
      try simp only [hα 6012 (ne_ran hk e12), hα 9012 (ne_ran hk e12)]
    first | rw [if_neg e12, if_neg e12] | rw [if_neg e12]
  · rfl
  · rfl
  · have e0 : L9 4 = true := act_lt hact (by decide)
    show row (α' 4) 197 #[.slice (some ⟨ub, 0, none⟩) ln cp, .int .i32 0, .bool false, .bool false, .bool false] = row (α 4) 197 #[.slice (some ⟨ub, 0, none⟩) ln cp, .int .i32 0, .bool false, .bool false, .bool false]
    simp only [hα 4 (ne_ran hk e0)]
  · have e0 : L9 11 = true := act_lt hact (by decide)
    show row (α' 11) 197 #[.slice (some ⟨ub, 0, none⟩) ln cp, .int .i32 0, .bool false, .bool false, .bool false] = row (α 11) 197 #[.slice (some ⟨ub, 0, none⟩) ln cp, .int .i32 0, .bool false, .bool false, .bool false]
    simp only [hα 11 (ne_ran hk e0)]
  · have e0 : L9 12 = true := act_lt hact (by decide)
    show row (α' 12) 255 #[.iface 189 (.pointer (some ⟨α' 1012, 0, none⟩)), .int .i32 loc, .slice (some ⟨α' 2012, 0, none⟩) 3 3, .int .i32 0, .int .u8 0, .int .u8 0, .bool false, .bool false] = row (α 12) 255 #[.iface 189 (.pointer (some ⟨α 1012, 0, none⟩)), .int .i32 loc, .slice (some ⟨α 2012, 0, none⟩) 3 3, .int .i32 0, .int .u8 0, .int .u8 0, .bool false, .bool false]
    simp only [hα 12 (ne_ran hk e0), hα 1012 (ne_ran hk e0), hα 2012 (ne_ran hk e0)]
  · have e0 : L9 12 = true := act_lt hact (by decide)
    show row (α' 1012) 191 #[.int .u32 0, .int .u32 1, .bool false, .bool false, .bool false] = row (α 1012) 191 #[.int .u32 0, .int .u32 1, .bool false, .bool false, .bool false]
    simp only [hα 1012 (ne_ran hk e0)]
  · have e0 : L9 12 = true := act_lt hact (by decide)
    show row (α' 2012) 32 #[.iface (clsTy s) (.pointer (some ⟨α' 3012, 0, none⟩)), .int .i32 loc, .iface (thsTy r) (.pointer (some ⟨α' 5012, 0, none⟩)), .int .i32 loc, .iface 195 (.pointer (some ⟨α' 11, 0, none⟩)), .int .i32 kl] = row (α 2012) 32 #[.iface (clsTy s) (.pointer (some ⟨α 3012, 0, none⟩)), .int .i32 loc, .iface (thsTy r) (.pointer (some ⟨α 5012, 0, none⟩)), .int .i32 loc, .iface 195 (.pointer (some ⟨α 11, 0, none⟩)), .int .i32 kl]
    simp only [hα 11 (ne_ran hk (hcl 12 e0 11 (by decide))), hα 2012 (ne_ran hk e0), hα 3012 (ne_ran hk e0), hα 5012 (ne_ran hk e0)]
  · have e0 : L9 12 = true := act_lt hact (by decide)
    show row (α' 3012) (clsT s) (clsC s loc (α' 4012)) = row (α 3012) (clsT s) (clsC s loc (α 4012))
    simp only [hα 3012 (ne_ran hk e0), hα 4012 (ne_ran hk e0)]
  · have e0 : L9 12 = true := act_lt hact (by decide)
    show row (α' 4012) (xtrT s) (xtrC s loc (α' 3012)) = row (α 4012) (xtrT s) (xtrC s loc (α 3012))
    simp only [hα 3012 (ne_ran hk e0), hα 4012 (ne_ran hk e0)]
  · have e0 : L9 12 = true := act_lt hact (by decide)
    show row (α' 5012) (thsT r) (thsC r) = row (α 5012) (thsT r) (thsC r)
    simp only [hα 5012 (ne_ran hk e0)]
  · have e0 : L9 12 = true := act_lt hact (by decide)
    show rbinopU2T6012 pb PC sb c mp ms MC cr loc r s eb ub ln cp kl op vT vx vl B1_3 B1_2 B1 nd4 nd5 nd6 (Rega.ran L9 k9) α' = rbinopU2T6012 pb PC sb c mp ms MC cr loc r s eb ub ln cp kl op vT vx vl B1_3 B1_2 B1 nd4 nd5 nd6 L9 α
    unfold rbinopU2T6012
    have n18 : 18 ≠ k9 := fun e => ht (by rw [← e]; decide)
    rw [ran_ne n18]
    by_cases e18 : L9 18 = true
    · first | rw [if_pos e18, if_pos e18] | rw [if_pos e18]
      try simp only [hα 8018 (ne_ran hk e18), hα 9018 (ne_ran hk e18)]
    first | rw [if_neg e18, if_neg e18] | rw [if_neg e18]
    try simp only [hα 6012 (ne_ran hk e0), hα 9012 (ne_ran hk e0)]
  · have e0 : L9 15 = true := act_lt hact (by decide)
    show row (α' 15) 238 #[.iface 251 (.pointer (some ⟨α' 12, 0, none⟩)), .int .i32 loc, .iface vT (.pointer (some ⟨vx, 0, none⟩)), .int .i32 vl, .int .u8 op, .bool false] = row (α 15) 238 #[.iface 251 (.pointer (some ⟨α 12, 0, none⟩)), .int .i32 loc, .iface vT (.pointer (some ⟨vx, 0, none⟩)), .int .i32 vl, .int .u8 op, .bool false]
    simp only [hα 12 (ne_ran hk (hcl 15 e0 12 (by decide))), hα 15 (ne_ran hk e0)]
  · have e0 : L9 18 = true := act_lt hact (by decide)
    show row (α' 18) 255 #[.iface 189 (.pointer (some ⟨α' 1018, 0, none⟩)), .int .i32 loc, .slice (some ⟨α' 2018, 0, none⟩) 4 4, .int .i32 0, .int .u8 0, .int .u8 0, .bool false, .bool false] = row (α 18) 255 #[.iface 189 (.pointer (some ⟨α 1018, 0, none⟩)), .int .i32 loc, .slice (some ⟨α 2018, 0, none⟩) 4 4, .int .i32 0, .int .u8 0, .int .u8 0, .bool false, .bool false]
    simp only [hα 18 (ne_ran hk e0), hα 1018 (ne_ran hk e0), hα 2018 (ne_ran hk e0)]
  · have e0 : L9 18 = true := act_lt hact (by decide)
    show row (α' 1018) 191 #[.int .u32 0, .int .u32 2, .bool false, .bool false, .bool false] = row (α 1018) 191 #[.int .u32 0, .int .u32 2, .bool false, .bool false, .bool false]
    simp only [hα 1018 (ne_ran hk e0)]
  · have e0 : L9 18 = true := act_lt hact (by decide)
    show row (α' 2018) 32 #[.iface (clsTy s) (.pointer (some ⟨α' 3018, 0, none⟩)), .int .i32 loc, .iface (thsTy r) (.pointer (some ⟨α' 5018, 0, none⟩)), .int .i32 loc, .iface 195 (.pointer (some ⟨α' 4, 0, none⟩)), .int .i32 kl, .iface 235 (.pointer (some ⟨α' 15, 0, none⟩)), .int .i32 vl] = row (α 2018) 32 #[.iface (clsTy s) (.pointer (some ⟨α 3018, 0, none⟩)), .int .i32 loc, .iface (thsTy r) (.pointer (some ⟨α 5018, 0, none⟩)), .int .i32 loc, .iface 195 (.pointer (some ⟨α 4, 0, none⟩)), .int .i32 kl, .iface 235 (.pointer (some ⟨α 15, 0, none⟩)), .int .i32 vl]
    simp only [hα 4 (ne_ran hk (hcl 18 e0 4 (by decide))), hα 15 (ne_ran hk (hcl 18 e0 15 (by decide))), hα 2018 (ne_ran hk e0), hα 3018 (ne_ran hk e0), hα 5018 (ne_ran hk e0)]
  · have e0 : L9 18 = true := act_lt hact (by decide)
    show row (α' 3018) (clsT s) (clsC s loc (α' 4018)) = row (α 3018) (clsT s) (clsC s loc (α 4018))
    simp only [hα 3018 (ne_ran hk e0), hα 4018 (ne_ran hk e0)]
  · have e0 : L9 18 = true := act_lt hact (by decide)
    show row (α' 4018) (xtrT s) (xtrC s loc (α' 3018)) = row (α 4018) (xtrT s) (xtrC s loc (α 3018))
    simp only [hα 3018 (ne_ran hk e0), hα 4018 (ne_ran hk e0)]
  · have e0 : L9 18 = true := act_lt hact (by decide)
    show row (α' 5018) (thsT r) (thsC r) = row (α 5018) (thsT r) (thsC r)
    simp only [hα 5018 (ne_ran hk e0)]
def binopUPost (pb : Nat) (PC : Array Value) (sb c mp ms : Nat) (MC : Array Value) (cr : Nat) (loc : Int) (r s : Bool) (eb ub ln cp : Nat) (kl op : Int) (vT vx : Nat) (vl : Int) (w0 : World) (X : Nat → Obj → Prop) (e : Ending) (w' : World) : Prop :=
  ∃ bg : Nat, ∃ cag : Nat, ∃ sxg : Nat, ∃ eg : Nat, ∃ cbg : Nat, ∃ xbg : Nat, ∃ tbg : Nat, ∃ bs : Nat, ∃ cas : Nat, ∃ sxs : Nat, ∃ es : Nat, ∃ cbs : Nat, ∃ xbs : Nat, ∃ tbs : Nat, ∃ bi : Nat, ∃ sb2 : Nat, ∃ c2 : Nat, ∃ gb2 : Nat, ∃ cg2 : Nat, e = .returned (.agg #[.iface 251 (.pointer (some ⟨cas, 0, none⟩)), .int .i32 loc]) ∧ Own w0 w' [row (pb) 188 (PC.setIfInBounds 106 (.slice (some ⟨sb2, 0, none⟩) 3 (3 + c2))), row (sb2) 74 (full symZ (symL ([sy ⟨#[70, 111, 111]⟩ (uz r (uz r 0)), sy ⟨#[95, 95, 115, 117, 112, 101, 114, 71, 101, 116]⟩ 1, sy ⟨#[95, 95, 115, 117, 112, 101, 114, 83, 101, 116]⟩ 1])) c2), ((mp, .map #[⟨.string ⟨#[95, 95, 115, 117, 112, 101, 114, 71, 101, 116]⟩, .agg #[.int .i32 loc, .int .u32 0, .int .u32 1], 0⟩, ⟨.string ⟨#[95, 95, 115, 117, 112, 101, 114, 83, 101, 116]⟩, .agg #[.int .i32 loc, .int .u32 0, .int .u32 2], 1⟩] 2) : Rw), row (ms) 223 (MC.setIfInBounds 5 (.slice (some ⟨gb2, 0, none⟩) 2 (2 + cg2))), row (gb2) 48 (full refZ ([.int .u32 0, .int .u32 1, .int .u32 0, .int .u32 2]) cg2), row (cr) 48 #[.int .u32 0, .int .u32 0], row (eb) 197 #[.slice (some ⟨ub, 0, none⟩) ln cp, .int .i32 0, .bool false, .bool false, .bool false], row (bg) 191 #[.int .u32 0, .int .u32 1, .bool false, .bool false, .bool false], row (cag) 255 #[.iface 189 (.pointer (some ⟨bg, 0, none⟩)), .int .i32 loc, .slice (some ⟨sxg, 0, none⟩) 3 3, .int .i32 0, .int .u8 0, .int .u8 0, .bool false, .bool false], row (sxg) 32 #[.iface (clsTy s) (.pointer (some ⟨cbg, 0, none⟩)), .int .i32 loc, .iface (thsTy r) (.pointer (some ⟨tbg, 0, none⟩)), .int .i32 loc, .iface 195 (.pointer (some ⟨eg, 0, none⟩)), .int .i32 kl], row (eg) 197 #[.slice (some ⟨ub, 0, none⟩) ln cp, .int .i32 0, .bool false, .bool false, .bool false], row (cbg) (clsT s) (clsC s loc xbg), row (xbg) (xtrT s) (xtrC s loc cbg), row (tbg) (thsT r) (thsC r), row (bs) 191 #[.int .u32 0, .int .u32 2, .bool false, .bool false, .bool false], row (cas) 255 #[.iface 189 (.pointer (some ⟨bs, 0, none⟩)), .int .i32 loc, .slice (some ⟨sxs, 0, none⟩) 4 4, .int .i32 0, .int .u8 0, .int .u8 0, .bool false, .bool false], row (sxs) 32 #[.iface (clsTy s) (.pointer (some ⟨cbs, 0, none⟩)), .int .i32 loc, .iface (thsTy r) (.pointer (some ⟨tbs, 0, none⟩)), .int .i32 loc, .iface 195 (.pointer (some ⟨es, 0, none⟩)), .int .i32 kl, .iface 235 (.pointer (some ⟨bi, 0, none⟩)), .int .i32 vl], row (es) 197 #[.slice (some ⟨ub, 0, none⟩) ln cp, .int .i32 0, .bool false, .bool false, .bool false], row (cbs) (clsT s) (clsC s loc xbs), row (xbs) (xtrT s) (xtrC s loc cbs), row (tbs) (thsT r) (thsC r), row (bi) 238 #[.iface 251 (.pointer (some ⟨cag, 0, none⟩)), .int .i32 loc, .iface vT (.pointer (some ⟨vx, 0, none⟩)), .int .i32 vl, .int .u8 op, .bool false]] X
set_option maxRecDepth 100000 in
set_option maxHeartbeats 1000000 in
theorem binopU (pb : Nat) (PC : Array Value) (sb c mp ms : Nat) (MC : Array Value) (cr : Nat) (loc : Int) (r s : Bool) (eb ub ln cp : Nat) (kl op : Int) (vT vx : Nat) (vl : Int) (w0 w : World) (X : Nat → Obj → Prop) (hO : Own w0 w [row (pb) 188 PC, row (sb) 74 (full symZ (symL ([sy ⟨#[70, 111, 111]⟩ 0])) c), ((mp, .map #[] 0) : Rw), row (ms) 223 MC, row (cr) 48 #[.int .u32 0, .int .u32 0], row (eb) 197 #[.slice (some ⟨ub, 0, none⟩) ln cp, .int .i32 0, .bool false, .bool false, .bool false]] X) (hk350 : PC[350]? = some (.bool false)) (hk32 : PC[32]? = some (.bool false)) (hk105 : PC[105]? = some (.pointer none)) (hk66 : PC[66]? = some (.int .u32 0)) (hk117 : PC[117]? = some (.map (some mp))) (hk187 : PC[187]? = some (.pointer (some ⟨ms, 0, none⟩))) (hk97 : PC[97]? = some (.pointer (some ⟨cr, 0, none⟩))) (hk95 : PC[95]? = some (.bool r)) (hk96 : PC[96]? = some (.bool s)) (hk106 : PC[106]? = some (.slice (some ⟨sb, 0, none⟩) 1 (1 + c))) (hgen : MC[5]? = some (.slice none 0 0)) (hg0 : w0.cell? ⟨0, 0, none⟩ = some (.int .u32 4294967295)) (hg1 : w0.cell? ⟨0, 1, none⟩ = some (.int .u32 4294967295)) :
    Calls Tryz.prog 37 #[.pointer (some ⟨pb, 0, none⟩), .agg #[.int .i32 loc], .agg #[.iface 195 (.pointer (some ⟨eb, 0, none⟩)), .int .i32 kl], .int .u8 op, .agg #[.iface vT (.pointer (some ⟨vx, 0, none⟩)), .int .i32 vl]] w (binopUPost pb PC sb c mp ms MC cr loc r s eb ub ln cp kl op vT vx vl w0 X) := by
  go_enter Tryz.func37, Tryz.ntmps37
  obtain ⟨ix9, hix9, hax9, hjx9⟩ := hO.ix
  have ix9_0 : ix9 pb = 0 := hjx9 0 _ _ rfl
  have ix9_1 : ix9 sb = 1 := hjx9 1 _ _ rfl
  have ix9_2 : ix9 mp = 2 := hjx9 2 _ _ rfl
  have ix9_3 : ix9 ms = 3 := hjx9 3 _ _ rfl
  have ix9_4 : ix9 cr = 4 := hjx9 4 _ _ rfl
  have ix9_5 : ix9 eb = 5 := hjx9 5 _ _ rfl
  clear hjx9
  have c9_0_32 : w.cell? ⟨pb, 32, none⟩ = some (.bool false) := hO.cell 0 rfl 32 (hk32)
  have c9_0_66 : w.cell? ⟨pb, 66, none⟩ = some (.int .u32 0) := hO.cell 0 rfl 66 (hk66)
  have c9_0_95 : w.cell? ⟨pb, 95, none⟩ = some (.bool r) := hO.cell 0 rfl 95 (hk95)
  have c9_0_96 : w.cell? ⟨pb, 96, none⟩ = some (.bool s) := hO.cell 0 rfl 96 (hk96)
  have c9_0_97 : w.cell? ⟨pb, 97, none⟩ = some (.pointer (some ⟨cr, 0, none⟩)) := hO.cell 0 rfl 97 (hk97)
  have c9_0_105 : w.cell? ⟨pb, 105, none⟩ = some (.pointer none) := hO.cell 0 rfl 105 (hk105)
  have c9_0_106 : w.cell? ⟨pb, 106, none⟩ = some (.slice (some ⟨sb, 0, none⟩) 1 (1 + c)) := hO.cell 0 rfl 106 (hk106)
  have c9_0_117 : w.cell? ⟨pb, 117, none⟩ = some (.map (some mp)) := hO.cell 0 rfl 117 (hk117)
  have c9_0_187 : w.cell? ⟨pb, 187, none⟩ = some (.pointer (some ⟨ms, 0, none⟩)) := hO.cell 0 rfl 187 (hk187)
  have c9_0_350 : w.cell? ⟨pb, 350, none⟩ = some (.bool false) := hO.cell 0 rfl 350 (hk350)
  have lt9_0 : pb < w.heap.size := hO.lt 0 rfl
  have y9_0 : ∀ o, w.frozen? ⟨pb, o, none⟩ = false := hO.free 0 rfl
  have c9_1_1 : w.cell? ⟨sb, 1, none⟩ = some (.string ⟨#[70, 111, 111]⟩) := hO.cell 1 rfl 1 ((full_at rfl))
  have c9_1_4 : w.cell? ⟨sb, 4, none⟩ = some (.int .u32 0) := hO.cell 1 rfl 4 ((full_at rfl))
  have lt9_1 : sb < w.heap.size := hO.lt 1 rfl
  have y9_1 : ∀ o, w.frozen? ⟨sb, o, none⟩ = false := hO.free 1 rfl
  have c9_3_5 : w.cell? ⟨ms, 5, none⟩ = some (.slice none 0 0) := hO.cell 3 rfl 5 (hgen)
  have lt9_3 : ms < w.heap.size := hO.lt 3 rfl
  have y9_3 : ∀ o, w.frozen? ⟨ms, o, none⟩ = false := hO.free 3 rfl
  obtain ⟨c9_4_0, c9_4_1, lt9_4, y9_4, -⟩ := hO.k2 4 rfl
  obtain ⟨c9_5_0, c9_5_1, c9_5_2, c9_5_3, c9_5_4, lt9_5, y9_5, -⟩ := hO.k5 5 rfl
  have HO := Lib.hid hO
  clear hO
  go_wp2_with (first | (with_reducible refine Own.stay (fn := Tryz.f37) ?_) | fail)
  try with_reducible refine Own.Stay.mk ?_
  have hO := HO.out
  clear HO hix9 hax9 ix9_0 ix9_1 ix9_2 ix9_3 ix9_4 ix9_5 ix9 c9_0_32 c9_0_66 c9_0_95 c9_0_96 c9_0_97 c9_0_105 c9_0_106 c9_0_117 c9_0_187 c9_0_350 lt9_0 y9_0 c9_1_1 c9_1_4 lt9_1 y9_1 c9_3_5 lt9_3 y9_3 c9_4_0 c9_4_1 lt9_4 y9_4 c9_5_0 c9_5_1 c9_5_2 c9_5_3 c9_5_4 lt9_5 y9_5
  generalize hW : World.alloc _ _ = W2
  have hN : Own w0 W2 [row (w.heap.size + 1 + 1 + 1) 32 #[.nilIface, .int .i32 0], row (w.heap.size + 1 + 1) 32 #[.iface vT (.pointer (some ⟨vx, 0, none⟩)), .int .i32 vl], row (w.heap.size + 1) 32 #[.iface 195 (.pointer (some ⟨eb, 0, none⟩)), .int .i32 kl], row (w.heap.size) 30 #[.int .i32 loc], row (pb) 188 PC, row (sb) 74 (full symZ (symL ([sy ⟨#[70, 111, 111]⟩ 0])) c), ((mp, .map #[] 0) : Rw), row (ms) 223 MC, row (cr) 48 #[.int .u32 0, .int .u32 0], row (eb) 197 #[.slice (some ⟨ub, 0, none⟩) ln cp, .int .i32 0, .bool false, .bool false, .bool false]] X := by
    rw [← hW]
    exact ((((hO).alloc' _ (w.heap.size) (by simp)).alloc' _ (w.heap.size + 1) (by simp)).alloc' _ (w.heap.size + 1 + 1) (by simp)).alloc' _ (w.heap.size + 1 + 1 + 1) (by simp)
  clear hW hO
  generalize w.heap.size + 1 + 1 + 1 = B1_3 at hN ⊢
  generalize w.heap.size + 1 + 1 = B1_2 at hN ⊢
  generalize w.heap.size + 1 = B1_1 at hN ⊢
  generalize w.heap.size = B1 at hN ⊢
  have hO := hN
  clear hN
  have hL := hO.apart
  have hX := hO.apartX
  have HL := Lib.hid hL
  have HX := Lib.hid hX
  clear hL hX
  have hP9 := hO.pick [] (by decide)
  have T9 := capStr pb eb kl kl _ _ _ hP9 
  refine Calls.mono T9 ?_
  clear hP9 T9
  rintro e u3 ⟨nd4, nd5, nd6, rfl, hQ⟩
  have hN : Own w0 u3 [row (nd4) 30 #[.int .i32 kl], row (nd5) 32 #[.iface 195 (.pointer (some ⟨eb, 0, none⟩)), .int .i32 kl], row (nd6) 195 #[.pointer (some ⟨eb, 0, none⟩)], row (B1_3) 32 #[.nilIface, .int .i32 0], row (B1_2) 32 #[.iface vT (.pointer (some ⟨vx, 0, none⟩)), .int .i32 vl], row (B1_1) 32 #[.iface 195 (.pointer (some ⟨eb, 0, none⟩)), .int .i32 kl], row (B1) 30 #[.int .i32 loc], row (pb) 188 PC, row (sb) 74 (full symZ (symL ([sy ⟨#[70, 111, 111]⟩ 0])) c), ((mp, .map #[] 0) : Rw), row (ms) 223 MC, row (cr) 48 #[.int .u32 0, .int .u32 0], row (eb) 197 #[.slice (some ⟨ub, 0, none⟩) ln cp, .int .i32 0, .bool false, .bool false, .bool false]] X := hQ.back HL.out HX.out [0, 1, 2, 3, 4, 5, 6, 7, 8, 9] (by decide) (by decide)
  clear hQ HL HX hO
  have hO := hN
  clear hN
  obtain ⟨ix9, hix9, hax9, hjx9⟩ := hO.ix
  have ix9_0 : ix9 nd4 = 0 := hjx9 0 _ _ rfl
  have ix9_1 : ix9 nd5 = 1 := hjx9 1 _ _ rfl
  have ix9_2 : ix9 nd6 = 2 := hjx9 2 _ _ rfl
  have ix9_3 : ix9 B1_3 = 3 := hjx9 3 _ _ rfl
  have ix9_4 : ix9 B1_2 = 4 := hjx9 4 _ _ rfl
  have ix9_5 : ix9 B1_1 = 5 := hjx9 5 _ _ rfl
  have ix9_6 : ix9 B1 = 6 := hjx9 6 _ _ rfl
  have ix9_7 : ix9 pb = 7 := hjx9 7 _ _ rfl
  have ix9_8 : ix9 sb = 8 := hjx9 8 _ _ rfl
  have ix9_9 : ix9 mp = 9 := hjx9 9 _ _ rfl
  have ix9_10 : ix9 ms = 10 := hjx9 10 _ _ rfl
  have ix9_11 : ix9 cr = 11 := hjx9 11 _ _ rfl
  have ix9_12 : ix9 eb = 12 := hjx9 12 _ _ rfl
  clear hjx9
  obtain ⟨c9_0_0, lt9_0, y9_0, pl9_0⟩ := hO.k1 0 rfl
  obtain ⟨c9_1_0, c9_1_1, lt9_1, y9_1, pl9_1⟩ := hO.k2 1 rfl
  obtain ⟨c9_2_0, lt9_2, y9_2, -⟩ := hO.k1 2 rfl
  obtain ⟨c9_3_0, c9_3_1, lt9_3, y9_3, pl9_3⟩ := hO.k2 3 rfl
  obtain ⟨c9_4_0, c9_4_1, lt9_4, y9_4, pl9_4⟩ := hO.k2 4 rfl
  obtain ⟨c9_5_0, c9_5_1, lt9_5, y9_5, pl9_5⟩ := hO.k2 5 rfl
  obtain ⟨c9_6_0, lt9_6, y9_6, pl9_6⟩ := hO.k1 6 rfl
  have c9_7_32 : u3.cell? ⟨pb, 32, none⟩ = some (.bool false) := hO.cell 7 rfl 32 (hk32)
  have c9_7_66 : u3.cell? ⟨pb, 66, none⟩ = some (.int .u32 0) := hO.cell 7 rfl 66 (hk66)
  have c9_7_95 : u3.cell? ⟨pb, 95, none⟩ = some (.bool r) := hO.cell 7 rfl 95 (hk95)
  have c9_7_96 : u3.cell? ⟨pb, 96, none⟩ = some (.bool s) := hO.cell 7 rfl 96 (hk96)
  have c9_7_97 : u3.cell? ⟨pb, 97, none⟩ = some (.pointer (some ⟨cr, 0, none⟩)) := hO.cell 7 rfl 97 (hk97)
  have c9_7_105 : u3.cell? ⟨pb, 105, none⟩ = some (.pointer none) := hO.cell 7 rfl 105 (hk105)
  have c9_7_106 : u3.cell? ⟨pb, 106, none⟩ = some (.slice (some ⟨sb, 0, none⟩) 1 (1 + c)) := hO.cell 7 rfl 106 (hk106)
  have c9_7_117 : u3.cell? ⟨pb, 117, none⟩ = some (.map (some mp)) := hO.cell 7 rfl 117 (hk117)
  have c9_7_187 : u3.cell? ⟨pb, 187, none⟩ = some (.pointer (some ⟨ms, 0, none⟩)) := hO.cell 7 rfl 187 (hk187)
  have c9_7_350 : u3.cell? ⟨pb, 350, none⟩ = some (.bool false) := hO.cell 7 rfl 350 (hk350)
  have lt9_7 : pb < u3.heap.size := hO.lt 7 rfl
  have y9_7 : ∀ o, u3.frozen? ⟨pb, o, none⟩ = false := hO.free 7 rfl
  have c9_8_1 : u3.cell? ⟨sb, 1, none⟩ = some (.string ⟨#[70, 111, 111]⟩) := hO.cell 8 rfl 1 ((full_at rfl))
  have c9_8_4 : u3.cell? ⟨sb, 4, none⟩ = some (.int .u32 0) := hO.cell 8 rfl 4 ((full_at rfl))
  have lt9_8 : sb < u3.heap.size := hO.lt 8 rfl
  have y9_8 : ∀ o, u3.frozen? ⟨sb, o, none⟩ = false := hO.free 8 rfl
  have c9_10_5 : u3.cell? ⟨ms, 5, none⟩ = some (.slice none 0 0) := hO.cell 10 rfl 5 (hgen)
  have lt9_10 : ms < u3.heap.size := hO.lt 10 rfl
  have y9_10 : ∀ o, u3.frozen? ⟨ms, o, none⟩ = false := hO.free 10 rfl
  obtain ⟨c9_11_0, c9_11_1, lt9_11, y9_11, -⟩ := hO.k2 11 rfl
  obtain ⟨c9_12_0, c9_12_1, c9_12_2, c9_12_3, c9_12_4, lt9_12, y9_12, -⟩ := hO.k5 12 rfl
  have HO := Lib.hid hO
  clear hO
  go_wp2_with (first | (with_reducible refine Own.stay (fn := Tryz.f37) ?_) | fail)
  try with_reducible refine Own.Stay.mk ?_
  have hO := HO.out
  clear HO hix9 hax9 ix9_0 ix9_1 ix9_2 ix9_3 ix9_4 ix9_5 ix9_6 ix9_7 ix9_8 ix9_9 ix9_10 ix9_11 ix9_12 ix9 c9_0_0 lt9_0 y9_0 pl9_0 c9_1_0 c9_1_1 lt9_1 y9_1 pl9_1 c9_2_0 lt9_2 y9_2 c9_3_0 c9_3_1 lt9_3 y9_3 pl9_3 c9_4_0 c9_4_1 lt9_4 y9_4 pl9_4 c9_5_0 c9_5_1 lt9_5 y9_5 pl9_5 c9_6_0 lt9_6 y9_6 pl9_6 c9_7_32 c9_7_66 c9_7_95 c9_7_96 c9_7_97 c9_7_105 c9_7_106 c9_7_117 c9_7_187 c9_7_350 lt9_7 y9_7 c9_8_1 c9_8_4 lt9_8 y9_8 c9_10_5 lt9_10 y9_10 c9_11_0 c9_11_1 lt9_11 y9_11 c9_12_0 c9_12_1 c9_12_2 c9_12_3 c9_12_4 lt9_12 y9_12
  have hL := hO.apart
  have hX := hO.apartX
  have HL := Lib.hid hL
  have HX := Lib.hid hX
  clear hL hX
  have hP9 := hO.pick [0, 2, 3, 4, 6, 7, 8, 9, 10, 11, 12] (by decide)
  generalize hX9_7 : Own.Rest _ _ X = X9_7 at hP9
  replace hP9 : Own w0 u3 [row (nd4) 30 #[.int .i32 kl], row (nd6) 195 #[.pointer (some ⟨eb, 0, none⟩)], row (B1_3) 32 #[.nilIface, .int .i32 0], row (B1_2) 32 #[.iface vT (.pointer (some ⟨vx, 0, none⟩)), .int .i32 vl], row (B1) 30 #[.int .i32 loc], row (pb) 188 PC, row (sb) 74 (full symZ (symL ([sy ⟨#[70, 111, 111]⟩ 0])) c), ((mp, .map #[] 0) : Rw), row (ms) 223 MC, row (cr) 48 #[.int .u32 0, .int .u32 0], row (eb) 197 #[.slice (some ⟨ub, 0, none⟩) ln cp, .int .i32 0, .bool false, .bool false, .bool false]] X9_7 := hP9
  clear hO
  have hO := hP9
  clear hP9
  have st9 := rbinopU2_st pb PC sb c mp ms MC cr loc r s eb ub ln cp kl op vT vx vl B1_3 B1_2 B1 nd4 nd5 nd6
  let R9 := rbinopU2R pb PC sb c mp ms MC cr loc r s eb ub ln cp kl op vT vx vl B1_3 B1_2 B1 nd4 nd5 nd6
  refine wp_region_own (e := rbinopU2E pb PC sb c mp ms MC cr loc r s eb ub ln cp kl op vT vx vl B1_3 B1_2 B1 nd4 nd5 nd6) (anc := rbinopU2Anc) (G := (fun L9 α u9 => OwnF w0 u9 (act rbinopU2Cnt 11 L9) (rbinopU2R pb PC sb c mp ms MC cr loc r s eb ub ln cp kl op vT vx vl B1_3 B1_2 B1 nd4 nd5 nd6 L9 α) X9_7)) (by kernel_rfl) (by kernel_rfl) (by kernel_rfl) (by kernel_rfl) (rbinopU2_he pb PC sb c mp ms MC cr loc r s eb ub ln cp kl op vT vx vl B1_3 B1_2 B1 nd4 nd5 nd6) ?_ (RunsAll.all ?_) ?_
  · have hp : ∀ i, act rbinopU2Cnt 11 (fun _ => false) i → i ∈ [999, 1999, 2999, 3999, 4999, 5999, 6999, 7999, 8999, 9999, 10999] := by
      intro i hi
      have h9 : i % 1000 = 999 := by
        by_cases h : i % 1000 = 999
        · exact h
        · exact absurd (act_lt hi h) (by simp)
      unfold act at hi
      rw [if_pos h9] at hi
      simp only [List.mem_cons, List.not_mem_nil, or_false]
      omega
    refine hO.drew.family (fun i hi => ?_) (fun i j hi hj hij => ?_)
    · have := hp i hi
      simp only [List.mem_cons, List.not_mem_nil, or_false] at this
      rcases this with rfl | rfl | rfl | rfl | rfl | rfl | rfl | rfl | rfl | rfl | rfl <;> rfl
    · have h1 := hp i hi
      have h2 := hp j hj
      simp only [List.mem_cons, List.not_mem_nil, or_false] at h1 h2
      omega
  · refine ⟨?_, ?_, ?_, ?_, ?_, ?_, ?_, ?_, ?_, ?_, ?_, ?_, ?_, ?_, ?_, ?_, ?_, ?_, ?_, ?_, ?_, trivial⟩
    · intro L9 α a9 u9 K9 hL hcl hA hG hS h0 hK
      replace hL : L9 0 = false := hL
      have q12 : a9.tmps[12]? = some (.func (Fn.func 54) #[] #[.pointer (some ⟨nd5, 0, none⟩)]) := (h0 12 (by kernel_rfl)).trans rfl
      have s12 := Rega.eval_of q12
      go_simp
      exact hK _ α _ (fun _ _ => rfl) rfl (step_same (st9) hL hcl rfl rfl hG)
    · intro L9 α a9 u9 K9 hL hcl hA hG hS h0 hK
      replace hL : L9 1 = false := hL
      have q0 : a9.tmps[0]? = some (.pointer (some ⟨pb, 0, none⟩)) := (h0 0 (by kernel_rfl)).trans rfl
      have s0 := Rega.eval_of q0
      go_simp
      exact hK _ α _ (fun _ _ => rfl) rfl (step_same (st9) hL hcl rfl rfl hG)
    · intro L9 α a9 u9 K9 hL hcl hA hG hS h0 hK
      replace hL : L9 2 = false := hL
      have q6 : a9.tmps[6]? = some (.pointer (some ⟨B1, 0, none⟩)) := (h0 6 (by kernel_rfl)).trans rfl
      have s6 := Rega.eval_of q6
      have e0 : R9 L9 α 4999 = row (B1) 30 #[.int .i32 loc] := rfl
      have hr := hG.rowAt 4999 (act_base 4999 rfl) e0
      have c0 : u9.cell? ⟨B1, 0, none⟩ = some (.int .i32 loc) := hr.cell rfl
      clear hr e0
      go_simp
      exact hK _ α _ (fun _ _ => rfl) rfl (step_same (st9) hL hcl rfl rfl hG)
    · intro L9 α a9 u9 K9 hL hcl hA hG hS h0 hK
      replace hL : L9 3 = false := hL
      have q11 : a9.tmps[11]? = some (.func (Fn.func 61) #[] #[.pointer (some ⟨nd4, 0, none⟩), .pointer (some ⟨nd6, 0, none⟩)]) := (h0 11 (by kernel_rfl)).trans rfl
      have s11 := Rega.eval_of q11
      go_simp
      exact hK _ α _ (fun _ _ => rfl) rfl (step_same (st9) hL hcl rfl rfl hG)
    · intro L9 α a9 u9 K9 hL hcl hA hG hS h0 hK
      replace hL : L9 4 = false := hL
      have q24 : a9.tmps[24]? = some (.func (Fn.func 61) #[] #[.pointer (some ⟨nd4, 0, none⟩), .pointer (some ⟨nd6, 0, none⟩)]) := hS 3 24 (by decide) rfl (by show 24 < 41; decide)
      have s24 := Rega.eval_of q24
      go_simp
      have e0 : R9 L9 α 999 = row (nd4) 30 #[.int .i32 kl] := rfl
      have e1 : R9 L9 α 1999 = row (nd6) 195 #[.pointer (some ⟨eb, 0, none⟩)] := rfl
      have e2 : R9 L9 α 10999 = row (eb) 197 #[.slice (some ⟨ub, 0, none⟩) ln cp, .int .i32 0, .bool false, .bool false, .bool false] := rfl
      have hM : ∀ i, i ∈ [999, 1999, 10999] → act rbinopU2Cnt 11 L9 i := by
        intro i hi
        simp only [List.mem_cons, List.not_mem_nil, or_false] at hi
        rcases hi with rfl | rfl | rfl
        · exact act_base 999 rfl
        · exact act_base 1999 rfl
        · exact act_base 10999 rfl
      have hP : Own w0 u9 [row (nd4) 30 #[.int .i32 kl], row (nd6) 195 #[.pointer (some ⟨eb, 0, none⟩)], row (eb) 197 #[.slice (some ⟨ub, 0, none⟩) ln cp, .int .i32 0, .bool false, .bool false, .bool false]] _ := (hG.pick [999, 1999, 10999] (by decide) hM).conv (by
        show [R9 L9 α 999, R9 L9 α 1999, R9 L9 α 10999] = _
        rw [e0, e1, e2])
      clear e0 e1 e2 hM
      refine Calls.mono (capGet eb ub ln cp kl nd4 nd6 _ _ _ hP ) ?_
      rintro e9 u1 ⟨b0, rfl, hQ⟩
      obtain ⟨α', hα'⟩ : ∃ α' : Rega.Atoms, α' = (fun j => if j = 4 then b0 else α j) := ⟨_, rfl⟩
      have f0 : R9 (Rega.ran L9 4) α' 999 = row (nd4) 30 #[.int .i32 kl] := rfl
      have f1 : R9 (Rega.ran L9 4) α' 1999 = row (nd6) 195 #[.pointer (some ⟨eb, 0, none⟩)] := rfl
      have f2 : R9 (Rega.ran L9 4) α' 10999 = row (eb) 197 #[.slice (some ⟨ub, 0, none⟩) ln cp, .int .i32 0, .bool false, .bool false, .bool false] := rfl
      have f3 : R9 (Rega.ran L9 4) α' 4 = row (α' 4) 197 #[.slice (some ⟨ub, 0, none⟩) ln cp, .int .i32 0, .bool false, .bool false, .bool false] := rfl
      have hα : ∀ j, j % 1000 ≠ 4 → α' j = α j := fun j hj => by rw [hα']; simp only []; rw [if_neg (by omega)]
      have hb0 : α' 4 = b0 := by rw [hα']; rfl
      skip
      refine hK _ α' _ hα ?_ (step_call (st9) hL hcl hα [999, 1999, 10999] [999, 1999, 10999, 4] (by decide) (by decide) (by decide) (M := _) ?_ hG hQ)
      · show _ = (.agg #[.iface 195 (.pointer (some ⟨α' 4, 0, none⟩)), .int .i32 kl] : Value)
        simp only [hb0]
      · show [R9 (Rega.ran L9 4) α' 999, R9 (Rega.ran L9 4) α' 1999, R9 (Rega.ran L9 4) α' 10999, R9 (Rega.ran L9 4) α' 4] = _
        rw [f0, f1, f2, f3]
        simp only [hb0]
    · intro L9 α a9 u9 K9 hL hcl hA hG hS h0 hK
      replace hL : L9 5 = false := hL
      have q9 : a9.tmps[9]? = some (.pointer (some ⟨B1_2, 0, none⟩)) := (h0 9 (by kernel_rfl)).trans rfl
      have s9 := Rega.eval_of q9
      go_simp
      exact hK _ α _ (fun _ _ => rfl) rfl (step_same (st9) hL hcl rfl rfl hG)
    · intro L9 α a9 u9 K9 hL hcl hA hG hS h0 hK
      replace hL : L9 6 = false := hL
      have q26 : a9.tmps[26]? = some (.pointer (some ⟨B1_2, 1, none⟩)) := hS 5 26 (by decide) rfl (by show 26 < 41; decide)
      have s26 := Rega.eval_of q26
      have e0 : R9 L9 α 3999 = row (B1_2) 32 #[.iface vT (.pointer (some ⟨vx, 0, none⟩)), .int .i32 vl] := rfl
      have hr := hG.rowAt 3999 (act_base 3999 rfl) e0
      have c0 : u9.cell? ⟨B1_2, 1, none⟩ = some (.int .i32 vl) := hr.cell rfl
      clear hr e0
      go_simp
      exact hK _ α _ (fun _ _ => rfl) rfl (step_same (st9) hL hcl rfl rfl hG)
    · intro L9 α a9 u9 K9 hL hcl hA hG hS h0 hK
      replace hL : L9 7 = false := hL
      have q3 : a9.tmps[3]? = some (.int .u8 op) := (h0 3 (by kernel_rfl)).trans rfl
      have s3 := Rega.eval_of q3
      go_simp
      exact hK _ α _ (fun _ _ => rfl) rfl (step_same (st9) hL hcl rfl rfl hG)
    · intro L9 α a9 u9 K9 hL hcl hA hG hS h0 hK
      replace hL : L9 8 = false := hL
      have q0 : a9.tmps[0]? = some (.pointer (some ⟨pb, 0, none⟩)) := (h0 0 (by kernel_rfl)).trans rfl
      have s0 := Rega.eval_of q0
      go_simp
      exact hK _ α _ (fun _ _ => rfl) rfl (step_same (st9) hL hcl rfl rfl hG)
    · intro L9 α a9 u9 K9 hL hcl hA hG hS h0 hK
      replace hL : L9 9 = false := hL
      have q6 : a9.tmps[6]? = some (.pointer (some ⟨B1, 0, none⟩)) := (h0 6 (by kernel_rfl)).trans rfl
      have s6 := Rega.eval_of q6
      have e0 : R9 L9 α 4999 = row (B1) 30 #[.int .i32 loc] := rfl
      have hr := hG.rowAt 4999 (act_base 4999 rfl) e0
      have c0 : u9.cell? ⟨B1, 0, none⟩ = some (.int .i32 loc) := hr.cell rfl
      clear hr e0
      go_simp
      exact hK _ α _ (fun _ _ => rfl) rfl (step_same (st9) hL hcl rfl rfl hG)
    · intro L9 α a9 u9 K9 hL hcl hA hG hS h0 hK
      replace hL : L9 10 = false := hL
      have q11 : a9.tmps[11]? = some (.func (Fn.func 61) #[] #[.pointer (some ⟨nd4, 0, none⟩), .pointer (some ⟨nd6, 0, none⟩)]) := (h0 11 (by kernel_rfl)).trans rfl
      have s11 := Rega.eval_of q11
      go_simp
      exact hK _ α _ (fun _ _ => rfl) rfl (step_same (st9) hL hcl rfl rfl hG)
    · intro L9 α a9 u9 K9 hL hcl hA hG hS h0 hK
      replace hL : L9 11 = false := hL
      have q31 : a9.tmps[31]? = some (.func (Fn.func 61) #[] #[.pointer (some ⟨nd4, 0, none⟩), .pointer (some ⟨nd6, 0, none⟩)]) := hS 10 31 (by decide) rfl (by show 31 < 41; decide)
      have s31 := Rega.eval_of q31
      go_simp
      have e0 : R9 L9 α 999 = row (nd4) 30 #[.int .i32 kl] := rfl
      have e1 : R9 L9 α 1999 = row (nd6) 195 #[.pointer (some ⟨eb, 0, none⟩)] := rfl
      have e2 : R9 L9 α 10999 = row (eb) 197 #[.slice (some ⟨ub, 0, none⟩) ln cp, .int .i32 0, .bool false, .bool false, .bool false] := rfl
      have hM : ∀ i, i ∈ [999, 1999, 10999] → act rbinopU2Cnt 11 L9 i := by
        intro i hi
        simp only [List.mem_cons, List.not_mem_nil, or_false] at hi
        rcases hi with rfl | rfl | rfl
        · exact act_base 999 rfl
        · exact act_base 1999 rfl
        · exact act_base 10999 rfl
      have hP : Own w0 u9 [row (nd4) 30 #[.int .i32 kl], row (nd6) 195 #[.pointer (some ⟨eb, 0, none⟩)], row (eb) 197 #[.slice (some ⟨ub, 0, none⟩) ln cp, .int .i32 0, .bool false, .bool false, .bool false]] _ := (hG.pick [999, 1999, 10999] (by decide) hM).conv (by
        show [R9 L9 α 999, R9 L9 α 1999, R9 L9 α 10999] = _
        rw [e0, e1, e2])
      clear e0 e1 e2 hM
      refine Calls.mono (capGet eb ub ln cp kl nd4 nd6 _ _ _ hP ) ?_
      rintro e9 u1 ⟨b0, rfl, hQ⟩
      obtain ⟨α', hα'⟩ : ∃ α' : Rega.Atoms, α' = (fun j => if j = 11 then b0 else α j) := ⟨_, rfl⟩
      have f0 : R9 (Rega.ran L9 11) α' 999 = row (nd4) 30 #[.int .i32 kl] := rfl
      have f1 : R9 (Rega.ran L9 11) α' 1999 = row (nd6) 195 #[.pointer (some ⟨eb, 0, none⟩)] := rfl
      have f2 : R9 (Rega.ran L9 11) α' 10999 = row (eb) 197 #[.slice (some ⟨ub, 0, none⟩) ln cp, .int .i32 0, .bool false, .bool false, .bool false] := rfl
      have f3 : R9 (Rega.ran L9 11) α' 11 = row (α' 11) 197 #[.slice (some ⟨ub, 0, none⟩) ln cp, .int .i32 0, .bool false, .bool false, .bool false] := rfl
      have hα : ∀ j, j % 1000 ≠ 11 → α' j = α j := fun j hj => by rw [hα']; simp only []; rw [if_neg (by omega)]
      have hb0 : α' 11 = b0 := by rw [hα']; rfl
      skip
      refine hK _ α' _ hα ?_ (step_call (st9) hL hcl hα [999, 1999, 10999] [999, 1999, 10999, 11] (by decide) (by decide) (by decide) (M := _) ?_ hG hQ)
      · show _ = (.agg #[.iface 195 (.pointer (some ⟨α' 11, 0, none⟩)), .int .i32 kl] : Value)
        simp only [hb0]
      · show [R9 (Rega.ran L9 11) α' 999, R9 (Rega.ran L9 11) α' 1999, R9 (Rega.ran L9 11) α' 10999, R9 (Rega.ran L9 11) α' 11] = _
        rw [f0, f1, f2, f3]
        simp only [hb0]
    · intro L9 α a9 u9 K9 hL hcl hA hG hS h0 hK
      replace hL : L9 12 = false := hL
      have q29 : a9.tmps[29]? = some (.pointer (some ⟨pb, 0, none⟩)) := hS 8 29 (by decide) rfl (by show 29 < 41; decide)
      have s29 := Rega.eval_of q29
      have q30 : a9.tmps[30]? = some (.agg #[.int .i32 loc]) := hS 9 30 (by decide) rfl (by show 30 < 41; decide)
      have s30 := Rega.eval_of q30
      have q32 : a9.tmps[32]? = some (.agg #[.iface 195 (.pointer (some ⟨α 11, 0, none⟩)), .int .i32 kl]) := hS 11 32 (by decide) rfl (by show 32 < 41; decide)
      have s32 := Rega.eval_of q32
      go_simp
      have e0 : R9 L9 α 5999 = row (pb) 188 PC := by
        show rbinopU2T5999 pb PC sb c mp ms MC cr loc r s eb ub ln cp kl op vT vx vl B1_3 B1_2 B1 nd4 nd5 nd6 L9 α = _
        unfold rbinopU2T5999
        rw [if_neg (fun e => by have := hcl 18 e 12 (by decide); rw [hL] at this; cases this), if_neg (by rw [hL]; decide)]
      have e1 : R9 L9 α 6999 = row (sb) 74 (full symZ (symL ([sy ⟨#[70, 111, 111]⟩ 0])) c) := by
        show rbinopU2T6999 pb PC sb c mp ms MC cr loc r s eb ub ln cp kl op vT vx vl B1_3 B1_2 B1 nd4 nd5 nd6 L9 α = _
        unfold rbinopU2T6999
        rw [if_neg (fun e => by have := hcl 18 e 12 (by decide); rw [hL] at this; cases this), if_neg (by rw [hL]; decide)]
      have e2 : R9 L9 α 7999 = ((mp, .map #[] 0) : Rw) := by
        show rbinopU2T7999 pb PC sb c mp ms MC cr loc r s eb ub ln cp kl op vT vx vl B1_3 B1_2 B1 nd4 nd5 nd6 L9 α = _
        unfold rbinopU2T7999
        rw [if_neg (fun e => by have := hcl 18 e 12 (by decide); rw [hL] at this; cases this), if_neg (by rw [hL]; decide)]
      have e3 : R9 L9 α 8999 = row (ms) 223 MC := by
        show rbinopU2T8999 pb PC sb c mp ms MC cr loc r s eb ub ln cp kl op vT vx vl B1_3 B1_2 B1 nd4 nd5 nd6 L9 α = _
        unfold rbinopU2T8999
        rw [if_neg (fun e => by have := hcl 18 e 12 (by decide); rw [hL] at this; cases this), if_neg (by rw [hL]; decide)]
      have e4 : R9 L9 α 9999 = row (cr) 48 #[.int .u32 0, .int .u32 0] := rfl
      have hM : ∀ i, i ∈ [5999, 6999, 7999, 8999, 9999] → act rbinopU2Cnt 11 L9 i := by
        intro i hi
        simp only [List.mem_cons, List.not_mem_nil, or_false] at hi
        rcases hi with rfl | rfl | rfl | rfl | rfl
        · exact act_base 5999 rfl
        · exact act_base 6999 rfl
        · exact act_base 7999 rfl
        · exact act_base 8999 rfl
        · exact act_base 9999 rfl
      have hP : Own w0 u9 [row (pb) 188 PC, row (sb) 74 (full symZ (symL ([sy ⟨#[70, 111, 111]⟩ 0])) c), ((mp, .map #[] 0) : Rw), row (ms) 223 MC, row (cr) 48 #[.int .u32 0, .int .u32 0]] _ := (hG.pick [5999, 6999, 7999, 8999, 9999] (by decide) hM).conv (by
        show [R9 L9 α 5999, R9 L9 α 6999, R9 L9 α 7999, R9 L9 α 8999, R9 L9 α 9999] = _
        rw [e0, e1, e2, e3, e4])
      clear e0 e1 e2 e3 e4 hM
      refine Calls.mono (uGetF pb PC sb c mp ms MC cr loc r s 195 (α 11) kl _ _ _ hP hk350 hk32 hk105 hk66 hk117 hk187 hk97 hk95 hk96 hk106 hgen hg0 hg1) ?_
      rintro e9 u1 ⟨b0, b1, b2, b3, b4, b5, b7, b8, b6, b9, rfl, hQ⟩
      obtain ⟨α', hα'⟩ : ∃ α' : Rega.Atoms, α' = (fun j => if j = 12 then b0 else if j = 1012 then b1 else if j = 2012 then b2 else if j = 3012 then b3 else if j = 4012 then b4 else if j = 5012 then b5 else if j = 6012 then b6 else if j = 7012 then b7 else if j = 8012 then b8 else if j = 9012 then b9 else α j) := ⟨_, rfl⟩
      have f0 : R9 (Rega.ran L9 12) α' 5999 = row (pb) 188 (PC.setIfInBounds 106 (.slice (some ⟨α' 7012, 0, none⟩) 2 (2 + (α' 8012)))) := by
        show rbinopU2T5999 pb PC sb c mp ms MC cr loc r s eb ub ln cp kl op vT vx vl B1_3 B1_2 B1 nd4 nd5 nd6 (Rega.ran L9 12) α' = _
        unfold rbinopU2T5999
        rw [if_neg (fun e => (fun e => by have := hcl 18 e 12 (by decide); rw [hL] at this; cases this) ((ran_ne (by decide)).symm.trans e)), if_pos (show Rega.ran L9 12 12 = true from rfl)]
      have f1 : R9 (Rega.ran L9 12) α' 6999 = row (α' 7012) 74 (full symZ (symL ([sy ⟨#[70, 111, 111]⟩ (uz r 0), sy ⟨#[95, 95, 115, 117, 112, 101, 114, 71, 101, 116]⟩ 1])) (α' 8012)) := by
        show rbinopU2T6999 pb PC sb c mp ms MC cr loc r s eb ub ln cp kl op vT vx vl B1_3 B1_2 B1 nd4 nd5 nd6 (Rega.ran L9 12) α' = _
        unfold rbinopU2T6999
        rw [if_neg (fun e => (fun e => by have := hcl 18 e 12 (by decide); rw [hL] at this; cases this) ((ran_ne (by decide)).symm.trans e)), if_pos (show Rega.ran L9 12 12 = true from rfl)]
      have f2 : R9 (Rega.ran L9 12) α' 7999 = ((mp, .map #[⟨.string ⟨#[95, 95, 115, 117, 112, 101, 114, 71, 101, 116]⟩, .agg #[.int .i32 loc, .int .u32 0, .int .u32 1], 0⟩] 1) : Rw) := by
        show rbinopU2T7999 pb PC sb c mp ms MC cr loc r s eb ub ln cp kl op vT vx vl B1_3 B1_2 B1 nd4 nd5 nd6 (Rega.ran L9 12) α' = _
        unfold rbinopU2T7999
        rw [if_neg (fun e => (fun e => by have := hcl 18 e 12 (by decide); rw [hL] at this; cases this) ((ran_ne (by decide)).symm.trans e)), if_pos (show Rega.ran L9 12 12 = true from rfl)]
      have f3 : R9 (Rega.ran L9 12) α' 8999 = row (ms) 223 (MC.setIfInBounds 5 (.slice (some ⟨α' 6012, 0, none⟩) 1 (1 + (α' 9012)))) := by
        show rbinopU2T8999 pb PC sb c mp ms MC cr loc r s eb ub ln cp kl op vT vx vl B1_3 B1_2 B1 nd4 nd5 nd6 (Rega.ran L9 12) α' = _
        unfold rbinopU2T8999
        rw [if_neg (fun e => (fun e => by have := hcl 18 e 12 (by decide); rw [hL] at this; cases this) ((ran_ne (by decide)).symm.trans e)), if_pos (show Rega.ran L9 12 12 = true from rfl)]
      have f4 : R9 (Rega.ran L9 12) α' 6012 = row (α' 6012) 48 (full refZ ([.int .u32 0, .int .u32 1]) (α' 9012)) := by
        show rbinopU2T6012 pb PC sb c mp ms MC cr loc r s eb ub ln cp kl op vT vx vl B1_3 B1_2 B1 nd4 nd5 nd6 (Rega.ran L9 12) α' = _
        unfold rbinopU2T6012
        rw [if_neg (fun e => (fun e => by have := hcl 18 e 12 (by decide); rw [hL] at this; cases this) ((ran_ne (by decide)).symm.trans e))]
      have f5 : R9 (Rega.ran L9 12) α' 9999 = row (cr) 48 #[.int .u32 0, .int .u32 0] := rfl
      have f6 : R9 (Rega.ran L9 12) α' 1012 = row (α' 1012) 191 #[.int .u32 0, .int .u32 1, .bool false, .bool false, .bool false] := rfl
      have f7 : R9 (Rega.ran L9 12) α' 12 = row (α' 12) 255 #[.iface 189 (.pointer (some ⟨α' 1012, 0, none⟩)), .int .i32 loc, .slice (some ⟨α' 2012, 0, none⟩) 3 3, .int .i32 0, .int .u8 0, .int .u8 0, .bool false, .bool false] := rfl
      have f8 : R9 (Rega.ran L9 12) α' 2012 = row (α' 2012) 32 #[.iface (clsTy s) (.pointer (some ⟨α' 3012, 0, none⟩)), .int .i32 loc, .iface (thsTy r) (.pointer (some ⟨α' 5012, 0, none⟩)), .int .i32 loc, .iface 195 (.pointer (some ⟨α' 11, 0, none⟩)), .int .i32 kl] := rfl
      have f9 : R9 (Rega.ran L9 12) α' 3012 = row (α' 3012) (clsT s) (clsC s loc (α' 4012)) := rfl
      have f10 : R9 (Rega.ran L9 12) α' 4012 = row (α' 4012) (xtrT s) (xtrC s loc (α' 3012)) := rfl
      have f11 : R9 (Rega.ran L9 12) α' 5012 = row (α' 5012) (thsT r) (thsC r) := rfl
      have hα : ∀ j, j % 1000 ≠ 12 → α' j = α j := fun j hj => by rw [hα']; simp only []; rw [if_neg (by omega), if_neg (by omega), if_neg (by omega), if_neg (by omega), if_neg (by omega), if_neg (by omega), if_neg (by omega), if_neg (by omega), if_neg (by omega), if_neg (by omega)]
      have hb0 : α' 12 = b0 := by rw [hα']; rfl
      have hb1 : α' 1012 = b1 := by rw [hα']; rfl
      have hb2 : α' 2012 = b2 := by rw [hα']; rfl
      have hb3 : α' 3012 = b3 := by rw [hα']; rfl
      have hb4 : α' 4012 = b4 := by rw [hα']; rfl
      have hb5 : α' 5012 = b5 := by rw [hα']; rfl
      have hb6 : α' 6012 = b6 := by rw [hα']; rfl
      have hb7 : α' 7012 = b7 := by rw [hα']; rfl
      have hb8 : α' 8012 = b8 := by rw [hα']; rfl
      have hb9 : α' 9012 = b9 := by rw [hα']; rfl
      have ha11 : α' 11 = α 11 := hα 11 (by decide)
      skip
      refine hK _ α' _ hα ?_ (step_call (st9) hL hcl hα [5999, 6999, 7999, 8999, 9999] [5999, 6999, 7999, 8999, 6012, 9999, 1012, 12, 2012, 3012, 4012, 5012] (by decide) (by decide) (by decide) (M := _) ?_ hG hQ)
      · show _ = (.agg #[.iface 251 (.pointer (some ⟨α' 12, 0, none⟩)), .int .i32 loc] : Value)
        simp only [hb0]
      · show [R9 (Rega.ran L9 12) α' 5999, R9 (Rega.ran L9 12) α' 6999, R9 (Rega.ran L9 12) α' 7999, R9 (Rega.ran L9 12) α' 8999, R9 (Rega.ran L9 12) α' 6012, R9 (Rega.ran L9 12) α' 9999, R9 (Rega.ran L9 12) α' 1012, R9 (Rega.ran L9 12) α' 12, R9 (Rega.ran L9 12) α' 2012, R9 (Rega.ran L9 12) α' 3012, R9 (Rega.ran L9 12) α' 4012, R9 (Rega.ran L9 12) α' 5012] = _
        rw [f0, f1, f2, f3, f4, f5, f6, f7, f8, f9, f10, f11]
        simp only [hb0, hb1, hb2, hb3, hb4, hb5, hb6, hb7, hb8, hb9, ha11]
    · intro L9 α a9 u9 K9 hL hcl hA hG hS h0 hK
      replace hL : L9 13 = false := hL
      have q9 : a9.tmps[9]? = some (.pointer (some ⟨B1_2, 0, none⟩)) := (h0 9 (by kernel_rfl)).trans rfl
      have s9 := Rega.eval_of q9
      have e0 : R9 L9 α 3999 = row (B1_2) 32 #[.iface vT (.pointer (some ⟨vx, 0, none⟩)), .int .i32 vl] := rfl
      have hr := hG.rowAt 3999 (act_base 3999 rfl) e0
      have c0 : u9.cell? ⟨B1_2, 0, none⟩ = some (.iface vT (.pointer (some ⟨vx, 0, none⟩))) := hr.cell rfl
      have c1 : u9.cell? ⟨B1_2, 1, none⟩ = some (.int .i32 vl) := hr.cell rfl
      clear hr e0
      go_simp
      exact hK _ α _ (fun _ _ => rfl) rfl (step_same (st9) hL hcl rfl rfl hG)
    · intro L9 α a9 u9 K9 hL hcl hA hG hS h0 hK
      replace hL : L9 14 = false := hL
      have q28 : a9.tmps[28]? = some (.int .u8 op) := hS 7 28 (by decide) rfl (by show 28 < 41; decide)
      have s28 := Rega.eval_of q28
      have q33 : a9.tmps[33]? = some (.agg #[.iface 251 (.pointer (some ⟨α 12, 0, none⟩)), .int .i32 loc]) := hS 12 33 (by decide) rfl (by show 33 < 41; decide)
      have s33 := Rega.eval_of q33
      have q34 : a9.tmps[34]? = some (.agg #[.iface vT (.pointer (some ⟨vx, 0, none⟩)), .int .i32 vl]) := hS 13 34 (by decide) rfl (by show 34 < 41; decide)
      have s34 := Rega.eval_of q34
      go_simp
      exact hK _ α _ (fun _ _ => rfl) rfl (step_same (st9) hL hcl rfl rfl hG)
    · intro L9 α a9 u9 K9 hL hcl hA hG hS h0 hK
      replace hL : L9 15 = false := hL
      have q35 : a9.tmps[35]? = some (.agg #[.iface 251 (.pointer (some ⟨α 12, 0, none⟩)), .int .i32 loc, .iface vT (.pointer (some ⟨vx, 0, none⟩)), .int .i32 vl, .int .u8 op, .bool false]) := hS 14 35 (by decide) rfl (by show 35 < 41; decide)
      have s35 := Rega.eval_of q35
      go_simp
      exact hK _ (fun j => if j = 15 then u9.heap.size else α j) _ (fun j hj => if_neg (fun e => hj (by rw [e]))) rfl (step_alloc (st9) hL hcl rfl rfl (by decide) _ rfl hG)
    · intro L9 α a9 u9 K9 hL hcl hA hG hS h0 hK
      replace hL : L9 16 = false := hL
      have q36 : a9.tmps[36]? = some (.pointer (some ⟨α 15, 0, none⟩)) := hS 15 36 (by decide) rfl (by show 36 < 41; decide)
      have s36 := Rega.eval_of q36
      go_simp
      exact hK _ α _ (fun _ _ => rfl) rfl (step_same (st9) hL hcl rfl rfl hG)
    · intro L9 α a9 u9 K9 hL hcl hA hG hS h0 hK
      replace hL : L9 17 = false := hL
      have q27 : a9.tmps[27]? = some (.agg #[.int .i32 vl]) := hS 6 27 (by decide) rfl (by show 27 < 41; decide)
      have s27 := Rega.eval_of q27
      have q37 : a9.tmps[37]? = some (.iface 235 (.pointer (some ⟨α 15, 0, none⟩))) := hS 16 37 (by decide) rfl (by show 37 < 41; decide)
      have s37 := Rega.eval_of q37
      go_simp
      exact hK _ α _ (fun _ _ => rfl) rfl (step_same (st9) hL hcl rfl rfl hG)
    · intro L9 α a9 u9 K9 hL hcl hA hG hS h0 hK
      replace hL : L9 18 = false := hL
      have q22 : a9.tmps[22]? = some (.pointer (some ⟨pb, 0, none⟩)) := hS 1 22 (by decide) rfl (by show 22 < 41; decide)
      have s22 := Rega.eval_of q22
      have q23 : a9.tmps[23]? = some (.agg #[.int .i32 loc]) := hS 2 23 (by decide) rfl (by show 23 < 41; decide)
      have s23 := Rega.eval_of q23
      have q25 : a9.tmps[25]? = some (.agg #[.iface 195 (.pointer (some ⟨α 4, 0, none⟩)), .int .i32 kl]) := hS 4 25 (by decide) rfl (by show 25 < 41; decide)
      have s25 := Rega.eval_of q25
      have q38 : a9.tmps[38]? = some (.agg #[.iface 235 (.pointer (some ⟨α 15, 0, none⟩)), .int .i32 vl]) := hS 17 38 (by decide) rfl (by show 38 < 41; decide)
      have s38 := Rega.eval_of q38
      go_simp
      have e0 : R9 L9 α 5999 = row (pb) 188 (PC.setIfInBounds 106 (.slice (some ⟨α 7012, 0, none⟩) 2 (2 + (α 8012)))) := by
        show rbinopU2T5999 pb PC sb c mp ms MC cr loc r s eb ub ln cp kl op vT vx vl B1_3 B1_2 B1 nd4 nd5 nd6 L9 α = _
        unfold rbinopU2T5999
        rw [if_neg (by rw [hL]; decide), if_pos (hA 12 (by decide))]
      have e1 : R9 L9 α 6999 = row (α 7012) 74 (full symZ (symL ([sy ⟨#[70, 111, 111]⟩ (uz r 0), sy ⟨#[95, 95, 115, 117, 112, 101, 114, 71, 101, 116]⟩ 1])) (α 8012)) := by
        show rbinopU2T6999 pb PC sb c mp ms MC cr loc r s eb ub ln cp kl op vT vx vl B1_3 B1_2 B1 nd4 nd5 nd6 L9 α = _
        unfold rbinopU2T6999
        rw [if_neg (by rw [hL]; decide), if_pos (hA 12 (by decide))]
      have e2 : R9 L9 α 7999 = ((mp, .map #[⟨.string ⟨#[95, 95, 115, 117, 112, 101, 114, 71, 101, 116]⟩, .agg #[.int .i32 loc, .int .u32 0, .int .u32 1], 0⟩] 1) : Rw) := by
        show rbinopU2T7999 pb PC sb c mp ms MC cr loc r s eb ub ln cp kl op vT vx vl B1_3 B1_2 B1 nd4 nd5 nd6 L9 α = _
        unfold rbinopU2T7999
        rw [if_neg (by rw [hL]; decide), if_pos (hA 12 (by decide))]
      have e3 : R9 L9 α 8999 = row (ms) 223 (MC.setIfInBounds 5 (.slice (some ⟨α 6012, 0, none⟩) 1 (1 + (α 9012)))) := by
        show rbinopU2T8999 pb PC sb c mp ms MC cr loc r s eb ub ln cp kl op vT vx vl B1_3 B1_2 B1 nd4 nd5 nd6 L9 α = _
        unfold rbinopU2T8999
        rw [if_neg (by rw [hL]; decide), if_pos (hA 12 (by decide))]
      have e4 : R9 L9 α 6012 = row (α 6012) 48 (full refZ ([.int .u32 0, .int .u32 1]) (α 9012)) := by
        show rbinopU2T6012 pb PC sb c mp ms MC cr loc r s eb ub ln cp kl op vT vx vl B1_3 B1_2 B1 nd4 nd5 nd6 L9 α = _
        unfold rbinopU2T6012
        rw [if_neg (by rw [hL]; decide)]
      have e5 : R9 L9 α 9999 = row (cr) 48 #[.int .u32 0, .int .u32 0] := rfl
      have hM : ∀ i, i ∈ [5999, 6999, 7999, 8999, 6012, 9999] → act rbinopU2Cnt 11 L9 i := by
        intro i hi
        simp only [List.mem_cons, List.not_mem_nil, or_false] at hi
        rcases hi with rfl | rfl | rfl | rfl | rfl | rfl
        · exact act_base 5999 rfl
        · exact act_base 6999 rfl
        · exact act_base 7999 rfl
        · exact act_base 8999 rfl
        · exact act_new 6012 rfl (hA 12 (by decide))
        · exact act_base 9999 rfl
      have hP : Own w0 u9 [row (pb) 188 (PC.setIfInBounds 106 (.slice (some ⟨α 7012, 0, none⟩) 2 (2 + (α 8012)))), row (α 7012) 74 (full symZ (symL ([sy ⟨#[70, 111, 111]⟩ (uz r 0), sy ⟨#[95, 95, 115, 117, 112, 101, 114, 71, 101, 116]⟩ 1])) (α 8012)), ((mp, .map #[⟨.string ⟨#[95, 95, 115, 117, 112, 101, 114, 71, 101, 116]⟩, .agg #[.int .i32 loc, .int .u32 0, .int .u32 1], 0⟩] 1) : Rw), row (ms) 223 (MC.setIfInBounds 5 (.slice (some ⟨α 6012, 0, none⟩) 1 (1 + (α 9012)))), row (α 6012) 48 (full refZ ([.int .u32 0, .int .u32 1]) (α 9012)), row (cr) 48 #[.int .u32 0, .int .u32 0]] _ := (hG.pick [5999, 6999, 7999, 8999, 6012, 9999] (by decide) hM).conv (by
        show [R9 L9 α 5999, R9 L9 α 6999, R9 L9 α 7999, R9 L9 α 8999, R9 L9 α 6012, R9 L9 α 9999] = _
        rw [e0, e1, e2, e3, e4, e5])
      clear e0 e1 e2 e3 e4 e5 hM
      refine Calls.mono (uSetG pb (PC.setIfInBounds 106 (.slice (some ⟨α 7012, 0, none⟩) 2 (2 + (α 8012)))) (α 7012) (α 8012) mp ms (MC.setIfInBounds 5 (.slice (some ⟨α 6012, 0, none⟩) 1 (1 + (α 9012)))) cr loc (α 6012) (α 9012) r s 195 (α 4) kl 235 (α 15) vl _ _ _ hP (get_other hk350 (by omega) _) (get_other hk32 (by omega) _) (get_other hk105 (by omega) _) (get_other hk66 (by omega) _) (get_other hk117 (by omega) _) (get_other hk187 (by omega) _) (get_other hk97 (by omega) _) (get_other hk95 (by omega) _) (get_other hk96 (by omega) _) (get_set hk106 _) (get_set hgen _) hg0 hg1) ?_
      rintro e9 u1 ⟨b0, b1, b2, b3, b4, b5, b6, b7, b8, b9, rfl, hQ⟩
      obtain ⟨α', hα'⟩ : ∃ α' : Rega.Atoms, α' = (fun j => if j = 18 then b0 else if j = 1018 then b1 else if j = 2018 then b2 else if j = 3018 then b3 else if j = 4018 then b4 else if j = 5018 then b5 else if j = 6018 then b6 else if j = 7018 then b7 else if j = 8018 then b8 else if j = 9018 then b9 else α j) := ⟨_, rfl⟩
      have f0 : R9 (Rega.ran L9 18) α' 5999 = row (pb) 188 ((PC.setIfInBounds 106 (.slice (some ⟨α' 7012, 0, none⟩) 2 (2 + (α' 8012)))).setIfInBounds 106 (.slice (some ⟨α' 6018, 0, none⟩) 3 (3 + (α' 7018)))) := by
        show rbinopU2T5999 pb PC sb c mp ms MC cr loc r s eb ub ln cp kl op vT vx vl B1_3 B1_2 B1 nd4 nd5 nd6 (Rega.ran L9 18) α' = _
        unfold rbinopU2T5999
        rw [if_pos (show Rega.ran L9 18 18 = true from rfl)]
      have f1 : R9 (Rega.ran L9 18) α' 6999 = row (α' 6018) 74 (full symZ (symL ([sy ⟨#[70, 111, 111]⟩ (uz r (uz r 0)), sy ⟨#[95, 95, 115, 117, 112, 101, 114, 71, 101, 116]⟩ 1, sy ⟨#[95, 95, 115, 117, 112, 101, 114, 83, 101, 116]⟩ 1])) (α' 7018)) := by
        show rbinopU2T6999 pb PC sb c mp ms MC cr loc r s eb ub ln cp kl op vT vx vl B1_3 B1_2 B1 nd4 nd5 nd6 (Rega.ran L9 18) α' = _
        unfold rbinopU2T6999
        rw [if_pos (show Rega.ran L9 18 18 = true from rfl)]
      have f2 : R9 (Rega.ran L9 18) α' 7999 = ((mp, .map #[⟨.string ⟨#[95, 95, 115, 117, 112, 101, 114, 71, 101, 116]⟩, .agg #[.int .i32 loc, .int .u32 0, .int .u32 1], 0⟩, ⟨.string ⟨#[95, 95, 115, 117, 112, 101, 114, 83, 101, 116]⟩, .agg #[.int .i32 loc, .int .u32 0, .int .u32 2], 1⟩] 2) : Rw) := by
        show rbinopU2T7999 pb PC sb c mp ms MC cr loc r s eb ub ln cp kl op vT vx vl B1_3 B1_2 B1 nd4 nd5 nd6 (Rega.ran L9 18) α' = _
        unfold rbinopU2T7999
        rw [if_pos (show Rega.ran L9 18 18 = true from rfl)]
      have f3 : R9 (Rega.ran L9 18) α' 8999 = row (ms) 223 ((MC.setIfInBounds 5 (.slice (some ⟨α' 6012, 0, none⟩) 1 (1 + (α' 9012)))).setIfInBounds 5 (.slice (some ⟨α' 8018, 0, none⟩) 2 (2 + (α' 9018)))) := by
        show rbinopU2T8999 pb PC sb c mp ms MC cr loc r s eb ub ln cp kl op vT vx vl B1_3 B1_2 B1 nd4 nd5 nd6 (Rega.ran L9 18) α' = _
        unfold rbinopU2T8999
        rw [if_pos (show Rega.ran L9 18 18 = true from rfl)]
      have f4 : R9 (Rega.ran L9 18) α' 6012 = row (α' 8018) 48 (full refZ ([.int .u32 0, .int .u32 1, .int .u32 0, .int .u32 2]) (α' 9018)) := by
        show rbinopU2T6012 pb PC sb c mp ms MC cr loc r s eb ub ln cp kl op vT vx vl B1_3 B1_2 B1 nd4 nd5 nd6 (Rega.ran L9 18) α' = _
        unfold rbinopU2T6012
        rw [if_pos (show Rega.ran L9 18 18 = true from rfl)]
      have f5 : R9 (Rega.ran L9 18) α' 9999 = row (cr) 48 #[.int .u32 0, .int .u32 0] := rfl
      have f6 : R9 (Rega.ran L9 18) α' 1018 = row (α' 1018) 191 #[.int .u32 0, .int .u32 2, .bool false, .bool false, .bool false] := rfl
      have f7 : R9 (Rega.ran L9 18) α' 18 = row (α' 18) 255 #[.iface 189 (.pointer (some ⟨α' 1018, 0, none⟩)), .int .i32 loc, .slice (some ⟨α' 2018, 0, none⟩) 4 4, .int .i32 0, .int .u8 0, .int .u8 0, .bool false, .bool false] := rfl
      have f8 : R9 (Rega.ran L9 18) α' 2018 = row (α' 2018) 32 #[.iface (clsTy s) (.pointer (some ⟨α' 3018, 0, none⟩)), .int .i32 loc, .iface (thsTy r) (.pointer (some ⟨α' 5018, 0, none⟩)), .int .i32 loc, .iface 195 (.pointer (some ⟨α' 4, 0, none⟩)), .int .i32 kl, .iface 235 (.pointer (some ⟨α' 15, 0, none⟩)), .int .i32 vl] := rfl
      have f9 : R9 (Rega.ran L9 18) α' 3018 = row (α' 3018) (clsT s) (clsC s loc (α' 4018)) := rfl
      have f10 : R9 (Rega.ran L9 18) α' 4018 = row (α' 4018) (xtrT s) (xtrC s loc (α' 3018)) := rfl
      have f11 : R9 (Rega.ran L9 18) α' 5018 = row (α' 5018) (thsT r) (thsC r) := rfl
      have hα : ∀ j, j % 1000 ≠ 18 → α' j = α j := fun j hj => by rw [hα']; simp only []; rw [if_neg (by omega), if_neg (by omega), if_neg (by omega), if_neg (by omega), if_neg (by omega), if_neg (by omega), if_neg (by omega), if_neg (by omega), if_neg (by omega), if_neg (by omega)]
      have hb0 : α' 18 = b0 := by rw [hα']; rfl
      have hb1 : α' 1018 = b1 := by rw [hα']; rfl
      have hb2 : α' 2018 = b2 := by rw [hα']; rfl
      have hb3 : α' 3018 = b3 := by rw [hα']; rfl
      have hb4 : α' 4018 = b4 := by rw [hα']; rfl
      have hb5 : α' 5018 = b5 := by rw [hα']; rfl
      have hb6 : α' 6018 = b6 := by rw [hα']; rfl
      have hb7 : α' 7018 = b7 := by rw [hα']; rfl
      have hb8 : α' 8018 = b8 := by rw [hα']; rfl
      have hb9 : α' 9018 = b9 := by rw [hα']; rfl
      have ha4 : α' 4 = α 4 := hα 4 (by decide)
      have ha15 : α' 15 = α 15 := hα 15 (by decide)
      have ha6012 : α' 6012 = α 6012 := hα 6012 (by decide)
      have ha7012 : α' 7012 = α 7012 := hα 7012 (by decide)
      have ha8012 : α' 8012 = α 8012 := hα 8012 (by decide)
      have ha9012 : α' 9012 = α 9012 := hα 9012 (by decide)
      skip
      refine hK _ α' _ hα ?_ (step_call (st9) hL hcl hα [5999, 6999, 7999, 8999, 6012, 9999] [5999, 6999, 7999, 8999, 6012, 9999, 1018, 18, 2018, 3018, 4018, 5018] (by decide) (by decide) (by decide) (M := _) ?_ hG hQ)
      · show _ = (.agg #[.iface 251 (.pointer (some ⟨α' 18, 0, none⟩)), .int .i32 loc] : Value)
        simp only [hb0]
      · show [R9 (Rega.ran L9 18) α' 5999, R9 (Rega.ran L9 18) α' 6999, R9 (Rega.ran L9 18) α' 7999, R9 (Rega.ran L9 18) α' 8999, R9 (Rega.ran L9 18) α' 6012, R9 (Rega.ran L9 18) α' 9999, R9 (Rega.ran L9 18) α' 1018, R9 (Rega.ran L9 18) α' 18, R9 (Rega.ran L9 18) α' 2018, R9 (Rega.ran L9 18) α' 3018, R9 (Rega.ran L9 18) α' 4018, R9 (Rega.ran L9 18) α' 5018] = _
        rw [f0, f1, f2, f3, f4, f5, f6, f7, f8, f9, f10, f11]
        simp only [hb0, hb1, hb2, hb3, hb4, hb5, hb6, hb7, hb8, hb9, ha4, ha15, ha6012, ha7012, ha8012, ha9012]
    · intro L9 α a9 u9 K9 hL hcl hA hG hS h0 hK
      replace hL : L9 19 = false := hL
      have q21 : a9.tmps[21]? = some (.func (Fn.func 54) #[] #[.pointer (some ⟨nd5, 0, none⟩)]) := hS 0 21 (by decide) rfl (by show 21 < 41; decide)
      have s21 := Rega.eval_of q21
      have q39 : a9.tmps[39]? = some (.agg #[.iface 251 (.pointer (some ⟨α 18, 0, none⟩)), .int .i32 loc]) := hS 18 39 (by decide) rfl (by show 39 < 41; decide)
      have s39 := Rega.eval_of q39
      go_simp
      have hM : ∀ i, i ∈ [] → act rbinopU2Cnt 11 L9 i := by intro i hi; simp at hi
      have hP : Own w0 u9 [] _ := hG.pick [] (by decide) (by simp)
      clear hM
      refine Calls.mono (capWrap 251 (α 18) loc nd5 _ _ _ hP ) ?_
      rintro e9 u1 ⟨rfl, hQ⟩
      obtain ⟨α', hα'⟩ : ∃ α' : Rega.Atoms, α' = α := ⟨_, rfl⟩
      have hα : ∀ j, j % 1000 ≠ 19 → α' j = α j := fun j hj => by rw [hα']
      have ha18 : α' 18 = α 18 := hα 18 (by decide)
      skip
      refine hK _ α' _ hα ?_ (step_call (st9) hL hcl hα [] [] (by decide) (by decide) (by decide) (M := _) ?_ hG hQ)
      · show _ = (.agg #[.iface 251 (.pointer (some ⟨α' 18, 0, none⟩)), .int .i32 loc] : Value)
        simp only [ha18]
      · show [] = _
        rw []
    · intro L9 α a9 u9 K9 hL hcl hA hG hS h0 hK
      replace hL : L9 20 = false := hL
      have q10 : a9.tmps[10]? = some (.pointer (some ⟨B1_3, 0, none⟩)) := (h0 10 (by kernel_rfl)).trans rfl
      have s10 := Rega.eval_of q10
      have q40 : a9.tmps[40]? = some (.agg #[.iface 251 (.pointer (some ⟨α 18, 0, none⟩)), .int .i32 loc]) := hS 19 40 (by decide) rfl (by show 40 < 41; decide)
      have s40 := Rega.eval_of q40
      have e0 : R9 L9 α 2999 = row (B1_3) 32 #[.nilIface, .int .i32 0] := by
        show rbinopU2T2999 pb PC sb c mp ms MC cr loc r s eb ub ln cp kl op vT vx vl B1_3 B1_2 B1 nd4 nd5 nd6 L9 α = _
        unfold rbinopU2T2999
        rw [if_neg (by rw [hL]; decide)]
      have hr := hG.rowAt 2999 (act_base 2999 rfl) e0
      have c0 : u9.cell? ⟨B1_3, 0, none⟩ = some (.nilIface) := hr.cell rfl
      have y0 : u9.frozen? ⟨B1_3, 0, none⟩ = false := hr.free 0
      have c1 : u9.cell? ⟨B1_3, 1, none⟩ = some (.int .i32 0) := hr.cell rfl
      have y1 : u9.frozen? ⟨B1_3, 1, none⟩ = false := hr.free 1
      clear hr
      have E0 := Lib.hid e0
      clear e0
      go_simp
      have e1 : R9 (Rega.ran L9 20) α 2999 = row (B1_3) 32 #[.iface 251 (.pointer (some ⟨α 18, 0, none⟩)), .int .i32 loc] := by
        show rbinopU2T2999 pb PC sb c mp ms MC cr loc r s eb ub ln cp kl op vT vx vl B1_3 B1_2 B1 nd4 nd5 nd6 (Rega.ran L9 20) α = _
        unfold rbinopU2T2999
        rw [if_pos (show Rega.ran L9 20 20 = true from rfl)]
      exact hK _ α _ (fun _ _ => rfl) rfl (step_sets (st9) hL hcl rfl 2999 rfl (act_base 2999 rfl) E0.out 0 [.iface 251 (.pointer (some ⟨α 18, 0, none⟩)), .int .i32 loc] (e1.trans rfl) hG)
  clear st9
  intro α u hG
  have e0 : R9 (fun k => decide (k < 21)) α 999 = row (nd4) 30 #[.int .i32 kl] := rfl
  have e1 : R9 (fun k => decide (k < 21)) α 1999 = row (nd6) 195 #[.pointer (some ⟨eb, 0, none⟩)] := rfl
  have e2 : R9 (fun k => decide (k < 21)) α 2999 = row (B1_3) 32 #[.iface 251 (.pointer (some ⟨α 18, 0, none⟩)), .int .i32 loc] := by
    show rbinopU2T2999 pb PC sb c mp ms MC cr loc r s eb ub ln cp kl op vT vx vl B1_3 B1_2 B1 nd4 nd5 nd6 (fun k => decide (k < 21)) α = _
    unfold rbinopU2T2999
    rw [if_pos (by decide)]
  have e3 : R9 (fun k => decide (k < 21)) α 3999 = row (B1_2) 32 #[.iface vT (.pointer (some ⟨vx, 0, none⟩)), .int .i32 vl] := rfl
  have e4 : R9 (fun k => decide (k < 21)) α 4999 = row (B1) 30 #[.int .i32 loc] := rfl
  have e5 : R9 (fun k => decide (k < 21)) α 5999 = row (pb) 188 ((PC.setIfInBounds 106 (.slice (some ⟨α 7012, 0, none⟩) 2 (2 + (α 8012)))).setIfInBounds 106 (.slice (some ⟨α 6018, 0, none⟩) 3 (3 + (α 7018)))) := by
    show rbinopU2T5999 pb PC sb c mp ms MC cr loc r s eb ub ln cp kl op vT vx vl B1_3 B1_2 B1 nd4 nd5 nd6 (fun k => decide (k < 21)) α = _
    unfold rbinopU2T5999
    rw [if_pos (by decide)]
  have e6 : R9 (fun k => decide (k < 21)) α 6999 = row (α 6018) 74 (full symZ (symL ([sy ⟨#[70, 111, 111]⟩ (uz r (uz r 0)), sy ⟨#[95, 95, 115, 117, 112, 101, 114, 71, 101, 116]⟩ 1, sy ⟨#[95, 95, 115, 117, 112, 101, 114, 83, 101, 116]⟩ 1])) (α 7018)) := by
    show rbinopU2T6999 pb PC sb c mp ms MC cr loc r s eb ub ln cp kl op vT vx vl B1_3 B1_2 B1 nd4 nd5 nd6 (fun k => decide (k < 21)) α = _
    unfold rbinopU2T6999
    rw [if_pos (by decide)]
  have e7 : R9 (fun k => decide (k < 21)) α 7999 = ((mp, .map #[⟨.string ⟨#[95, 95, 115, 117, 112, 101, 114, 71, 101, 116]⟩, .agg #[.int .i32 loc, .int .u32 0, .int .u32 1], 0⟩, ⟨.string ⟨#[95, 95, 115, 117, 112, 101, 114, 83, 101, 116]⟩, .agg #[.int .i32 loc, .int .u32 0, .int .u32 2], 1⟩] 2) : Rw) := by
    show rbinopU2T7999 pb PC sb c mp ms MC cr loc r s eb ub ln cp kl op vT vx vl B1_3 B1_2 B1 nd4 nd5 nd6 (fun k => decide (k < 21)) α = _
    unfold rbinopU2T7999
    rw [if_pos (by decide)]
  have e8 : R9 (fun k => decide (k < 21)) α 8999 = row (ms) 223 ((MC.setIfInBounds 5 (.slice (some ⟨α 6012, 0, none⟩) 1 (1 + (α 9012)))).setIfInBounds 5 (.slice (some ⟨α 8018, 0, none⟩) 2 (2 + (α 9018)))) := by
    show rbinopU2T8999 pb PC sb c mp ms MC cr loc r s eb ub ln cp kl op vT vx vl B1_3 B1_2 B1 nd4 nd5 nd6 (fun k => decide (k < 21)) α = _
    unfold rbinopU2T8999
    rw [if_pos (by decide)]
  have e9 : R9 (fun k => decide (k < 21)) α 9999 = row (cr) 48 #[.int .u32 0, .int .u32 0] := rfl
  have e10 : R9 (fun k => decide (k < 21)) α 10999 = row (eb) 197 #[.slice (some ⟨ub, 0, none⟩) ln cp, .int .i32 0, .bool false, .bool false, .bool false] := rfl
  have e11 : R9 (fun k => decide (k < 21)) α 4 = row (α 4) 197 #[.slice (some ⟨ub, 0, none⟩) ln cp, .int .i32 0, .bool false, .bool false, .bool false] := rfl
  have e12 : R9 (fun k => decide (k < 21)) α 11 = row (α 11) 197 #[.slice (some ⟨ub, 0, none⟩) ln cp, .int .i32 0, .bool false, .bool false, .bool false] := rfl
  have e13 : R9 (fun k => decide (k < 21)) α 12 = row (α 12) 255 #[.iface 189 (.pointer (some ⟨α 1012, 0, none⟩)), .int .i32 loc, .slice (some ⟨α 2012, 0, none⟩) 3 3, .int .i32 0, .int .u8 0, .int .u8 0, .bool false, .bool false] := rfl
  have e14 : R9 (fun k => decide (k < 21)) α 1012 = row (α 1012) 191 #[.int .u32 0, .int .u32 1, .bool false, .bool false, .bool false] := rfl
  have e15 : R9 (fun k => decide (k < 21)) α 2012 = row (α 2012) 32 #[.iface (clsTy s) (.pointer (some ⟨α 3012, 0, none⟩)), .int .i32 loc, .iface (thsTy r) (.pointer (some ⟨α 5012, 0, none⟩)), .int .i32 loc, .iface 195 (.pointer (some ⟨α 11, 0, none⟩)), .int .i32 kl] := rfl
  have e16 : R9 (fun k => decide (k < 21)) α 3012 = row (α 3012) (clsT s) (clsC s loc (α 4012)) := rfl
  have e17 : R9 (fun k => decide (k < 21)) α 4012 = row (α 4012) (xtrT s) (xtrC s loc (α 3012)) := rfl
  have e18 : R9 (fun k => decide (k < 21)) α 5012 = row (α 5012) (thsT r) (thsC r) := rfl
  have e19 : R9 (fun k => decide (k < 21)) α 6012 = row (α 8018) 48 (full refZ ([.int .u32 0, .int .u32 1, .int .u32 0, .int .u32 2]) (α 9018)) := by
    show rbinopU2T6012 pb PC sb c mp ms MC cr loc r s eb ub ln cp kl op vT vx vl B1_3 B1_2 B1 nd4 nd5 nd6 (fun k => decide (k < 21)) α = _
    unfold rbinopU2T6012
    rw [if_pos (by decide)]
  have e20 : R9 (fun k => decide (k < 21)) α 15 = row (α 15) 238 #[.iface 251 (.pointer (some ⟨α 12, 0, none⟩)), .int .i32 loc, .iface vT (.pointer (some ⟨vx, 0, none⟩)), .int .i32 vl, .int .u8 op, .bool false] := rfl
  have e21 : R9 (fun k => decide (k < 21)) α 18 = row (α 18) 255 #[.iface 189 (.pointer (some ⟨α 1018, 0, none⟩)), .int .i32 loc, .slice (some ⟨α 2018, 0, none⟩) 4 4, .int .i32 0, .int .u8 0, .int .u8 0, .bool false, .bool false] := rfl
  have e22 : R9 (fun k => decide (k < 21)) α 1018 = row (α 1018) 191 #[.int .u32 0, .int .u32 2, .bool false, .bool false, .bool false] := rfl
  have e23 : R9 (fun k => decide (k < 21)) α 2018 = row (α 2018) 32 #[.iface (clsTy s) (.pointer (some ⟨α 3018, 0, none⟩)), .int .i32 loc, .iface (thsTy r) (.pointer (some ⟨α 5018, 0, none⟩)), .int .i32 loc, .iface 195 (.pointer (some ⟨α 4, 0, none⟩)), .int .i32 kl, .iface 235 (.pointer (some ⟨α 15, 0, none⟩)), .int .i32 vl] := rfl
  have e24 : R9 (fun k => decide (k < 21)) α 3018 = row (α 3018) (clsT s) (clsC s loc (α 4018)) := rfl
  have e25 : R9 (fun k => decide (k < 21)) α 4018 = row (α 4018) (xtrT s) (xtrC s loc (α 3018)) := rfl
  have e26 : R9 (fun k => decide (k < 21)) α 5018 = row (α 5018) (thsT r) (thsC r) := rfl
  have hO : Own w0 u [row (nd4) 30 #[.int .i32 kl], row (nd6) 195 #[.pointer (some ⟨eb, 0, none⟩)], row (B1_3) 32 #[.iface 251 (.pointer (some ⟨α 18, 0, none⟩)), .int .i32 loc], row (B1_2) 32 #[.iface vT (.pointer (some ⟨vx, 0, none⟩)), .int .i32 vl], row (B1) 30 #[.int .i32 loc], row (pb) 188 ((PC.setIfInBounds 106 (.slice (some ⟨α 7012, 0, none⟩) 2 (2 + (α 8012)))).setIfInBounds 106 (.slice (some ⟨α 6018, 0, none⟩) 3 (3 + (α 7018)))), row (α 6018) 74 (full symZ (symL ([sy ⟨#[70, 111, 111]⟩ (uz r (uz r 0)), sy ⟨#[95, 95, 115, 117, 112, 101, 114, 71, 101, 116]⟩ 1, sy ⟨#[95, 95, 115, 117, 112, 101, 114, 83, 101, 116]⟩ 1])) (α 7018)), ((mp, .map #[⟨.string ⟨#[95, 95, 115, 117, 112, 101, 114, 71, 101, 116]⟩, .agg #[.int .i32 loc, .int .u32 0, .int .u32 1], 0⟩, ⟨.string ⟨#[95, 95, 115, 117, 112, 101, 114, 83, 101, 116]⟩, .agg #[.int .i32 loc, .int .u32 0, .int .u32 2], 1⟩] 2) : Rw), row (ms) 223 ((MC.setIfInBounds 5 (.slice (some ⟨α 6012, 0, none⟩) 1 (1 + (α 9012)))).setIfInBounds 5 (.slice (some ⟨α 8018, 0, none⟩) 2 (2 + (α 9018)))), row (cr) 48 #[.int .u32 0, .int .u32 0], row (eb) 197 #[.slice (some ⟨ub, 0, none⟩) ln cp, .int .i32 0, .bool false, .bool false, .bool false], row (α 4) 197 #[.slice (some ⟨ub, 0, none⟩) ln cp, .int .i32 0, .bool false, .bool false, .bool false], row (α 11) 197 #[.slice (some ⟨ub, 0, none⟩) ln cp, .int .i32 0, .bool false, .bool false, .bool false], row (α 12) 255 #[.iface 189 (.pointer (some ⟨α 1012, 0, none⟩)), .int .i32 loc, .slice (some ⟨α 2012, 0, none⟩) 3 3, .int .i32 0, .int .u8 0, .int .u8 0, .bool false, .bool false], row (α 1012) 191 #[.int .u32 0, .int .u32 1, .bool false, .bool false, .bool false], row (α 2012) 32 #[.iface (clsTy s) (.pointer (some ⟨α 3012, 0, none⟩)), .int .i32 loc, .iface (thsTy r) (.pointer (some ⟨α 5012, 0, none⟩)), .int .i32 loc, .iface 195 (.pointer (some ⟨α 11, 0, none⟩)), .int .i32 kl], row (α 3012) (clsT s) (clsC s loc (α 4012)), row (α 4012) (xtrT s) (xtrC s loc (α 3012)), row (α 5012) (thsT r) (thsC r), row (α 8018) 48 (full refZ ([.int .u32 0, .int .u32 1, .int .u32 0, .int .u32 2]) (α 9018)), row (α 15) 238 #[.iface 251 (.pointer (some ⟨α 12, 0, none⟩)), .int .i32 loc, .iface vT (.pointer (some ⟨vx, 0, none⟩)), .int .i32 vl, .int .u8 op, .bool false], row (α 18) 255 #[.iface 189 (.pointer (some ⟨α 1018, 0, none⟩)), .int .i32 loc, .slice (some ⟨α 2018, 0, none⟩) 4 4, .int .i32 0, .int .u8 0, .int .u8 0, .bool false, .bool false], row (α 1018) 191 #[.int .u32 0, .int .u32 2, .bool false, .bool false, .bool false], row (α 2018) 32 #[.iface (clsTy s) (.pointer (some ⟨α 3018, 0, none⟩)), .int .i32 loc, .iface (thsTy r) (.pointer (some ⟨α 5018, 0, none⟩)), .int .i32 loc, .iface 195 (.pointer (some ⟨α 4, 0, none⟩)), .int .i32 kl, .iface 235 (.pointer (some ⟨α 15, 0, none⟩)), .int .i32 vl], row (α 3018) (clsT s) (clsC s loc (α 4018)), row (α 4018) (xtrT s) (xtrC s loc (α 3018)), row (α 5018) (thsT r) (thsC r)] X9_7 := (hG.list [999, 1999, 2999, 3999, 4999, 5999, 6999, 7999, 8999, 9999, 10999, 4, 11, 12, 1012, 2012, 3012, 4012, 5012, 6012, 15, 18, 1018, 2018, 3018, 4018, 5018] (by decide) (act_all (by decide))).conv (by
    show [R9 (fun k => decide (k < 21)) α 999, R9 (fun k => decide (k < 21)) α 1999, R9 (fun k => decide (k < 21)) α 2999, R9 (fun k => decide (k < 21)) α 3999, R9 (fun k => decide (k < 21)) α 4999, R9 (fun k => decide (k < 21)) α 5999, R9 (fun k => decide (k < 21)) α 6999, R9 (fun k => decide (k < 21)) α 7999, R9 (fun k => decide (k < 21)) α 8999, R9 (fun k => decide (k < 21)) α 9999, R9 (fun k => decide (k < 21)) α 10999, R9 (fun k => decide (k < 21)) α 4, R9 (fun k => decide (k < 21)) α 11, R9 (fun k => decide (k < 21)) α 12, R9 (fun k => decide (k < 21)) α 1012, R9 (fun k => decide (k < 21)) α 2012, R9 (fun k => decide (k < 21)) α 3012, R9 (fun k => decide (k < 21)) α 4012, R9 (fun k => decide (k < 21)) α 5012, R9 (fun k => decide (k < 21)) α 6012, R9 (fun k => decide (k < 21)) α 15, R9 (fun k => decide (k < 21)) α 18, R9 (fun k => decide (k < 21)) α 1018, R9 (fun k => decide (k < 21)) α 2018, R9 (fun k => decide (k < 21)) α 3018, R9 (fun k => decide (k < 21)) α 4018, R9 (fun k => decide (k < 21)) α 5018] = _
    rw [e0, e1, e2, e3, e4, e5, e6, e7, e8, e9, e10, e11, e12, e13, e14, e15, e16, e17, e18, e19, e20, e21, e22, e23, e24, e25, e26])
  clear hG e0 e1 e2 e3 e4 e5 e6 e7 e8 e9 e10 e11 e12 e13 e14 e15 e16 e17 e18 e19 e20 e21 e22 e23 e24 e25 e26 R9
  generalize hfr : Rega.frameAt _ _ _ _ _ = fr
  have hdf : fr = ⟨#[.pointer (some ⟨pb, 0, none⟩), .agg #[.int .i32 loc], .agg #[.iface 195 (.pointer (some ⟨eb, 0, none⟩)), .int .i32 kl], .int .u8 op, .agg #[.iface vT (.pointer (some ⟨vx, 0, none⟩)), .int .i32 vl], undef, .pointer (some ⟨B1, 0, none⟩), .pointer (some ⟨B1_1, 0, none⟩), undef, .pointer (some ⟨B1_2, 0, none⟩), .pointer (some ⟨B1_3, 0, none⟩), .func (Fn.func 61) #[] #[.pointer (some ⟨nd4, 0, none⟩), .pointer (some ⟨nd6, 0, none⟩)], .func (Fn.func 54) #[] #[.pointer (some ⟨nd5, 0, none⟩)], .tuple #[.func (Fn.func 61) #[] #[.pointer (some ⟨nd4, 0, none⟩), .pointer (some ⟨nd6, 0, none⟩)], .func (Fn.func 54) #[] #[.pointer (some ⟨nd5, 0, none⟩)]], .pointer (some ⟨pb, 0, none⟩), .pointer (some ⟨B1_1, 1, none⟩), .agg #[.int .i32 kl], .agg #[.iface 195 (.pointer (some ⟨eb, 0, none⟩)), .int .i32 kl], .tuple #[.func (Fn.func 61) #[] #[.pointer (some ⟨nd4, 0, none⟩), .pointer (some ⟨nd6, 0, none⟩)], .func (Fn.func 54) #[] #[.pointer (some ⟨nd5, 0, none⟩)]], .func (Fn.func 61) #[] #[.pointer (some ⟨nd4, 0, none⟩), .pointer (some ⟨nd6, 0, none⟩)], .func (Fn.func 54) #[] #[.pointer (some ⟨nd5, 0, none⟩)], .func (Fn.func 54) #[] #[.pointer (some ⟨nd5, 0, none⟩)], .pointer (some ⟨pb, 0, none⟩), .agg #[.int .i32 loc], .func (Fn.func 61) #[] #[.pointer (some ⟨nd4, 0, none⟩), .pointer (some ⟨nd6, 0, none⟩)], .agg #[.iface 195 (.pointer (some ⟨α 4, 0, none⟩)), .int .i32 kl], .pointer (some ⟨B1_2, 1, none⟩), .agg #[.int .i32 vl], .int .u8 op, .pointer (some ⟨pb, 0, none⟩), .agg #[.int .i32 loc], .func (Fn.func 61) #[] #[.pointer (some ⟨nd4, 0, none⟩), .pointer (some ⟨nd6, 0, none⟩)], .agg #[.iface 195 (.pointer (some ⟨α 11, 0, none⟩)), .int .i32 kl], .agg #[.iface 251 (.pointer (some ⟨α 12, 0, none⟩)), .int .i32 loc], .agg #[.iface vT (.pointer (some ⟨vx, 0, none⟩)), .int .i32 vl], .agg #[.iface 251 (.pointer (some ⟨α 12, 0, none⟩)), .int .i32 loc, .iface vT (.pointer (some ⟨vx, 0, none⟩)), .int .i32 vl, .int .u8 op, .bool false], .pointer (some ⟨α 15, 0, none⟩), .iface 235 (.pointer (some ⟨α 15, 0, none⟩)), .agg #[.iface 235 (.pointer (some ⟨α 15, 0, none⟩)), .int .i32 vl], .agg #[.iface 251 (.pointer (some ⟨α 18, 0, none⟩)), .int .i32 loc], .agg #[.iface 251 (.pointer (some ⟨α 18, 0, none⟩)), .int .i32 loc]], []⟩ := by rw [← hfr]; kernel_rfl
  clear hfr
  subst hdf
  generalize α 4 = nd8 at hO ⊢
  generalize α 11 = nd9 at hO ⊢
  generalize α 12 = nd10 at hO ⊢
  generalize α 15 = nd11 at hO ⊢
  generalize α 18 = nd12 at hO ⊢
  generalize α 1012 = nd13 at hO ⊢
  generalize α 1018 = nd14 at hO ⊢
  generalize α 2012 = nd15 at hO ⊢
  generalize α 2018 = nd16 at hO ⊢
  generalize α 3012 = nd17 at hO ⊢
  generalize α 3018 = nd18 at hO ⊢
  generalize α 4012 = nd19 at hO ⊢
  generalize α 4018 = nd20 at hO ⊢
  generalize α 5012 = nd21 at hO ⊢
  generalize α 5018 = nd22 at hO ⊢
  generalize α 6012 = nd23 at hO ⊢
  generalize α 6018 = nd24 at hO ⊢
  generalize α 7012 = nd25 at hO ⊢
  generalize α 7018 = nd26 at hO ⊢
  generalize α 8012 = nd27 at hO ⊢
  generalize α 8018 = nd28 at hO ⊢
  generalize α 9012 = nd29 at hO ⊢
  generalize α 9018 = nd30 at hO ⊢
  clear α
  subst hX9_7
  have hN : Own w0 u [row (nd4) 30 #[.int .i32 kl], row (nd6) 195 #[.pointer (some ⟨eb, 0, none⟩)], row (B1_3) 32 #[.iface 251 (.pointer (some ⟨nd12, 0, none⟩)), .int .i32 loc], row (B1_2) 32 #[.iface vT (.pointer (some ⟨vx, 0, none⟩)), .int .i32 vl], row (B1) 30 #[.int .i32 loc], row (pb) 188 ((PC.setIfInBounds 106 (.slice (some ⟨nd25, 0, none⟩) 2 (2 + (nd27)))).setIfInBounds 106 (.slice (some ⟨nd24, 0, none⟩) 3 (3 + (nd26)))), row (nd24) 74 (full symZ (symL ([sy ⟨#[70, 111, 111]⟩ (uz r (uz r 0)), sy ⟨#[95, 95, 115, 117, 112, 101, 114, 71, 101, 116]⟩ 1, sy ⟨#[95, 95, 115, 117, 112, 101, 114, 83, 101, 116]⟩ 1])) (nd26)), ((mp, .map #[⟨.string ⟨#[95, 95, 115, 117, 112, 101, 114, 71, 101, 116]⟩, .agg #[.int .i32 loc, .int .u32 0, .int .u32 1], 0⟩, ⟨.string ⟨#[95, 95, 115, 117, 112, 101, 114, 83, 101, 116]⟩, .agg #[.int .i32 loc, .int .u32 0, .int .u32 2], 1⟩] 2) : Rw), row (ms) 223 ((MC.setIfInBounds 5 (.slice (some ⟨nd23, 0, none⟩) 1 (1 + (nd29)))).setIfInBounds 5 (.slice (some ⟨nd28, 0, none⟩) 2 (2 + (nd30)))), row (cr) 48 #[.int .u32 0, .int .u32 0], row (eb) 197 #[.slice (some ⟨ub, 0, none⟩) ln cp, .int .i32 0, .bool false, .bool false, .bool false], row (nd8) 197 #[.slice (some ⟨ub, 0, none⟩) ln cp, .int .i32 0, .bool false, .bool false, .bool false], row (nd9) 197 #[.slice (some ⟨ub, 0, none⟩) ln cp, .int .i32 0, .bool false, .bool false, .bool false], row (nd10) 255 #[.iface 189 (.pointer (some ⟨nd13, 0, none⟩)), .int .i32 loc, .slice (some ⟨nd15, 0, none⟩) 3 3, .int .i32 0, .int .u8 0, .int .u8 0, .bool false, .bool false], row (nd13) 191 #[.int .u32 0, .int .u32 1, .bool false, .bool false, .bool false], row (nd15) 32 #[.iface (clsTy s) (.pointer (some ⟨nd17, 0, none⟩)), .int .i32 loc, .iface (thsTy r) (.pointer (some ⟨nd21, 0, none⟩)), .int .i32 loc, .iface 195 (.pointer (some ⟨nd9, 0, none⟩)), .int .i32 kl], row (nd17) (clsT s) (clsC s loc (nd19)), row (nd19) (xtrT s) (xtrC s loc (nd17)), row (nd21) (thsT r) (thsC r), row (nd28) 48 (full refZ ([.int .u32 0, .int .u32 1, .int .u32 0, .int .u32 2]) (nd30)), row (nd11) 238 #[.iface 251 (.pointer (some ⟨nd10, 0, none⟩)), .int .i32 loc, .iface vT (.pointer (some ⟨vx, 0, none⟩)), .int .i32 vl, .int .u8 op, .bool false], row (nd12) 255 #[.iface 189 (.pointer (some ⟨nd14, 0, none⟩)), .int .i32 loc, .slice (some ⟨nd16, 0, none⟩) 4 4, .int .i32 0, .int .u8 0, .int .u8 0, .bool false, .bool false], row (nd14) 191 #[.int .u32 0, .int .u32 2, .bool false, .bool false, .bool false], row (nd16) 32 #[.iface (clsTy s) (.pointer (some ⟨nd18, 0, none⟩)), .int .i32 loc, .iface (thsTy r) (.pointer (some ⟨nd22, 0, none⟩)), .int .i32 loc, .iface 195 (.pointer (some ⟨nd8, 0, none⟩)), .int .i32 kl, .iface 235 (.pointer (some ⟨nd11, 0, none⟩)), .int .i32 vl], row (nd18) (clsT s) (clsC s loc (nd20)), row (nd20) (xtrT s) (xtrC s loc (nd18)), row (nd22) (thsT r) (thsC r), row (nd5) 32 #[.iface 195 (.pointer (some ⟨eb, 0, none⟩)), .int .i32 kl], row (B1_1) 32 #[.iface 195 (.pointer (some ⟨eb, 0, none⟩)), .int .i32 kl]] X := hO.back HL.out HX.out [1, 5] (by decide) (by decide)
  clear hO HL HX
  have hO := hN
  clear hN
  have hN : Own w0 u [row (nd4) 30 #[.int .i32 kl], row (nd6) 195 #[.pointer (some ⟨eb, 0, none⟩)], row (B1_3) 32 #[.iface 251 (.pointer (some ⟨nd12, 0, none⟩)), .int .i32 loc], row (B1_2) 32 #[.iface vT (.pointer (some ⟨vx, 0, none⟩)), .int .i32 vl], row (B1) 30 #[.int .i32 loc], row (pb) 188 ((PC.setIfInBounds 106 (.slice (some ⟨nd25, 0, none⟩) 2 (2 + (nd27)))).setIfInBounds 106 (.slice (some ⟨nd24, 0, none⟩) 3 (3 + (nd26)))), row (nd24) 74 (full symZ (symL ([sy ⟨#[70, 111, 111]⟩ (uz r (uz r 0)), sy ⟨#[95, 95, 115, 117, 112, 101, 114, 71, 101, 116]⟩ 1, sy ⟨#[95, 95, 115, 117, 112, 101, 114, 83, 101, 116]⟩ 1])) (nd26)), ((mp, .map #[⟨.string ⟨#[95, 95, 115, 117, 112, 101, 114, 71, 101, 116]⟩, .agg #[.int .i32 loc, .int .u32 0, .int .u32 1], 0⟩, ⟨.string ⟨#[95, 95, 115, 117, 112, 101, 114, 83, 101, 116]⟩, .agg #[.int .i32 loc, .int .u32 0, .int .u32 2], 1⟩] 2) : Rw), row (ms) 223 ((MC.setIfInBounds 5 (.slice (some ⟨nd23, 0, none⟩) 1 (1 + (nd29)))).setIfInBounds 5 (.slice (some ⟨nd28, 0, none⟩) 2 (2 + (nd30)))), row (cr) 48 #[.int .u32 0, .int .u32 0], row (eb) 197 #[.slice (some ⟨ub, 0, none⟩) ln cp, .int .i32 0, .bool false, .bool false, .bool false], row (nd8) 197 #[.slice (some ⟨ub, 0, none⟩) ln cp, .int .i32 0, .bool false, .bool false, .bool false], row (nd9) 197 #[.slice (some ⟨ub, 0, none⟩) ln cp, .int .i32 0, .bool false, .bool false, .bool false], row (nd10) 255 #[.iface 189 (.pointer (some ⟨nd13, 0, none⟩)), .int .i32 loc, .slice (some ⟨nd15, 0, none⟩) 3 3, .int .i32 0, .int .u8 0, .int .u8 0, .bool false, .bool false], row (nd13) 191 #[.int .u32 0, .int .u32 1, .bool false, .bool false, .bool false], row (nd15) 32 #[.iface (clsTy s) (.pointer (some ⟨nd17, 0, none⟩)), .int .i32 loc, .iface (thsTy r) (.pointer (some ⟨nd21, 0, none⟩)), .int .i32 loc, .iface 195 (.pointer (some ⟨nd9, 0, none⟩)), .int .i32 kl], row (nd17) (clsT s) (clsC s loc (nd19)), row (nd19) (xtrT s) (xtrC s loc (nd17)), row (nd21) (thsT r) (thsC r), row (nd28) 48 (full refZ [.int .u32 0, .int .u32 1, .int .u32 0, .int .u32 2] (nd30)), row (nd11) 238 #[.iface 251 (.pointer (some ⟨nd10, 0, none⟩)), .int .i32 loc, .iface vT (.pointer (some ⟨vx, 0, none⟩)), .int .i32 vl, .int .u8 op, .bool false], row (nd12) 255 #[.iface 189 (.pointer (some ⟨nd14, 0, none⟩)), .int .i32 loc, .slice (some ⟨nd16, 0, none⟩) 4 4, .int .i32 0, .int .u8 0, .int .u8 0, .bool false, .bool false], row (nd14) 191 #[.int .u32 0, .int .u32 2, .bool false, .bool false, .bool false], row (nd16) 32 #[.iface (clsTy s) (.pointer (some ⟨nd18, 0, none⟩)), .int .i32 loc, .iface (thsTy r) (.pointer (some ⟨nd22, 0, none⟩)), .int .i32 loc, .iface 195 (.pointer (some ⟨nd8, 0, none⟩)), .int .i32 kl, .iface 235 (.pointer (some ⟨nd11, 0, none⟩)), .int .i32 vl], row (nd18) (clsT s) (clsC s loc (nd20)), row (nd20) (xtrT s) (xtrC s loc (nd18)), row (nd22) (thsT r) (thsC r), row (nd5) 32 #[.iface 195 (.pointer (some ⟨eb, 0, none⟩)), .int .i32 kl], row (B1_1) 32 #[.iface 195 (.pointer (some ⟨eb, 0, none⟩)), .int .i32 kl]] X := hO
  clear hO
  have hO := hN
  clear hN
  obtain ⟨ix9, hix9, hax9, hjx9⟩ := hO.ix
  have ix9_0 : ix9 nd4 = 0 := hjx9 0 _ _ rfl
  have ix9_1 : ix9 nd6 = 1 := hjx9 1 _ _ rfl
  have ix9_2 : ix9 B1_3 = 2 := hjx9 2 _ _ rfl
  have ix9_3 : ix9 B1_2 = 3 := hjx9 3 _ _ rfl
  have ix9_4 : ix9 B1 = 4 := hjx9 4 _ _ rfl
  have ix9_5 : ix9 pb = 5 := hjx9 5 _ _ rfl
  have ix9_6 : ix9 nd24 = 6 := hjx9 6 _ _ rfl
  have ix9_7 : ix9 mp = 7 := hjx9 7 _ _ rfl
  have ix9_8 : ix9 ms = 8 := hjx9 8 _ _ rfl
  have ix9_9 : ix9 cr = 9 := hjx9 9 _ _ rfl
  have ix9_10 : ix9 eb = 10 := hjx9 10 _ _ rfl
  have ix9_11 : ix9 nd8 = 11 := hjx9 11 _ _ rfl
  have ix9_12 : ix9 nd9 = 12 := hjx9 12 _ _ rfl
  have ix9_13 : ix9 nd10 = 13 := hjx9 13 _ _ rfl
  have ix9_14 : ix9 nd13 = 14 := hjx9 14 _ _ rfl
  have ix9_15 : ix9 nd15 = 15 := hjx9 15 _ _ rfl
  have ix9_16 : ix9 nd17 = 16 := hjx9 16 _ _ rfl
  have ix9_17 : ix9 nd19 = 17 := hjx9 17 _ _ rfl
  have ix9_18 : ix9 nd21 = 18 := hjx9 18 _ _ rfl
  have ix9_19 : ix9 nd28 = 19 := hjx9 19 _ _ rfl
  have ix9_20 : ix9 nd11 = 20 := hjx9 20 _ _ rfl
  have ix9_21 : ix9 nd12 = 21 := hjx9 21 _ _ rfl
  have ix9_22 : ix9 nd14 = 22 := hjx9 22 _ _ rfl
  have ix9_23 : ix9 nd16 = 23 := hjx9 23 _ _ rfl
  have ix9_24 : ix9 nd18 = 24 := hjx9 24 _ _ rfl
  have ix9_25 : ix9 nd20 = 25 := hjx9 25 _ _ rfl
  have ix9_26 : ix9 nd22 = 26 := hjx9 26 _ _ rfl
  have ix9_27 : ix9 nd5 = 27 := hjx9 27 _ _ rfl
  have ix9_28 : ix9 B1_1 = 28 := hjx9 28 _ _ rfl
  clear hjx9
  obtain ⟨c9_0_0, lt9_0, y9_0, pl9_0⟩ := hO.k1 0 rfl
  obtain ⟨c9_1_0, lt9_1, y9_1, -⟩ := hO.k1 1 rfl
  obtain ⟨c9_2_0, c9_2_1, lt9_2, y9_2, pl9_2⟩ := hO.k2 2 rfl
  obtain ⟨c9_3_0, c9_3_1, lt9_3, y9_3, pl9_3⟩ := hO.k2 3 rfl
  obtain ⟨c9_4_0, lt9_4, y9_4, pl9_4⟩ := hO.k1 4 rfl
  have c9_5_32 : u.cell? ⟨pb, 32, none⟩ = some (.bool false) := hO.cell 5 rfl 32 ((get_other (get_other hk32 (by omega) _) (by omega) _))
  have c9_5_66 : u.cell? ⟨pb, 66, none⟩ = some (.int .u32 0) := hO.cell 5 rfl 66 ((get_other (get_other hk66 (by omega) _) (by omega) _))
  have c9_5_95 : u.cell? ⟨pb, 95, none⟩ = some (.bool r) := hO.cell 5 rfl 95 ((get_other (get_other hk95 (by omega) _) (by omega) _))
  have c9_5_96 : u.cell? ⟨pb, 96, none⟩ = some (.bool s) := hO.cell 5 rfl 96 ((get_other (get_other hk96 (by omega) _) (by omega) _))
  have c9_5_97 : u.cell? ⟨pb, 97, none⟩ = some (.pointer (some ⟨cr, 0, none⟩)) := hO.cell 5 rfl 97 ((get_other (get_other hk97 (by omega) _) (by omega) _))
  have c9_5_105 : u.cell? ⟨pb, 105, none⟩ = some (.pointer none) := hO.cell 5 rfl 105 ((get_other (get_other hk105 (by omega) _) (by omega) _))
  have c9_5_106 : u.cell? ⟨pb, 106, none⟩ = some (.slice (some ⟨nd24, 0, none⟩) 3 (3 + (nd26))) := hO.cell 5 rfl 106 ((get_set (get_set hk106 _) _))
  have c9_5_117 : u.cell? ⟨pb, 117, none⟩ = some (.map (some mp)) := hO.cell 5 rfl 117 ((get_other (get_other hk117 (by omega) _) (by omega) _))
  have c9_5_187 : u.cell? ⟨pb, 187, none⟩ = some (.pointer (some ⟨ms, 0, none⟩)) := hO.cell 5 rfl 187 ((get_other (get_other hk187 (by omega) _) (by omega) _))
  have c9_5_350 : u.cell? ⟨pb, 350, none⟩ = some (.bool false) := hO.cell 5 rfl 350 ((get_other (get_other hk350 (by omega) _) (by omega) _))
  have lt9_5 : pb < u.heap.size := hO.lt 5 rfl
  have y9_5 : ∀ o, u.frozen? ⟨pb, o, none⟩ = false := hO.free 5 rfl
  have c9_6_1 : u.cell? ⟨nd24, 1, none⟩ = some (.string ⟨#[70, 111, 111]⟩) := hO.cell 6 rfl 1 ((full_at rfl))
  have c9_6_4 : u.cell? ⟨nd24, 4, none⟩ = some (.int .u32 (uz r (uz r 0) : Int)) := hO.cell 6 rfl 4 ((full_at rfl))
  have c9_6_11 : u.cell? ⟨nd24, 11, none⟩ = some (.string ⟨#[95, 95, 115, 117, 112, 101, 114, 71, 101, 116]⟩) := hO.cell 6 rfl 11 ((full_at rfl))
  have c9_6_14 : u.cell? ⟨nd24, 14, none⟩ = some (.int .u32 1) := hO.cell 6 rfl 14 ((full_at rfl))
  have c9_6_21 : u.cell? ⟨nd24, 21, none⟩ = some (.string ⟨#[95, 95, 115, 117, 112, 101, 114, 83, 101, 116]⟩) := hO.cell 6 rfl 21 ((full_at rfl))
  have c9_6_24 : u.cell? ⟨nd24, 24, none⟩ = some (.int .u32 1) := hO.cell 6 rfl 24 ((full_at rfl))
  have lt9_6 : nd24 < u.heap.size := hO.lt 6 rfl
  have y9_6 : ∀ o, u.frozen? ⟨nd24, o, none⟩ = false := hO.free 6 rfl
  have c9_8_5 : u.cell? ⟨ms, 5, none⟩ = some (.slice (some ⟨nd28, 0, none⟩) 2 (2 + (nd30))) := hO.cell 8 rfl 5 ((get_set (get_set hgen _) _))
  have lt9_8 : ms < u.heap.size := hO.lt 8 rfl
  have y9_8 : ∀ o, u.frozen? ⟨ms, o, none⟩ = false := hO.free 8 rfl
  obtain ⟨c9_9_0, c9_9_1, lt9_9, y9_9, pl9_9⟩ := hO.k2 9 rfl
  obtain ⟨c9_10_0, c9_10_1, c9_10_2, c9_10_3, c9_10_4, lt9_10, y9_10, pl9_10⟩ := hO.k5 10 rfl
  obtain ⟨c9_11_0, c9_11_1, c9_11_2, c9_11_3, c9_11_4, lt9_11, y9_11, pl9_11⟩ := hO.k5 11 rfl
  obtain ⟨c9_12_0, c9_12_1, c9_12_2, c9_12_3, c9_12_4, lt9_12, y9_12, pl9_12⟩ := hO.k5 12 rfl
  obtain ⟨c9_13_0, c9_13_1, c9_13_2, c9_13_3, c9_13_4, c9_13_5, c9_13_6, c9_13_7, lt9_13, y9_13, pl9_13⟩ := hO.k8 13 rfl
  obtain ⟨c9_14_0, c9_14_1, c9_14_2, c9_14_3, c9_14_4, lt9_14, y9_14, pl9_14⟩ := hO.k5 14 rfl
  obtain ⟨c9_15_0, c9_15_1, c9_15_2, c9_15_3, c9_15_4, c9_15_5, lt9_15, y9_15, pl9_15⟩ := hO.k6 15 rfl
  have pl9_16 : Base.plainAt u (nd17) = true := hO.plain 16 rfl
  have pl9_17 : Base.plainAt u (nd19) = true := hO.plain 17 rfl
  have pl9_18 : Base.plainAt u (nd21) = true := hO.plain 18 rfl
  have pl9_19 : Base.plainAt u (nd28) = true := hO.plain 19 rfl
  have c9_19_0 : u.cell? ⟨nd28, 0, none⟩ = some (.int .u32 0) := hO.cell 19 rfl 0 ((full_at rfl))
  have c9_19_1 : u.cell? ⟨nd28, 1, none⟩ = some (.int .u32 1) := hO.cell 19 rfl 1 ((full_at rfl))
  have c9_19_2 : u.cell? ⟨nd28, 2, none⟩ = some (.int .u32 0) := hO.cell 19 rfl 2 ((full_at rfl))
  have c9_19_3 : u.cell? ⟨nd28, 3, none⟩ = some (.int .u32 2) := hO.cell 19 rfl 3 ((full_at rfl))
  have lt9_19 : nd28 < u.heap.size := hO.lt 19 rfl
  have y9_19 : ∀ o, u.frozen? ⟨nd28, o, none⟩ = false := hO.free 19 rfl
  obtain ⟨c9_20_0, c9_20_1, c9_20_2, c9_20_3, c9_20_4, c9_20_5, lt9_20, y9_20, -⟩ := hO.k6 20 rfl
  obtain ⟨c9_21_0, c9_21_1, c9_21_2, c9_21_3, c9_21_4, c9_21_5, c9_21_6, c9_21_7, lt9_21, y9_21, pl9_21⟩ := hO.k8 21 rfl
  obtain ⟨c9_22_0, c9_22_1, c9_22_2, c9_22_3, c9_22_4, lt9_22, y9_22, pl9_22⟩ := hO.k5 22 rfl
  obtain ⟨c9_23_0, c9_23_1, c9_23_2, c9_23_3, c9_23_4, c9_23_5, c9_23_6, c9_23_7, lt9_23, y9_23, pl9_23⟩ := hO.k8 23 rfl
  have pl9_24 : Base.plainAt u (nd18) = true := hO.plain 24 rfl
  have pl9_25 : Base.plainAt u (nd20) = true := hO.plain 25 rfl
  have pl9_26 : Base.plainAt u (nd22) = true := hO.plain 26 rfl
  obtain ⟨c9_27_0, c9_27_1, lt9_27, y9_27, pl9_27⟩ := hO.k2 27 rfl
  obtain ⟨c9_28_0, c9_28_1, lt9_28, y9_28, pl9_28⟩ := hO.k2 28 rfl
  have HO := Lib.hid hO
  clear hO
  go_wp2_with (first | (with_reducible refine Own.stay (fn := Tryz.f37) ?_) | fail)
  try with_reducible refine Own.Stay.mk ?_
  have hO := HO.out
  clear HO hix9 hax9 ix9_0 ix9_1 ix9_2 ix9_3 ix9_4 ix9_5 ix9_6 ix9_7 ix9_8 ix9_9 ix9_10 ix9_11 ix9_12 ix9_13 ix9_14 ix9_15 ix9_16 ix9_17 ix9_18 ix9_19 ix9_20 ix9_21 ix9_22 ix9_23 ix9_24 ix9_25 ix9_26 ix9_27 ix9_28 ix9 c9_0_0 lt9_0 y9_0 pl9_0 c9_1_0 lt9_1 y9_1 c9_2_0 c9_2_1 lt9_2 y9_2 pl9_2 c9_3_0 c9_3_1 lt9_3 y9_3 pl9_3 c9_4_0 lt9_4 y9_4 pl9_4 c9_5_32 c9_5_66 c9_5_95 c9_5_96 c9_5_97 c9_5_105 c9_5_106 c9_5_117 c9_5_187 c9_5_350 lt9_5 y9_5 c9_6_1 c9_6_4 c9_6_11 c9_6_14 c9_6_21 c9_6_24 lt9_6 y9_6 c9_8_5 lt9_8 y9_8 c9_9_0 c9_9_1 lt9_9 y9_9 pl9_9 c9_10_0 c9_10_1 c9_10_2 c9_10_3 c9_10_4 lt9_10 y9_10 pl9_10 c9_11_0 c9_11_1 c9_11_2 c9_11_3 c9_11_4 lt9_11 y9_11 pl9_11 c9_12_0 c9_12_1 c9_12_2 c9_12_3 c9_12_4 lt9_12 y9_12 pl9_12 c9_13_0 c9_13_1 c9_13_2 c9_13_3 c9_13_4 c9_13_5 c9_13_6 c9_13_7 lt9_13 y9_13 pl9_13 c9_14_0 c9_14_1 c9_14_2 c9_14_3 c9_14_4 lt9_14 y9_14 pl9_14 c9_15_0 c9_15_1 c9_15_2 c9_15_3 c9_15_4 c9_15_5 lt9_15 y9_15 pl9_15 pl9_16 pl9_17 pl9_18 pl9_19 c9_19_0 c9_19_1 c9_19_2 c9_19_3 lt9_19 y9_19 c9_20_0 c9_20_1 c9_20_2 c9_20_3 c9_20_4 c9_20_5 lt9_20 y9_20 c9_21_0 c9_21_1 c9_21_2 c9_21_3 c9_21_4 c9_21_5 c9_21_6 c9_21_7 lt9_21 y9_21 pl9_21 c9_22_0 c9_22_1 c9_22_2 c9_22_3 c9_22_4 lt9_22 y9_22 pl9_22 c9_23_0 c9_23_1 c9_23_2 c9_23_3 c9_23_4 c9_23_5 c9_23_6 c9_23_7 lt9_23 y9_23 pl9_23 pl9_24 pl9_25 pl9_26 c9_27_0 c9_27_1 lt9_27 y9_27 pl9_27 c9_28_0 c9_28_1 lt9_28 y9_28 pl9_28
  have hN : Own w0 u [row (nd4) 30 #[.int .i32 kl], row (nd6) 195 #[.pointer (some ⟨eb, 0, none⟩)], row (B1_3) 32 #[.iface 251 (.pointer (some ⟨nd12, 0, none⟩)), .int .i32 loc], row (B1_2) 32 #[.iface vT (.pointer (some ⟨vx, 0, none⟩)), .int .i32 vl], row (B1) 30 #[.int .i32 loc], row (pb) 188 (PC.setIfInBounds 106 (.slice (some ⟨nd24, 0, none⟩) 3 (3 + (nd26)))), row (nd24) 74 (full symZ (symL ([sy ⟨#[70, 111, 111]⟩ (uz r (uz r 0)), sy ⟨#[95, 95, 115, 117, 112, 101, 114, 71, 101, 116]⟩ 1, sy ⟨#[95, 95, 115, 117, 112, 101, 114, 83, 101, 116]⟩ 1])) (nd26)), ((mp, .map #[⟨.string ⟨#[95, 95, 115, 117, 112, 101, 114, 71, 101, 116]⟩, .agg #[.int .i32 loc, .int .u32 0, .int .u32 1], 0⟩, ⟨.string ⟨#[95, 95, 115, 117, 112, 101, 114, 83, 101, 116]⟩, .agg #[.int .i32 loc, .int .u32 0, .int .u32 2], 1⟩] 2) : Rw), row (ms) 223 (MC.setIfInBounds 5 (.slice (some ⟨nd28, 0, none⟩) 2 (2 + (nd30)))), row (cr) 48 #[.int .u32 0, .int .u32 0], row (eb) 197 #[.slice (some ⟨ub, 0, none⟩) ln cp, .int .i32 0, .bool false, .bool false, .bool false], row (nd8) 197 #[.slice (some ⟨ub, 0, none⟩) ln cp, .int .i32 0, .bool false, .bool false, .bool false], row (nd9) 197 #[.slice (some ⟨ub, 0, none⟩) ln cp, .int .i32 0, .bool false, .bool false, .bool false], row (nd10) 255 #[.iface 189 (.pointer (some ⟨nd13, 0, none⟩)), .int .i32 loc, .slice (some ⟨nd15, 0, none⟩) 3 3, .int .i32 0, .int .u8 0, .int .u8 0, .bool false, .bool false], row (nd13) 191 #[.int .u32 0, .int .u32 1, .bool false, .bool false, .bool false], row (nd15) 32 #[.iface (clsTy s) (.pointer (some ⟨nd17, 0, none⟩)), .int .i32 loc, .iface (thsTy r) (.pointer (some ⟨nd21, 0, none⟩)), .int .i32 loc, .iface 195 (.pointer (some ⟨nd9, 0, none⟩)), .int .i32 kl], row (nd17) (clsT s) (clsC s loc (nd19)), row (nd19) (xtrT s) (xtrC s loc (nd17)), row (nd21) (thsT r) (thsC r), row (nd28) 48 (full refZ [.int .u32 0, .int .u32 1, .int .u32 0, .int .u32 2] (nd30)), row (nd11) 238 #[.iface 251 (.pointer (some ⟨nd10, 0, none⟩)), .int .i32 loc, .iface vT (.pointer (some ⟨vx, 0, none⟩)), .int .i32 vl, .int .u8 op, .bool false], row (nd12) 255 #[.iface 189 (.pointer (some ⟨nd14, 0, none⟩)), .int .i32 loc, .slice (some ⟨nd16, 0, none⟩) 4 4, .int .i32 0, .int .u8 0, .int .u8 0, .bool false, .bool false], row (nd14) 191 #[.int .u32 0, .int .u32 2, .bool false, .bool false, .bool false], row (nd16) 32 #[.iface (clsTy s) (.pointer (some ⟨nd18, 0, none⟩)), .int .i32 loc, .iface (thsTy r) (.pointer (some ⟨nd22, 0, none⟩)), .int .i32 loc, .iface 195 (.pointer (some ⟨nd8, 0, none⟩)), .int .i32 kl, .iface 235 (.pointer (some ⟨nd11, 0, none⟩)), .int .i32 vl], row (nd18) (clsT s) (clsC s loc (nd20)), row (nd20) (xtrT s) (xtrC s loc (nd18)), row (nd22) (thsT r) (thsC r), row (nd5) 32 #[.iface 195 (.pointer (some ⟨eb, 0, none⟩)), .int .i32 kl], row (B1_1) 32 #[.iface 195 (.pointer (some ⟨eb, 0, none⟩)), .int .i32 kl]] X := hO.conv (by simp only [Array.setIfInBounds_setIfInBounds])
  clear hO
  have hO := hN
  clear hN
  have z9_2_0 : u.cell? ⟨B1_3, 0, none⟩ = some (.iface 251 (.pointer (some ⟨nd12, 0, none⟩))) := hO.cell 2 rfl 0 rfl
  have z9_2_1 : u.cell? ⟨B1_3, 1, none⟩ = some (.int .i32 loc) := hO.cell 2 rfl 1 rfl
  refine bodyPost_ret (v := .agg #[.iface 251 (.pointer (some ⟨nd12, 0, none⟩)), .int .i32 loc]) ?_ rfl ⟨nd13, nd10, nd15, nd9, nd17, nd19, nd21, nd14, nd12, nd16, nd8, nd18, nd20, nd22, nd11, nd24, nd26, nd28, nd30, rfl, hO.sub [5, 6, 7, 8, 19, 9, 10, 14, 13, 15, 12, 16, 17, 18, 22, 21, 23, 11, 24, 25, 26, 20] (by decide)⟩
  simp [results, Tryz.results37, go_sem, z9_2_0, z9_2_1]
end Go.Proofs.YtkhmjppfogppoaaGreatDoor.Use
