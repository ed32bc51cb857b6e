/- zzHasClosingScriptTag, walked. No condition but the text's length. -/
import Derived.Test.YthgpfmihbmhlhaaDoorIdx
import Derived.WalkKit
import Derived.Handy
import Derived.Lib.Hide
import Derived.Deep.LoopGhost
import Derived.Deep.QuietTactic
import Derived.BigQuiet
import Derived.IntWalk
namespace Go.Proofs.YthgpfmihbmhlhaaDoor.Tag
open Go.RowKit
set_option linter.unusedVariables false
def HasRel (s : ByteArray) (w wx : World) (g : Nat) (v : Value) : Prop := ∃ i : Nat, i + g = s.size + 1 ∧ v = .int .i64 i ∧ (∀ j, j < i → tagAt (s.data.toList.drop j) = false) ∧ ∃ n, wx = w.drewN n
theorem byte_at (s : ByteArray) (j : Nat) (h : j < s.size) : s.data.toList[j]? = some (s[j]'h) := by
  rw [List.getElem?_eq_getElem (by simpa using h)]
  rfl
theorem no_more {l : List UInt8} {i : Nat} (h : ∀ j, j < i → tagAt (l.drop j) = false) (k : tagAt (l.drop i) = false) : ∀ j, j < i + 1 → tagAt (l.drop j) = false := by
  intro j hj
  by_cases e : j = i
  · rw [e]; exact k
  · exact h j (by omega)
theorem tagAt_len {l : List UInt8} (h : tagAt l = true) : 8 ≤ l.length := by
  simp only [tagAt, Bool.and_eq_true] at h
  have := scriptAt_len h.2
  simp only [List.length_drop] at this
  omega
theorem script_all (l : List UInt8) (h : ∀ j, j < 6 → (l[j]?).map low = scr[j]?) : scriptAt l = true := by
  match l, h with
  | [], h => have := h 0 (by decide); simp [scr] at this
  | [a], h => have := h 1 (by decide); simp [scr] at this
  | [a, b], h => have := h 2 (by decide); simp [scr] at this
  | [a, b, c], h => have := h 3 (by decide); simp [scr] at this
  | [a, b, c, d], h => have := h 4 (by decide); simp [scr] at this
  | [a, b, c, d, e], h => have := h 5 (by decide); simp [scr] at this
  | a :: b :: c :: d :: e :: f :: l, h =>
    have h0 := h 0 (by decide); have h1 := h 1 (by decide); have h2 := h 2 (by decide)
    have h3 := h 3 (by decide); have h4 := h 4 (by decide); have h5 := h 5 (by decide)
    simp [scr] at h0 h1 h2 h3 h4 h5
    simp [scriptAt, scr, h0, h1, h2, h3, h4, h5]
theorem script_at {l : List UInt8} (h : scriptAt l = true) (j : Nat) (hj : j < 6) : (l[j]?).map low = scr[j]? := by
  simp only [scriptAt, beq_iff_eq] at h
  rw [← h, List.getElem?_map, List.getElem?_take_of_lt hj]
theorem scr_byte (k : Nat) (h : k < 6) (c : UInt8) (hc : (⟨#[115, 99, 114, 105, 112, 116]⟩ : ByteArray)[k]'(by show k < 6; exact h) = c) : scr[k]? = some c := by
  rw [← hc]
  have := byte_at (⟨#[115, 99, 114, 105, 112, 116]⟩ : ByteArray) k h
  exact this
theorem script_more (s : ByteArray) (i k : Nat) (z c : UInt8) (hk : k < 6) (hs : i + 2 + k < s.size) (hz : s[i+2+k]'hs = z) (hc : (⟨#[115, 99, 114, 105, 112, 116]⟩ : ByteArray)[k]'(by show k < 6; exact hk) = c) (he : low z = c)
    (hm : ∀ j, j < k → ((s.data.toList.drop (i + 2))[j]?).map low = scr[j]?) : ∀ j, j < k + 1 → ((s.data.toList.drop (i + 2))[j]?).map low = scr[j]? := by
  intro j hj
  by_cases e : j = k
  · subst e
    rw [List.getElem?_drop, byte_at s _ hs, hz, scr_byte j hk c hc, Option.map_some, he]
  · exact hm j (by omega)
theorem script_not (s : ByteArray) (i k : Nat) (z c : UInt8) (hk : k < 6) (hs : i + 2 + k < s.size) (hz : s[i+2+k]'hs = z) (hc : (⟨#[115, 99, 114, 105, 112, 116]⟩ : ByteArray)[k]'(by show k < 6; exact hk) = c) (he : ¬ low z = c) : scriptAt ((s.data.toList.drop i).drop 2) = false := by
  rw [← Bool.not_eq_true]
  intro h
  have := script_at h k hk
  rw [List.drop_drop, List.getElem?_drop, byte_at s _ hs, hz, scr_byte k hk c hc, Option.map_some] at this
  exact he (Option.some.inj this)
theorem byte_is (x : UInt8) (n : Nat) (hn : n < 256) : ((x.toNat : Int) = n) ↔ x = UInt8.ofNat n := by
  constructor
  · intro h
    apply UInt8.toNat_inj.1
    rw [UInt8.toNat_ofNat']
    omega
  · intro h
    rw [h, UInt8.toNat_ofNat']
    omega
theorem openAt_bytes (s : ByteArray) (i : Nat) (x y : UInt8) (h : i + 1 < s.size) (hx : s[i]'(by omega) = x) (hy : s[i+1]'h = y) : openAt (s.data.toList.drop i) = (decide ((x.toNat : Int) = 60) && decide ((y.toNat : Int) = 47)) := by
  have e : s.data.toList.drop i = x :: y :: s.data.toList.drop (i + 2) := by
    have h0 := byte_at s i (by omega); have h1 := byte_at s (i + 1) h
    rw [hx] at h0; rw [hy] at h1
    rw [List.drop_eq_getElem_cons (i := i) (by simp; omega), List.drop_eq_getElem_cons (i := i + 1) (by simp; omega)]
    rw [List.getElem?_eq_getElem (by simp; omega)] at h0 h1
    rw [Option.some.inj h0, Option.some.inj h1]
  rw [e]
  simp only [openAt, List.take_succ_cons, List.take_zero]
  have hx' := byte_is x 60 (by decide)
  have hy' := byte_is y 47 (by decide)
  rw [Bool.eq_iff_iff]
  simp only [beq_iff_eq, List.cons.injEq, and_true, Bool.and_eq_true, decide_eq_true_eq]
  exact ⟨fun h => ⟨hx'.2 h.1, hy'.2 h.2⟩, fun h => ⟨hx'.1 h.1, hy'.1 h.2⟩⟩
theorem lower' (c : UInt8) (w : World) : Calls Tryd.prog 10 #[.int .u8 c.toNat] w fun e w' => e = .returned (.int .u8 (low c).toNat) ∧ w' = w := (lower c w).mono fun _ _ h => ⟨h.1, h.2.symm⟩
theorem has (s : ByteArray) (hs : s.size ≤ 1048576) (w : World) :
    Calls Tryd.prog 7 #[.string s] w fun e w' => e = .returned (.bool (hasTag s.data.toList)) ∧ ∃ n, w' = w.drewN n := by
  go_enter Tryd.func7, Tryd.ntmps7
  go_wp2
  go_loopg [3] (s.size + 1) (fun g v wx => HasRel s w wx g v)
  case atStart => exact ⟨0, by omega, rfl, fun j hj => by omega, 0, rfl⟩
  case round =>
    obtain ⟨i, hig, rfl, hb, nd, rfl⟩ := hrel
    have HB := Lib.hid hb
    clear hb
    by_cases h8 : i + 8 ≤ s.size
    · obtain ⟨g, rfl⟩ : ∃ g, gk = g + 1 := ⟨gk - 1, by omega⟩
      have h8' : (i : Int) + 8 ≤ s.size := by omega
      obtain ⟨x, hx⟩ : ∃ x : UInt8, s[i]'(by omega) = x := ⟨_, rfl⟩
      obtain ⟨y, hy⟩ : ∃ y : UInt8, s[i+1]'(by omega) = y := ⟨_, rfl⟩
      have HO := Lib.hid (openAt_bytes s i x y (by omega) hx hy)
      by_cases hx6 : (x.toNat : Int) = 60
      · by_cases hy4 : (y.toNat : Int) = 47
        · have hy5 : ((y.toNat : Int) != 47) = false := by simpa using hy4
          go_wp2
          go_loopg [4, 5] 7 (fun g ok kk wx => ∃ k : Nat, k + g = 7 ∧ k ≤ 6 ∧ kk = .int .i64 k ∧ ok = .bool true ∧ (∀ j, j < k → ((s.data.toList.drop (i + 2))[j]?).map low = scr[j]?) ∧ ∃ n, wx = w.drewN n)
          case atStart => exact ⟨0, by omega, by omega, rfl, rfl, fun j hj => by omega, nd, rfl⟩
          case round =>
            obtain ⟨k, hkg, hk7, rfl, rfl, hm, n2, hwr⟩ := hrel
            have HM := Lib.hid hm
            clear hm
            by_cases hk6 : k < 6
            · have hk6' : (k : Int) < 6 := by omega
              obtain ⟨z, hz⟩ : ∃ z : UInt8, s[i+2+k]'(by omega) = z := ⟨_, rfl⟩
              obtain ⟨c, hc⟩ : ∃ c : UInt8, (⟨#[115, 99, 114, 105, 112, 116]⟩ : ByteArray)[k]'(by show k < 6; exact hk6) = c := ⟨_, rfl⟩
              have HW := Lib.hid hwr
              have HS := Lib.hid (And.intro hz hc)
              have e1 : IntKind.i64.wrap ((i : Int) + 2) = (i : Int) + 2 := IntWalk.i64_in _ (by omega)
              have e2 : IntKind.i64.wrap ((i : Int) + 2 + k) = (i : Int) + 2 + k := IntWalk.i64_in _ (by omega)
              have e3 : (i : Int) + 2 + k < s.size := by omega
              have e4 : ((i : Int) + 2 + k).toNat = i + 2 + k := by omega
              have e5 : 0 ≤ (i : Int) + 2 + k := by omega
              clear hwr
              obtain ⟨g2, rfl⟩ : ∃ g2, gk = g2 + 1 := ⟨gk - 1, by omega⟩
              by_cases heq : low z = c
              · have hq : (((low z).toNat : Int) != (c.toNat : Int)) = false := by rw [heq]; simp
                have HE := Lib.hid heq
                clear heq
                go_wp2
                go_quiet ((go_at_call 10; exact Calls.quiet_of_same (lower' z _)))
                go_wp2
                go_roundg g2
                case measure => omega
                case rel =>
                  refine ⟨k + 1, by omega, by omega, by go_num, rfl, ?_, ?_⟩
                  · exact script_more s i k z c hk6 (by omega) HS.out.1 HS.out.2 HE.out HM.out
                  · rw [HW.out]
                    exact ⟨_, World.drewN_drewN _ _ _⟩
              · have hq : (((low z).toNat : Int) != (c.toNat : Int)) = true := by
                  have : (low z).toNat ≠ c.toNat := fun e => heq (UInt8.toNat_inj.1 e)
                  simp only [bne_iff_ne, ne_eq]
                  omega
                have HE := Lib.hid heq
                clear heq
                go_wp2
                go_quiet ((go_at_call 10; exact Calls.quiet_of_same (lower' z _)))
                go_wp2
                go_roundg g
                case measure => omega
                case rel =>
                  refine ⟨i + 1, by omega, by go_num, ?_, ?_⟩
                  · exact no_more HB.out (by rw [tagAt, script_not s i k z c hk6 (by omega) HS.out.1 HS.out.2 HE.out, Bool.and_false])
                  · rw [HW.out]
                    exact ⟨_, World.drewN_drewN _ _ _⟩
            · obtain rfl : k = 6 := by omega
              have HW := Lib.hid hwr
              clear hwr
              go_wp2
              go_ret
              refine ⟨?_, ?_⟩
              · rw [hasTag_at _ i (by rw [HO.out]; simp [hx6, hy4]) (script_all _ HM.out)]
                rfl
              · exact ⟨n2, HW.out⟩
        · have hy5 : ((y.toNat : Int) != 47) = true := by simpa using hy4
          go_wp2
          go_roundg g
          case measure => omega
          case rel =>
            exact ⟨i + 1, by omega, by go_num, no_more HB.out (by rw [tagAt, HO.out]; simp [hy4]), nd, rfl⟩
      · go_wp2
        go_roundg g
        case measure => omega
        case rel =>
          exact ⟨i + 1, by omega, by go_num, no_more HB.out (by rw [tagAt, HO.out]; simp [hx6]), nd, rfl⟩
    · have h8' : ¬ (i : Int) + 8 ≤ s.size := by omega
      go_wp2
      go_ret
      refine ⟨?_, nd, rfl⟩
      have e : s.data.toList.length = s.size := by simp
      have hf : hasTag s.data.toList = false := by
        rw [← Bool.not_eq_true, hasTag_iff]
        rintro ⟨j, hj⟩
        have hl := tagAt_len hj
        rw [List.length_drop] at hl
        rw [HB.out j (by omega)] at hj
        cases hj
      rw [hf]
      rfl
end Go.Proofs.YthgpfmihbmhlhaaDoor.Tag
