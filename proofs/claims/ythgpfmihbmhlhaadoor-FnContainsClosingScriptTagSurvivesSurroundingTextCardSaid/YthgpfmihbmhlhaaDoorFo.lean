/- strings.EqualFold of six bytes and 'script', walked. Condition: the tables of unicode.SimpleFold hold what the program's text lays. -/
import Derived.Test.YthgpfmihbmhlhaaDoorSf
import Derived.Lib.OthersKept
import Derived.Lib.RuneCountTail
import Derived.Lib.FieldsU
import Derived.ScopeJumps
import Derived.WalkMore
import Derived.Laws.DeepStrings4
namespace Go.Proofs.YthgpfmihbmhlhaaDoor.Tag
open Go.RowKit
set_option linter.unusedVariables false
theorem low_cases (x : UInt8) : (65 ≤ x.toNat ∧ x.toNat ≤ 90 ∧ (low x).toNat = x.toNat + 32) ∨ (¬ (65 ≤ x.toNat ∧ x.toNat ≤ 90) ∧ (low x).toNat = x.toNat) := by
  by_cases h : 65 ≤ x.toNat ∧ x.toNat ≤ 90
  · refine Or.inl ⟨h.1, h.2, ?_⟩
    unfold low
    rw [if_pos h, UInt8.toNat_add]
    show (x.toNat + 32) % 256 = _
    omega
  · exact Or.inr ⟨h, by unfold low; rw [if_neg h]⟩
theorem letter_of (i : Nat) (c : UInt8) (h : i < 6) (hc : (⟨#[115, 99, 114, 105, 112, 116]⟩ : ByteArray)[i]'(by show i < 6; exact h) = c) : (c.toNat = 115 ∨ c.toNat = 99 ∨ c.toNat = 114 ∨ c.toNat = 105 ∨ c.toNat = 112 ∨ c.toNat = 116) := by
  subst hc
  rcases (by omega : i = 0 ∨ i = 1 ∨ i = 2 ∨ i = 3 ∨ i = 4 ∨ i = 5) with rfl | rfl | rfl | rfl | rfl | rfl
  · exact Or.inl rfl
  · exact Or.inr (Or.inl rfl)
  · exact Or.inr (Or.inr (Or.inl rfl))
  · exact Or.inr (Or.inr (Or.inr (Or.inl rfl)))
  · exact Or.inr (Or.inr (Or.inr (Or.inr (Or.inl rfl))))
  · exact Or.inr (Or.inr (Or.inr (Or.inr (Or.inr rfl))))
theorem data_extract' (s : ByteArray) (a b : Nat) : (s.extract a b).data.toList = (s.data.toList.drop a).take (b - a) := by
  simp [ByteArray.data_extract]
theorem first_more (s : ByteArray) (i : Nat) (x c : UInt8) (hk : i < 6) (hs : i < s.size) (hz : s[i]'hs = x) (hc : (⟨#[115, 99, 114, 105, 112, 116]⟩ : ByteArray)[i]'(by show i < 6; exact hk) = c) (he : (low x).toNat = c.toNat)
    (hm : ∀ j, j < i → (s.data.toList[j]?).map low = scr[j]?) : ∀ j, j < i + 1 → (s.data.toList[j]?).map low = scr[j]? := by
  intro j hj
  by_cases e : j = i
  · subst e
    rw [byte_at s _ hs, hz, scr_byte j hk c hc, Option.map_some, UInt8.toNat_inj.1 he]
  · exact hm j (by omega)
theorem first_not (s : ByteArray) (i : Nat) (x c : UInt8) (hk : i < 6) (hs : i < s.size) (hz : s[i]'hs = x) (hc : (⟨#[115, 99, 114, 105, 112, 116]⟩ : ByteArray)[i]'(by show i < 6; exact hk) = c) (he : (low x).toNat ≠ c.toNat) : scriptAt s.data.toList = false := by
  rw [← Bool.not_eq_true]
  intro h
  have := script_at h i hk
  rw [byte_at s _ hs, hz, scr_byte i hk c hc, Option.map_some] at this
  exact he (by rw [Option.some.inj this])
theorem not_script (s : ByteArray) (i : Nat) (h : i < 6) (hb : ∃ x : UInt8, s.data.toList[i]? = some x ∧ 128 ≤ x.toNat) : scriptAt s.data.toList = false := by
  obtain ⟨x, hx, h8⟩ := hb
  rw [← Bool.not_eq_true]
  intro hs
  have h1 := script_at hs i h
  rw [hx, Option.map_some] at h1
  have h2 := low_cases x
  have h3 : ∀ c, scr[i]? = some c → c.toNat < 128 := by
    intro c hc
    have := letter_of i c h (Option.some.inj ((scr_byte i h _ rfl).symm.trans hc))
    omega
  have := h3 _ h1.symm
  omega
theorem iter_first (S : ByteArray) (h : 0 < S.size) (x : UInt8) (hx : S.data.toList[0]? = some x) (h8 : 128 ≤ x.toNat) : 128 ≤ (Utf8.decode S 0).1 ∧ ((Utf8.decode S 0).2 = 1 → (Utf8.decode S 0).1 = 65533) := by
  have hg : (S.get! 0).toNat = x.toNat := by
    rw [byte_at S 0 h] at hx
    rw [← Option.some.inj hx]
    simp [ByteArray.get!, getElem!_pos, h]
    rfl
  rw [Lib.decode_at, hg]
  rcases Lib.decodeN_shape (S.size - 0) x.toNat (S.get! (0 + 1)).toNat (S.get! (0 + 2)).toNat (S.get! (0 + 3)).toNat with ⟨h1, h2⟩ | ⟨h1, h2, h3, h4, h5⟩ | ⟨h1, h2, h3, h4, h5, _, h6⟩ | ⟨h1, h2, h3, h4, h5, h6, h7, h9⟩ | h1
  · omega
  · rw [h5]; exact ⟨h4, fun h => by cases h⟩
  · rw [h6]; exact ⟨by show 128 ≤ _; simp only []; omega, fun h => by cases h⟩
  · rw [h9]; exact ⟨by show 128 ≤ _; simp only []; omega, fun h => by cases h⟩
  · rw [h1]; exact ⟨by decide, fun _ => rfl⟩
def Jp (s : ByteArray) (w : World) (a : Act) (wx : World) : Prop := wx = w ∧ ∃ i : Nat, i < 6 ∧ (∃ x : UInt8, s.data.toList[i]? = some x ∧ 128 ≤ x.toNat) ∧
  ∃ u4 u6 u7 u8 u14 u15 u16 u17 u18 u19 u20 u21 u22 u23 u24 u25 u26 u27 u28 u29 u30 u31 u32 u33 u34 u35 u36 u37 u38 u39 u40 u41 u42 u43 u44 u45 u46 u47 u48 u49 u50 u51 u52 u53 u54 : Value, a = ⟨#[.string s, .string ⟨#[115, 99, 114, 105, 112, 116]⟩, undef, undef, u4, .int .i64 (i : Int), u6, u7, u8, undef, undef, undef, undef, undef, u14, u15, u16, u17, u18, u19, u20, u21, u22, u23, u24, u25, u26, u27, u28, u29, u30, u31, u32, u33, u34, u35, u36, u37, u38, u39, u40, u41, u42, u43, u44, u45, u46, u47, u48, u49, u50, u51, u52, u53, u54, undef, undef, undef, undef, undef, undef, undef, undef, undef, undef, undef, undef, undef, undef, undef, undef, undef, undef, undef, undef, undef, undef, undef, undef, undef, undef, undef, undef, undef, undef, undef, undef, undef, undef, undef, undef, undef, undef, undef, undef, undef, undef, undef, undef, undef, undef, undef, undef, undef, undef, undef, undef, undef, undef, undef, undef, undef, undef, undef, undef, undef, undef, undef, undef, undef, undef, undef, undef], []⟩
theorem Exit.jump_ret (l : Nat) (J : Act → World → Prop) (Q : Exit → Act → World → Prop) (a : Act) (w : World) : Exit.jump l J Q .ret a w = Q .ret a w := rfl
set_option maxRecDepth 100000 in
theorem dec1 (T : ByteArray) (c : UInt8) (h0 : 0 < T.size) (hc : T[0]'h0 = c) (hlt : c.toNat < 128) (w : World) :
    Calls Tryd.prog 13 #[.string T] w fun e w' => e = .returned (.tuple #[.int .i32 c.toNat, .int .i64 1]) ∧ w = w' := by
  have h1 : (0 : Int) < T.size := by omega
  have h2 : (c.toNat : Int) < 128 := by omega
  have h3 : ¬ T.toList = [] := by
    rw [Lib.toList_data]
    intro e
    have h4 : T.data.toList.length = T.size := by simp
    rw [e] at h4
    simp at h4
    omega
  have h4 : (!T.toList.isEmpty) = true := by cases hT : T.toList with | nil => exact absurd hT h3 | cons _ _ => rfl
  go_enter Tryd.func13, Tryd.ntmps13
  go_wp2
  go_ret2
  exact ⟨rfl, rfl⟩
set_option maxRecDepth 100000 in
set_option maxHeartbeats 4000000 in
theorem fold_script (s : ByteArray) (hs : s.size = 6) (w : World) (ht : Tabs w) :
    Calls Tryd.prog 12 #[.string s, .string ⟨#[115, 99, 114, 105, 112, 116]⟩] w fun e w' => e = .returned (.bool (scriptAt s.data.toList)) ∧ Below w.heap.size w w' := by
  have HT := Lib.hid ht
  have HS := Lib.hid hs
  have hs1 : (s.size : Int) ≤ 6 := by omega
  have hs2 : (6 : Int) ≤ s.size := by omega
  clear ht hs
  go_enter Tryd.func12, Tryd.ntmps12
  go_wp2
  refine wp_scope_jumps 0 (fun a wx => Jp s w a wx) (fun _ _ => 0) rfl ?_ ?_
  · go_wp2
    go_loopg [5] 7 (fun g v wx => ∃ i : Nat, i + g = 7 ∧ i ≤ 6 ∧ v = .int .i64 i ∧ (∀ j, j < i → (s.data.toList[j]?).map low = scr[j]?) ∧ w = wx)
    case atStart => exact ⟨0, by omega, by omega, rfl, fun j hj => by omega, rfl⟩
    case round =>
      obtain ⟨i, hig, hi6, rfl, hm, rfl⟩ := hrel
      have HM := Lib.hid hm
      clear hm
      by_cases h6 : i < 6
      · obtain ⟨g, rfl⟩ : ∃ g, gk = g + 1 := ⟨gk - 1, by omega⟩
        have h6' : (i : Int) < 6 := by omega
        have hsz := HS.out
        have hiz : (i : Int) < s.size := by omega
        obtain ⟨x, hx⟩ : ∃ x : UInt8, s[i]'(by omega) = x := ⟨_, rfl⟩
        obtain ⟨c, hc⟩ : ∃ c : UInt8, (⟨#[115, 99, 114, 105, 112, 116]⟩ : ByteArray)[i]'(by show i < 6; exact h6) = c := ⟨_, rfl⟩
        have HX := Lib.hid (And.intro hx hc)
        have hc97 := letter_of i c h6 hc
        clear hsz
        by_cases hx8 : x.toNat < 128
        · have hcl : c.toNat < 128 := by omega
          have hor : bits .or .u8 (x.toNat : Int) (c.toNat : Int) = ((x.toNat ||| c.toNat : Nat) : Int) := u8_or_nat _ _ (by omega) (by omega)
          have hor128 : ¬ ((128 : Int) ≤ ((x.toNat ||| c.toNat : Nat) : Int)) := by have := Nat.or_lt_two_pow (n := 7) hx8 hcl; omega
          have hlc := low_cases x
          go_wp2
          all_goals (try simp only [beq_iff_eq, beq_eq_false_iff_ne, ne_eq] at *)
          all_goals first
            | (go_roundg g
               case measure => omega
               case rel => exact ⟨i + 1, by omega, by omega, by go_num, first_more s i x c h6 (by have := HS.out; omega) HX.out.1 HX.out.2 (by omega) HM.out, rfl⟩)
            | (rw [Exit.jump_ret]
               go_ret
               exact ⟨by rw [first_not s i x c h6 (by have := HS.out; omega) HX.out.1 HX.out.2 (by omega)]; rfl, Below.refl _ _⟩)
        · have hor : (128 : Int) ≤ bits .or .u8 (x.toNat : Int) (c.toNat : Int) := by
            rw [u8_or_nat _ _ x.toNat_lt c.toNat_lt]
            have := Nat.left_le_or (n := x.toNat) (m := c.toNat)
            omega
          go_wp2
          go_step3
          exact ⟨rfl, rfl, i, h6, ⟨x, by rw [byte_at s i (by have := HS.out; omega), hx], by omega⟩, _, _, _, _, _, _, _, _, _, _, _, _, _, _, _, _, _, _, _, _, _, _, _, _, _, _, _, _, _, _, _, _, _, _, _, _, _, _, _, _, _, _, _, _, _, rfl⟩
      · obtain rfl : i = 6 := by omega
        have hb : ((s.size : Int) == 6) = true := by have := HS.out; simp; omega
        go_wp2
        rw [Exit.jump_ret]
        go_ret
        exact ⟨by rw [script_all _ HM.out]; rfl, Below.refl _ _⟩
  · intro a wx hJ
    obtain ⟨rfl, i, h6, hbig, u4, u6, u7, u8, u14, u15, u16, u17, u18, u19, u20, u21, u22, u23, u24, u25, u26, u27, u28, u29, u30, u31, u32, u33, u34, u35, u36, u37, u38, u39, u40, u41, u42, u43, u44, u45, u46, u47, u48, u49, u50, u51, u52, u53, u54, rfl⟩ := hJ
    have HBig := Lib.hid hbig
    clear hbig
    have HF := Lib.hid (not_script s i h6 HBig.out)
    have h6' : (i : Int) ≤ s.size := by omega
    have h6'' : (i : Int) ≤ 6 := by omega
    obtain ⟨S, hS⟩ : ∃ S, s.extract i s.size = S := ⟨_, rfl⟩
    obtain ⟨T, hT⟩ : ∃ T, (⟨#[115, 99, 114, 105, 112, 116]⟩ : ByteArray).extract i 6 = T := ⟨_, rfl⟩
    have hSz : S.size + i = 6 := by have := HS.out; rw [← hS]; simp [ByteArray.size_extract]; omega
    have hTd : T.data.toList = scr.drop i := by rw [← hT]; rw [data_extract']; exact List.take_of_length_le (by simp)
    have HST := Lib.hid (And.intro hS hT)
    go_wp2
    clear hS hT
    go_loopg [1] S.size (fun g v wz => ∃ (pos k : Nat) (U : ByteArray), v = .string U ∧ U.data.toList = scr.drop (i + k) ∧ wz.heap[wx.heap.size]? = some (.stringIter S pos) ∧ (pos = 0 ∧ k = 0 ∨ k < pos) ∧ pos ≤ S.size ∧ S.size ≤ pos + g ∧ Below wx.heap.size wx wz)
    case atStart => exact ⟨0, 0, T, rfl, hTd, World.iter_heap wx S 0, Or.inl ⟨rfl, rfl⟩, Nat.zero_le _, by omega, (Below.refl _ _).alloc (Nat.le_refl _) _⟩
    case round =>
      obtain ⟨pos, k, U, rfl, hU, hit, hpk, hps, hfu, hbw⟩ := hrel
      by_cases hlt : pos < S.size
      · obtain ⟨g, rfl⟩ : ∃ g, gk = g + 1 := ⟨gk - 1, by omega⟩
        have hnx : ∀ ty, (Instr.next (.pointer (some ⟨wx.heap.size, 0, none⟩)) true ty).run Tryd.prog wr = _ := fun ty => Lib.run_next_any_at wr wx.heap.size S pos ty hit hlt
        have hwd := Lib.width_pos S pos
        have hwn : pos + (Utf8.decode S pos).2 ≤ S.size := by
          have := Lib.decodeN_le_n' (S.size - pos) (S.get! pos).toNat (S.get! (pos + 1)).toNat (S.get! (pos + 2)).toNat (S.get! (pos + 3)).toNat (by omega)
          rw [← Lib.decode_at] at this
          omega
        have hrl := Lib.rune_le S pos
        have hfst : pos = 0 → 128 ≤ (Utf8.decode S pos).1 ∧ ((Utf8.decode S pos).2 = 1 → (Utf8.decode S pos).1 = 65533) := by
          rintro rfl
          obtain ⟨x, hx, h8⟩ := HBig.out
          exact iter_first S hlt x (by rw [← HST.out.1, data_extract', List.getElem?_take_of_lt (by have := HS.out; omega), List.getElem?_drop]; exact hx) h8
        obtain ⟨R, hR⟩ : ∃ R, (Utf8.decode S pos).1 = R := ⟨_, rfl⟩
        obtain ⟨K, hK⟩ : ∃ K, (Utf8.decode S pos).2 = K := ⟨_, rfl⟩
        rw [hR, hK] at hnx hfst
        rw [hK] at hwd hwn
        rw [hR] at hrl
        have hit2 := Lib.iterAt_heap wr wx.heap.size S pos (pos + K) hit
        have hbw2 := Lib.below_iterAt hbw (k := wx.heap.size) (Nat.le_refl _) S (pos + K)
        obtain ⟨W, hWd⟩ : ∃ W, wr.iterAt wx.heap.size S (pos + K) = W := ⟨_, rfl⟩
        rw [hWd] at hnx hit2 hbw2
        clear hit hbw hR hK hWd
        have h5 : scr.length = 6 := rfl
        have hUz : U.size + (i + k) = 6 := by
          have h4 : U.data.toList.length = U.size := by simp
          rw [hU, List.length_drop] at h4
          omega
        have hUs : ((U.size : Int) == 0) = false := beq_eq_false_iff_ne.2 (by omega)
        have hU0 : 0 < U.size := by omega
        obtain ⟨c, hc⟩ : ∃ c, U[0]'hU0 = c := ⟨_, rfl⟩
        have hlet : c.toNat = 115 ∨ c.toNat = 99 ∨ c.toNat = 114 ∨ c.toNat = 105 ∨ c.toNat = 112 ∨ c.toNat = 116 := by
          refine letter_of (i + k) c (by omega) ?_
          have h6 := byte_at U 0 hU0
          rw [hU, List.getElem?_drop, hc] at h6
          exact Option.some.inj ((scr_byte (i + k) (by omega) _ rfl).symm.trans h6)
        obtain ⟨U', hU'⟩ : ∃ U', U.extract 1 U.size = U' := ⟨_, rfl⟩
        have hUd : U'.data.toList = scr.drop (i + (k + 1)) := by
          rw [← hU', data_extract', hU, List.drop_drop, List.take_of_length_le (by rw [List.length_drop]; omega)]
          rfl
        have HT2 := Lib.hid (HT.out.below hbw2)
        have HB2 := Lib.hid hbw2
        have HI2 := Lib.hid hit2
        have HU := Lib.hid (And.intro hU hUd)
        clear hU hUd hit2 hbw2 h5
        have hc128 : c.toNat < 128 := by omega
        by_cases hbigR : R < 128
        · go_wp2_with (go_at_call 13; refine (dec1 U c hU0 hc hc128 _).mono ?_; rintro e w' ⟨rfl, rfl⟩)
          all_goals (try simp only [beq_iff_eq, beq_eq_false_iff_ne, ne_eq] at *)
          all_goals first
            | (go_roundg g
               case measure => omega
               case rel => exact ⟨pos + K, k + 1, U', rfl, HU.out.2, HI2.out, Or.inr (by omega), hwn, by omega, HB2.out⟩)
            | (rw [Exit.jump_ret]
               go_ret
               exact ⟨by rw [HF.out]; rfl, HB2.out⟩)
        · have hcR : ((c.toNat : Int) == (R : Int)) = false := beq_eq_false_iff_ne.2 (by omega)
          have hcR2 : (c.toNat : Int) < R := by omega
          have hR8 : ¬ (R : Int) < 128 := by omega
          obtain ⟨HT3, -⟩ := HT2.out
          by_cases hc5 : c.toNat = 115
          · rw [hc5] at hcR hcR2
            have hdec : ∀ w, Calls Tryd.prog 13 #[.string U] w fun e w' => e = .returned (.tuple #[.int .i32 115, .int .i64 1]) ∧ w = w' := by
              intro w
              have := dec1 U c hU0 hc hc128 w
              rw [hc5] at this
              exact this
            have f1 := fold_low 115 383 W (by decide) (HT3 115 (by decide)) (by decide) (by decide)
            have f2 := fold_low 83 115 W (by decide) (HT3 83 (by decide)) (by decide) (by decide)
            obtain ⟨-, b, o, cc, h2, h3⟩ := HT2.out
            have f3 := fold_383 W b o cc h2 h3
            clear HT3 h2 h3 b o cc
            go_wp2_with (first | (go_at_call 13; refine (hdec _).mono ?_; rintro e w' ⟨rfl, rfl⟩) | (go_at_call 14; refine f1.mono ?_; rintro e w' ⟨rfl, rfl⟩))
            have F2 := Lib.hid f2
            have F3 := Lib.hid f3
            clear f1 f2 f3 hdec
            rcases Nat.lt_trichotomy R 383 with h383 | h383 | h383
            · have d1 : ¬ (383 : Int) < R := by omega
              have d2 : ((383 : Int) == (R : Int)) = false := beq_eq_false_iff_ne.2 (by omega)
              go_loopg [13] 3 (fun g r wz => W = wz ∧ r = .int .i32 383)
              case atStart => exact ⟨rfl, rfl⟩
              case round =>
                obtain ⟨rfl, rfl⟩ := hrel
                go_wp2
                rw [Exit.jump_ret]
                go_ret
                exact ⟨by rw [HF.out]; rfl, HB2.out⟩
            · subst h383
              go_loopg [13] 3 (fun g r wz => W = wz ∧ r = .int .i32 383)
              case atStart => exact ⟨rfl, rfl⟩
              case round =>
                obtain ⟨rfl, rfl⟩ := hrel
                go_wp2
                go_roundg g
                case measure => omega
                case rel => exact ⟨pos + K, k + 1, U', rfl, HU.out.2, HI2.out, Or.inr (by omega), hwn, by omega, HB2.out⟩
            · have d1 : (383 : Int) < R := by omega
              have d2 : (83 : Int) < R := by omega
              have d3 : ((115 : Int) == (R : Int)) = false := beq_eq_false_iff_ne.2 (by omega)
              go_loopg [13] 4 (fun g r wz => W = wz ∧ ∃ n : Int, r = .int .i32 n ∧ (n = 383 ∧ g = 4 ∨ n = 83 ∧ g = 3 ∨ n = 115 ∧ g = 2))
              case atStart => exact ⟨rfl, _, rfl, Or.inl ⟨rfl, rfl⟩⟩
              case round =>
                obtain ⟨rfl, n, rfl, ⟨rfl, rfl⟩ | ⟨rfl, rfl⟩ | ⟨rfl, rfl⟩⟩ := hrel
                · have f2 := F3.out
                  go_wp2_with (go_at_call 14; refine f2.mono ?_; rintro e w' ⟨rfl, rfl⟩)
                  go_roundg 3
                  case measure => omega
                  case rel => exact ⟨rfl, _, rfl, Or.inr (Or.inl ⟨rfl, rfl⟩)⟩
                · have f2 := F2.out
                  go_wp2_with (go_at_call 14; refine f2.mono ?_; rintro e w' ⟨rfl, rfl⟩)
                  go_roundg 2
                  case measure => omega
                  case rel => exact ⟨rfl, _, rfl, Or.inr (Or.inr ⟨rfl, rfl⟩)⟩
                · go_wp2
                  rw [Exit.jump_ret]
                  go_ret
                  exact ⟨by rw [HF.out]; rfl, HB2.out⟩
          · have hv : ascZ.getD c.toNat 0 = (c.toNat : Int) - 32 ∧ ascZ.getD (c.toNat - 32) 0 = c.toNat := by
              rcases hlet with h | h | h | h | h | h
              · exact absurd h hc5
              all_goals (rw [h]; exact ⟨by decide, by decide⟩)
            have f1 := fold_low c.toNat ((c.toNat : Int) - 32) W hc128 (by rw [HT3 _ hc128, hv.1]) (by omega) (by omega)
            have f2 := fold_low (c.toNat - 32) (c.toNat : Int) W (by omega) (by rw [HT3 _ (by omega), hv.2]) (by omega) (by omega)
            have e32 : ((c.toNat - 32 : Nat) : Int) = (c.toNat : Int) - 32 := by omega
            rw [e32] at f2
            clear HT3 hv e32
            go_wp2_with (first | (go_at_call 13; refine (dec1 U c hU0 hc hc128 _).mono ?_; rintro e w' ⟨rfl, rfl⟩) | (go_at_call 14; refine f1.mono ?_; rintro e w' ⟨rfl, rfl⟩))
            have d1 : ((c.toNat : Int) - 32 != (c.toNat : Int)) = true := by simp only [bne_iff_ne, ne_eq]; omega
            have d2 : (c.toNat : Int) - 32 < R := by omega
            have F2 := Lib.hid f2
            clear f1 f2
            go_loopg [13] 3 (fun g r wz => W = wz ∧ ∃ n : Int, r = .int .i32 n ∧ (n = (c.toNat : Int) - 32 ∧ g = 3 ∨ n = c.toNat ∧ g = 2))
            case atStart => exact ⟨rfl, _, rfl, Or.inl ⟨rfl, rfl⟩⟩
            case round =>
              obtain ⟨rfl, n, rfl, ⟨rfl, rfl⟩ | ⟨rfl, rfl⟩⟩ := hrel
              · have f2 := F2.out
                go_wp2_with (go_at_call 14; refine f2.mono ?_; rintro e w' ⟨rfl, rfl⟩)
                go_roundg 2
                case measure => omega
                case rel => exact ⟨rfl, _, rfl, Or.inr ⟨rfl, rfl⟩⟩
              · have d3 : ((c.toNat : Int) != (c.toNat : Int)) = false := by simp
                go_wp2
                rw [Exit.jump_ret]
                go_ret
                exact ⟨by rw [HF.out]; rfl, HB2.out⟩
      · obtain rfl : pos = S.size := by omega
        have hnx : ∀ ty, (Instr.next (.pointer (some ⟨wx.heap.size, 0, none⟩)) true ty).run Tryd.prog wr = _ := fun ty => Lib.run_next_end_at wr wx.heap.size S S.size ty hit hlt
        have hUs : ((U.size : Int) == 0) = false := by
          have h4 : U.data.toList.length = U.size := by simp
          rw [hU, List.length_drop] at h4
          have h5 : scr.length = 6 := rfl
          exact beq_eq_false_iff_ne.2 (by omega)
        go_wp2
        rw [Exit.jump_ret]
        go_ret
        exact ⟨by rw [HF.out]; rfl, hbw⟩
end Go.Proofs.YthgpfmihbmhlhaaDoor.Tag
