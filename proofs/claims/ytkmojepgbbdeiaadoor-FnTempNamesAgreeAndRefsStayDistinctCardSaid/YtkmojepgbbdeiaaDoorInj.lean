/- Row 41: short names differ. No condition. -/
import Derived.Test.YtkmojepgbbdeiaaDoorSt
namespace Go.Proofs.YtkmojepgbbdeiaaDoor.Use
open Go.ChangeShapes Go.WideShapes Go.ChangeAt Go.RowKit Go.Sort Own
theorem getD_inj {l : List UInt8} (hn : l.Nodup) {a b : Nat} (ha : a < l.length) (hb : b < l.length) (h : l.getD a 0 = l.getD b 0) : a = b := by
  rw [List.getD_eq_getElem?_getD, List.getD_eq_getElem?_getD, List.getElem?_eq_getElem ha, List.getElem?_eq_getElem hb] at h
  have hx : l[a] = l[b] := h
  have hp := List.pairwise_iff_getElem.1 hn
  rcases Nat.lt_trichotomy a b with g | g | g
  · exact absurd hx (hp a b ha hb g)
  · exact g
  · exact absurd hx.symm (hp b a hb ha g)
theorem tail_nodup : tailL.Nodup := by decide
theorem head_nodup : headL.Nodup := by decide
theorem tail_inj {a b : Nat} (ha : a < 64) (hb : b < 64) (h : tailL.getD a 0 = tailL.getD b 0) : a = b := getD_inj tail_nodup ha hb h
theorem head_inj {a b : Nat} (ha : a < 54) (hb : b < 54) (h : headL.getD a 0 = headL.getD b 0) : a = b := getD_inj head_nodup ha hb h
theorem nmT_inj : ∀ (f g n m : Nat), n ≤ f → m ≤ g → nmT f n = nmT g m → n = m
  | 0, g, n, m, hn, hm, h => by
    obtain rfl : n = 0 := by omega
    cases m with
    | zero => rfl
    | succ m =>
      obtain ⟨g, rfl⟩ : ∃ k, g = k + 1 := ⟨g - 1, by omega⟩
      simp [nmT] at h
  | f + 1, g, n, m, hn, hm, h => by
    cases n with
    | zero =>
      cases m with
      | zero => rfl
      | succ m =>
        obtain ⟨g, rfl⟩ : ∃ k, g = k + 1 := ⟨g - 1, by omega⟩
        simp [nmT] at h
    | succ n =>
      cases m with
      | zero => rw [nmT_zero] at h; simp [nmT] at h
      | succ m =>
        obtain ⟨g, rfl⟩ : ∃ k, g = k + 1 := ⟨g - 1, by omega⟩
        rw [nmT, nmT, if_neg (by omega), if_neg (by omega)] at h
        injection h with h1 h2
        have e1 := tail_inj (Nat.mod_lt _ (by decide)) (Nat.mod_lt _ (by decide)) h1
        have e2 := nmT_inj f g ((n + 1 - 1) / 64) ((m + 1 - 1) / 64) (by omega) (by omega) h2
        omega
theorem nm_inj {i j : Nat} (h : nm i = nm j) : i = j := by
  unfold nm at h
  injection h with h1 h2
  have e1 := head_inj (Nat.mod_lt _ (by decide)) (Nat.mod_lt _ (by decide)) h1
  have e2 := nmT_inj i j (i / 54) (j / 54) (by omega) (by omega) h2
  omega
theorem tn_inj {i j : Nat} (h : tn i = tn j) : i = j := by
  have hd : ∀ k, (tn k).data.toList = 95 :: nm k := by
    intro k
    have : (tn k).data = #[95] ++ (nm k).toArray := by
      unfold tn nmB
      exact ByteArray.data_append
    rw [this]
    simp
  have h2 := congrArg (fun b : ByteArray => b.data.toList) h
  simp only [hd] at h2
  injection h2 with _ h3
  exact nm_inj h3
theorem tn_ne {i j : Nat} (h : i ≠ j) : ¬ tn i = tn j := fun e => h (tn_inj e)
end Go.Proofs.YtkmojepgbbdeiaaDoor.Use
