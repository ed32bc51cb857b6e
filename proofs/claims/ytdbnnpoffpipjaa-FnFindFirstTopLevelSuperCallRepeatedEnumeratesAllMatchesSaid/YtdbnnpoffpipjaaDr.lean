/- The search's door. No condition. -/
import Derived.Test.YtdbnnpoffpipjaaFin
import Derived.Test.YtdbnnpoffpipjaaFll
import Derived.Test.YtdbnnpoffpipjaaRdr
import Derived.Test.YtdbnnpoffpipjaaFd
import Derived.Test.YtdbnnpoffpipjaaFn1
import Derived.Test.YtdbnnpoffpipjaaFf1
import Derived.Test.YtdbnnpoffpipjaaJn
import Derived.Test.YtdbnnpoffpipjaaTre
import Derived.Test.YtdbnnpoffpipjaaLoop
import Derived.Test.YtdbnnpoffpipjaaAppL
import Derived.Test.YtdbnnpoffpipjaaApp
import Derived.Test.YtdbnnpoffpipjaaOwnK
import Derived.Test.YtdbnnpoffpipjaaOwn
import Derived.Test.YtdbnnpoffpipjaaDeepCells
import Derived.Test.YtdbnnpoffpipjaaRows
namespace Go.Proofs.Ytdbnnpoffpipjaa.Use
open Go.ChangeShapes Go.WideShapes Go.ChangeAt Go.RowKit Go.Sort Own
set_option linter.unusedVariables false
theorem _root_.Go.Proofs.Ytdbnnpoffpipjaa.Own.Own.backXF {w0 w' : World} {L : List Rw} {X : Nat → Obj → Prop} {D : Dat} {k es c : Nat} {A B : List Nat} {ok : Obj} (h : Own w0 w' [] (XF (Own.Rest L [] X) D k A B es c)) (hL : L.Pairwise fun r s => r.1 ≠ s.1) (hX : ∀ b o, X b o → ∀ r, r ∈ L → r.1 ≠ b) (hXk : X (D.ad k) ok) (hty : ∀ r, r ∈ L → ∃ c9 y9, r.2 = Obj.cells c9 y9 (0, 0) ∧ y9 ≠ 66) : Own w0 w' L (XF X D k A B es c) := by
  have hR : ∀ r, r ∈ L → XF (Own.Rest L [] X) D k A B es c r.1 r.2 := fun r hr => by
    obtain ⟨i, hi⟩ := List.getElem?_of_mem hr
    exact Or.inl ⟨Or.inr ⟨i, by simp, hi⟩, hX _ _ hXk r hr⟩
  have hZ : ∀ b o, XF X D k A B es c b o → XF (Own.Rest L [] X) D k A B es c b o := by
    rintro b o (⟨h1, h2⟩ | h1)
    · exact Or.inl ⟨Or.inl h1, h2⟩
    · exact Or.inr h1
  refine ⟨h.below, fun r hr => ⟨(h.frame _ _ (hR r hr)).1, (h.frame _ _ (hR r hr)).2.1⟩, hL, fun b o hz => ⟨(h.frame _ _ (hZ b o hz)).1, (h.frame _ _ (hZ b o hz)).2.1, fun r hr e => ?_⟩⟩
  have h7 := (h.frame _ _ (hR r hr)).2.1
  have h8 := (h.frame _ _ (hZ b o hz)).2.1
  rcases hz with ⟨h4, h5⟩ | ⟨h4, h5⟩ | ⟨t, l, r', h4, h5, h6⟩
  · exact hX _ _ h4 r hr e
  · exact hX _ _ hXk r hr (e.trans h4)
  · obtain ⟨c9, y9, h9, h10⟩ := hty r hr
    rw [e, h8, h9, h6] at h7
    injection h7 with h7
    injection h7 with h7a h7b h7c
    exact h10 h7b.symm
def findN2Post (D : Dat) (t : Tr) (w0 : World) (X : Nat → Obj → Prop) (e : Ending) (w' : World) : Prop :=
  e = .returned (.tuple #[.agg #[.nilIface, .int .i32 0], .agg #[.int .i32 0], .pointer none, .agg #[.nilIface, .int .i32 0]]) ∧ Own w0 w' [] X
theorem findN2 (D : Dat) (t : Tr) (w0 w : World) (X : Nat → Obj → Prop) (hO : Own w0 w [] X) (hN : NodesIn X D t) (hV : ∀ i, i ∈ t.flat → LeafIn X D i) (h1 : ∀ i, i ∈ t.flat → D.kd i ≠ 1) (hne : ¬ D.inx = D.inn) :
    Calls Try.prog 17 #[.agg #[dV D t, .int .i32 (lV t)], .agg #[.int .u32 D.src, .int .u32 D.inn]] w (findN2Post D t w0 X) := findN D hne w0 t w X hO hN hV h1
def findF2Post (D : Dat) (k : Nat) (A B : List Nat) (t : Tr) (w0 : World) (X : Nat → Obj → Prop) (e : Ending) (w' : World) : Prop :=
  ∃ es : Nat, ∃ c : Nat, e = .returned (.tuple #[.agg #[dO D (bfA A c), .int .i32 (lO (bfA A c))], .agg #[.int .i32 (k : Int)], .pointer (some ⟨(D.ad k), 0, none⟩), .agg #[dO D (afB B c), .int .i32 (lO (afB B c))]]) ∧ Own w0 w' [] (XF X D k A B es c)
theorem findF2 (D : Dat) (k : Nat) (A B : List Nat) (t : Tr) (w0 w : World) (X : Nat → Obj → Prop) (hO : Own w0 w [] X) (hN : NodesIn X D t) (hV : ∀ i, i ∈ t.flat → LeafIn X D i) (hT : t.flat = A ++ k :: B) (hA : ∀ i, i ∈ A → D.kd i ≠ 1) (hk1 : D.kd k = 1) (hne : ¬ D.inx = D.inn) :
    Calls Try.prog 17 #[.agg #[dV D t, .int .i32 (lV t)], .agg #[.int .u32 D.src, .int .u32 D.inn]] w (findF2Post D k A B t w0 X) := findF D k hk1 hne t A B w0 w X hO hN hV hT hA

def doorNilPost (x src inn : Int) (w0 : World) (X : Nat → Obj → Prop) (e : Ending) (w' : World) : Prop :=
  e = .returned (.tuple #[.agg #[.nilIface, .int .i32 0], .agg #[.int .i32 0], .pointer none, .agg #[.nilIface, .int .i32 0]]) ∧ Own w0 w' [] X
set_option maxRecDepth 100000 in
set_option maxHeartbeats 1000000 in
theorem doorNil (x src inn : Int) (w0 w : World) (X : Nat → Obj → Prop) (hO : Own w0 w [] X)  :
    Calls Try.prog 9 #[.agg #[.nilIface, .int .i32 x], .agg #[.int .u32 src, .int .u32 inn]] w (doorNilPost x src inn w0 X) := by
  go_enter Try.func9, Try.ntmps9
  go_wp2_with (first | (with_reducible refine Own.stay (fn := Try.f9) ?_) | fail)
  try with_reducible refine Own.Stay.mk ?_
  generalize hW : World.alloc _ _ = W2
  have hN : Own w0 W2 [row (w.heap.size + 1 + 1 + 1 + 1) 35 #[.nilIface, .int .i32 0], row (w.heap.size + 1 + 1 + 1) 33 #[.int .i32 0], row (w.heap.size + 1 + 1) 35 #[.nilIface, .int .i32 0], row (w.heap.size + 1) 27 #[.int .u32 src, .int .u32 inn], row (w.heap.size) 35 #[.nilIface, .int .i32 x]] X := by
    rw [← hW]
    exact (((((hO).alloc' _ (w.heap.size) (by simp)).alloc' _ (w.heap.size + 1) (by simp)).alloc' _ (w.heap.size + 1 + 1) (by simp)).alloc' _ (w.heap.size + 1 + 1 + 1) (by simp)).alloc' _ (w.heap.size + 1 + 1 + 1 + 1) (by simp)
  clear hW hO
  generalize w.heap.size + 1 + 1 + 1 + 1 = B1_4 at hN ⊢
  generalize w.heap.size + 1 + 1 + 1 = B1_3 at hN ⊢
  generalize w.heap.size + 1 + 1 = B1_2 at hN ⊢
  generalize w.heap.size + 1 = B1_1 at hN ⊢
  generalize w.heap.size = B1 at hN ⊢
  have hO := hN
  clear hN
  have hL := hO.apart
  have hX := hO.apartX
  have HL := Lib.hid hL
  have HX := Lib.hid hX
  clear hL hX
  have hP9 := hO.pick [] (by decide)
  have T9 := findNil x src inn _ _ _ hP9 
  refine Calls.mono T9 ?_
  clear hP9 T9
  rintro e u3 ⟨rfl, hQ⟩
  have hN : Own w0 u3 [row (B1_4) 35 #[.nilIface, .int .i32 0], row (B1_3) 33 #[.int .i32 0], row (B1_2) 35 #[.nilIface, .int .i32 0], row (B1_1) 27 #[.int .u32 src, .int .u32 inn], row (B1) 35 #[.nilIface, .int .i32 x]] X := hQ.back HL.out HX.out [0, 1, 2, 3, 4] (by decide) (by decide)
  clear hQ HL HX hO
  have hO := hN
  clear hN
  try simp only []
  obtain ⟨ix9, hix9, hax9, hjx9⟩ := hO.ix
  have ix9_0 : ix9 B1_4 = 0 := hjx9 0 _ _ rfl
  have ix9_1 : ix9 B1_3 = 1 := hjx9 1 _ _ rfl
  have ix9_2 : ix9 B1_2 = 2 := hjx9 2 _ _ rfl
  have ix9_3 : ix9 B1_1 = 3 := hjx9 3 _ _ rfl
  have ix9_4 : ix9 B1 = 4 := hjx9 4 _ _ rfl
  clear hjx9
  obtain ⟨c9_0_0, c9_0_1, lt9_0, y9_0, pl9_0⟩ := hO.k2 0 rfl
  obtain ⟨c9_1_0, lt9_1, y9_1, -⟩ := hO.k1 1 rfl
  obtain ⟨c9_2_0, c9_2_1, lt9_2, y9_2, pl9_2⟩ := hO.k2 2 rfl
  obtain ⟨c9_3_0, c9_3_1, lt9_3, y9_3, -⟩ := hO.k2 3 rfl
  obtain ⟨c9_4_0, c9_4_1, lt9_4, y9_4, pl9_4⟩ := hO.k2 4 rfl
  have HO := Lib.hid hO
  clear hO
  go_wp2_with (first | (with_reducible refine Own.stay (fn := Try.f9) ?_) | fail)
  try with_reducible refine Own.Stay.mk ?_
  have hO := HO.out
  clear HO hix9 hax9 ix9_0 ix9_1 ix9_2 ix9_3 ix9_4 ix9 c9_0_0 c9_0_1 lt9_0 y9_0 pl9_0 c9_1_0 lt9_1 y9_1 c9_2_0 c9_2_1 lt9_2 y9_2 pl9_2 c9_3_0 c9_3_1 lt9_3 y9_3 c9_4_0 c9_4_1 lt9_4 y9_4 pl9_4
  generalize hW : World.setCell _ _ _ = W5
  have hN : Own w0 W5 [row (B1_4) 35 #[.nilIface, .int .i32 0], row (B1_3) 33 #[.int .i32 0], row (B1_2) 35 #[.nilIface, .int .i32 0], row (B1_1) 27 #[.int .u32 src, .int .u32 inn], row (B1) 35 #[.nilIface, .int .i32 x]] X := by
    rw [← hW]
    exact (((((hO).set 2 rfl 0 _).set 2 rfl 1 _).set 1 rfl 0 _).set 0 rfl 0 _).set 0 rfl 1 _
  clear hW hO
  have hO := hN
  clear hN
  have z9_2_0 : W5.cell? ⟨B1_2, 0, none⟩ = some (.nilIface) := hO.cell 2 rfl 0 rfl
  have z9_2_1 : W5.cell? ⟨B1_2, 1, none⟩ = some (.int .i32 0) := hO.cell 2 rfl 1 rfl
  have z9_1_0 : W5.cell? ⟨B1_3, 0, none⟩ = some (.int .i32 0) := hO.cell 1 rfl 0 rfl
  have z9_0_0 : W5.cell? ⟨B1_4, 0, none⟩ = some (.nilIface) := hO.cell 0 rfl 0 rfl
  have z9_0_1 : W5.cell? ⟨B1_4, 1, none⟩ = some (.int .i32 0) := hO.cell 0 rfl 1 rfl
  refine bodyPost_ret (v := .tuple #[.agg #[.nilIface, .int .i32 0], .agg #[.int .i32 0], .pointer none, .agg #[.nilIface, .int .i32 0]]) ?_ rfl ⟨rfl, hO.sub [] (by decide)⟩
  simp [results, Try.results9, go_sem, z9_2_0, z9_2_1, z9_1_0, z9_0_0, z9_0_1]
def doorNPost (D : Dat) (t : Tr) (w0 : World) (X : Nat → Obj → Prop) (e : Ending) (w' : World) : Prop :=
  e = .returned (.tuple #[.agg #[.nilIface, .int .i32 0], .agg #[.int .i32 0], .pointer none, .agg #[.nilIface, .int .i32 0]]) ∧ Own w0 w' [] X
set_option maxRecDepth 100000 in
set_option maxHeartbeats 1000000 in
theorem doorN (D : Dat) (t : Tr) (w0 w : World) (X : Nat → Obj → Prop) (hO : Own w0 w [] X) (hN : NodesIn X D t) (hV : ∀ i, i ∈ t.flat → LeafIn X D i) (h1 : ∀ i, i ∈ t.flat → D.kd i ≠ 1) (hne : ¬ D.inx = D.inn) :
    Calls Try.prog 9 #[.agg #[dV D t, .int .i32 (lV t)], .agg #[.int .u32 D.src, .int .u32 D.inn]] w (doorNPost D t w0 X) := by
  go_enter Try.func9, Try.ntmps9
  go_wp2_with (first | (with_reducible refine Own.stay (fn := Try.f9) ?_) | fail)
  try with_reducible refine Own.Stay.mk ?_
  generalize hW : World.alloc _ _ = W2
  have hN : Own w0 W2 [row (w.heap.size + 1 + 1 + 1 + 1) 35 #[.nilIface, .int .i32 0], row (w.heap.size + 1 + 1 + 1) 33 #[.int .i32 0], row (w.heap.size + 1 + 1) 35 #[.nilIface, .int .i32 0], row (w.heap.size + 1) 27 #[.int .u32 D.src, .int .u32 D.inn], row (w.heap.size) 35 #[dV D t, .int .i32 (lV t)]] X := by
    rw [← hW]
    exact (((((hO).alloc' _ (w.heap.size) (by simp)).alloc' _ (w.heap.size + 1) (by simp)).alloc' _ (w.heap.size + 1 + 1) (by simp)).alloc' _ (w.heap.size + 1 + 1 + 1) (by simp)).alloc' _ (w.heap.size + 1 + 1 + 1 + 1) (by simp)
  clear hW hO
  generalize w.heap.size + 1 + 1 + 1 + 1 = B1_4 at hN ⊢
  generalize w.heap.size + 1 + 1 + 1 = B1_3 at hN ⊢
  generalize w.heap.size + 1 + 1 = B1_2 at hN ⊢
  generalize w.heap.size + 1 = B1_1 at hN ⊢
  generalize w.heap.size = B1 at hN ⊢
  have hO := hN
  clear hN
  have hL := hO.apart
  have hX := hO.apartX
  have HL := Lib.hid hL
  have HX := Lib.hid hX
  clear hL hX
  have hP9 := hO.pick [] (by decide)
  have T9 := findN2 D t _ _ _ hP9 (hN.mono fun _ _ h => Or.inl h) (fun i hi => (hV i hi).mono fun _ _ h => Or.inl h) h1 hne
  refine Calls.mono T9 ?_
  clear hP9 T9
  rintro e u3 ⟨rfl, hQ⟩
  have hN : Own w0 u3 [row (B1_4) 35 #[.nilIface, .int .i32 0], row (B1_3) 33 #[.int .i32 0], row (B1_2) 35 #[.nilIface, .int .i32 0], row (B1_1) 27 #[.int .u32 D.src, .int .u32 D.inn], row (B1) 35 #[dV D t, .int .i32 (lV t)]] X := hQ.back HL.out HX.out [0, 1, 2, 3, 4] (by decide) (by decide)
  clear hQ HL HX hO
  have hO := hN
  clear hN
  try simp only []
  obtain ⟨ix9, hix9, hax9, hjx9⟩ := hO.ix
  have ix9_0 : ix9 B1_4 = 0 := hjx9 0 _ _ rfl
  have ix9_1 : ix9 B1_3 = 1 := hjx9 1 _ _ rfl
  have ix9_2 : ix9 B1_2 = 2 := hjx9 2 _ _ rfl
  have ix9_3 : ix9 B1_1 = 3 := hjx9 3 _ _ rfl
  have ix9_4 : ix9 B1 = 4 := hjx9 4 _ _ rfl
  clear hjx9
  obtain ⟨c9_0_0, c9_0_1, lt9_0, y9_0, pl9_0⟩ := hO.k2 0 rfl
  obtain ⟨c9_1_0, lt9_1, y9_1, -⟩ := hO.k1 1 rfl
  obtain ⟨c9_2_0, c9_2_1, lt9_2, y9_2, pl9_2⟩ := hO.k2 2 rfl
  obtain ⟨c9_3_0, c9_3_1, lt9_3, y9_3, -⟩ := hO.k2 3 rfl
  obtain ⟨c9_4_0, c9_4_1, lt9_4, y9_4, pl9_4⟩ := hO.k2 4 rfl
  have HO := Lib.hid hO
  clear hO
  go_wp2_with (first | (with_reducible refine Own.stay (fn := Try.f9) ?_) | fail)
  try with_reducible refine Own.Stay.mk ?_
  have hO := HO.out
  clear HO hix9 hax9 ix9_0 ix9_1 ix9_2 ix9_3 ix9_4 ix9 c9_0_0 c9_0_1 lt9_0 y9_0 pl9_0 c9_1_0 lt9_1 y9_1 c9_2_0 c9_2_1 lt9_2 y9_2 pl9_2 c9_3_0 c9_3_1 lt9_3 y9_3 c9_4_0 c9_4_1 lt9_4 y9_4 pl9_4
  generalize hW : World.setCell _ _ _ = W5
  have hN : Own w0 W5 [row (B1_4) 35 #[.nilIface, .int .i32 0], row (B1_3) 33 #[.int .i32 0], row (B1_2) 35 #[.nilIface, .int .i32 0], row (B1_1) 27 #[.int .u32 D.src, .int .u32 D.inn], row (B1) 35 #[dV D t, .int .i32 (lV t)]] X := by
    rw [← hW]
    exact (((((hO).set 2 rfl 0 _).set 2 rfl 1 _).set 1 rfl 0 _).set 0 rfl 0 _).set 0 rfl 1 _
  clear hW hO
  have hO := hN
  clear hN
  have z9_2_0 : W5.cell? ⟨B1_2, 0, none⟩ = some (.nilIface) := hO.cell 2 rfl 0 rfl
  have z9_2_1 : W5.cell? ⟨B1_2, 1, none⟩ = some (.int .i32 0) := hO.cell 2 rfl 1 rfl
  have z9_1_0 : W5.cell? ⟨B1_3, 0, none⟩ = some (.int .i32 0) := hO.cell 1 rfl 0 rfl
  have z9_0_0 : W5.cell? ⟨B1_4, 0, none⟩ = some (.nilIface) := hO.cell 0 rfl 0 rfl
  have z9_0_1 : W5.cell? ⟨B1_4, 1, none⟩ = some (.int .i32 0) := hO.cell 0 rfl 1 rfl
  refine bodyPost_ret (v := .tuple #[.agg #[.nilIface, .int .i32 0], .agg #[.int .i32 0], .pointer none, .agg #[.nilIface, .int .i32 0]]) ?_ rfl ⟨rfl, hO.sub [] (by decide)⟩
  simp [results, Try.results9, go_sem, z9_2_0, z9_2_1, z9_1_0, z9_0_0, z9_0_1]
def doorFPost (D : Dat) (k : Nat) (A B : List Nat) (t : Tr) (w0 : World) (X : Nat → Obj → Prop) (e : Ending) (w' : World) : Prop :=
  ∃ es : Nat, ∃ c : Nat, e = .returned (.tuple #[.agg #[dO D (bfA A c), .int .i32 (lO (bfA A c))], .agg #[.int .i32 (k : Int)], .pointer (some ⟨(D.ad k), 0, none⟩), .agg #[dO D (afB B c), .int .i32 (lO (afB B c))]]) ∧ Own w0 w' [] (XF X D k A B es c)
set_option maxRecDepth 100000 in
set_option maxHeartbeats 1000000 in
theorem doorF (D : Dat) (k : Nat) (A B : List Nat) (t : Tr) (w0 w : World) (X : Nat → Obj → Prop) (hO : Own w0 w [] X) (hN : NodesIn X D t) (hV : ∀ i, i ∈ t.flat → LeafIn X D i) (hT : t.flat = A ++ k :: B) (hA : ∀ i, i ∈ A → D.kd i ≠ 1) (hk1 : D.kd k = 1) (hne : ¬ D.inx = D.inn) (hXk : X (D.ad k) (.cells (callC (.iface 56 (.pointer (some ⟨(D.ib k), 0, none⟩))) (k : Int)) 46 (0, 0))) :
    Calls Try.prog 9 #[.agg #[dV D t, .int .i32 (lV t)], .agg #[.int .u32 D.src, .int .u32 D.inn]] w (doorFPost D k A B t w0 X) := by
  go_enter Try.func9, Try.ntmps9
  go_wp2_with (first | (with_reducible refine Own.stay (fn := Try.f9) ?_) | fail)
  try with_reducible refine Own.Stay.mk ?_
  generalize hW : World.alloc _ _ = W2
  have hN : Own w0 W2 [row (w.heap.size + 1 + 1 + 1 + 1) 35 #[.nilIface, .int .i32 0], row (w.heap.size + 1 + 1 + 1) 33 #[.int .i32 0], row (w.heap.size + 1 + 1) 35 #[.nilIface, .int .i32 0], row (w.heap.size + 1) 27 #[.int .u32 D.src, .int .u32 D.inn], row (w.heap.size) 35 #[dV D t, .int .i32 (lV t)]] X := by
    rw [← hW]
    exact (((((hO).alloc' _ (w.heap.size) (by simp)).alloc' _ (w.heap.size + 1) (by simp)).alloc' _ (w.heap.size + 1 + 1) (by simp)).alloc' _ (w.heap.size + 1 + 1 + 1) (by simp)).alloc' _ (w.heap.size + 1 + 1 + 1 + 1) (by simp)
  clear hW hO
  generalize w.heap.size + 1 + 1 + 1 + 1 = B1_4 at hN ⊢
  generalize w.heap.size + 1 + 1 + 1 = B1_3 at hN ⊢
  generalize w.heap.size + 1 + 1 = B1_2 at hN ⊢
  generalize w.heap.size + 1 = B1_1 at hN ⊢
  generalize w.heap.size = B1 at hN ⊢
  have hO := hN
  clear hN
  have hL := hO.apart
  have hX := hO.apartX
  have HL := Lib.hid hL
  have HX := Lib.hid hX
  clear hL hX
  have hP9 := hO.pick [] (by decide)
  have T9 := findF2 D k A B t _ _ _ hP9 (hN.mono fun _ _ h => Or.inl h) (fun i hi => (hV i hi).mono fun _ _ h => Or.inl h) hT hA hk1 hne
  refine Calls.mono T9 ?_
  clear hP9 T9
  rintro e u3 ⟨nd4, nd5, rfl, hQ⟩
  have hN : Own w0 u3 [row (B1_4) 35 #[.nilIface, .int .i32 0], row (B1_3) 33 #[.int .i32 0], row (B1_2) 35 #[.nilIface, .int .i32 0], row (B1_1) 27 #[.int .u32 D.src, .int .u32 D.inn], row (B1) 35 #[dV D t, .int .i32 (lV t)]] (XF X D k A B nd4 nd5) := hQ.backXF HL.out HX.out hXk (by
    intro r9 hr9
    simp only [List.mem_cons, List.not_mem_nil, or_false] at hr9
    rcases hr9 with rfl | rfl | rfl | rfl | rfl
    all_goals exact ⟨_, _, rfl, by decide⟩)
  clear hQ HL HX hO
  have hO := hN
  clear hN
  try simp only []
  obtain ⟨ix9, hix9, hax9, hjx9⟩ := hO.ix
  have ix9_0 : ix9 B1_4 = 0 := hjx9 0 _ _ rfl
  have ix9_1 : ix9 B1_3 = 1 := hjx9 1 _ _ rfl
  have ix9_2 : ix9 B1_2 = 2 := hjx9 2 _ _ rfl
  have ix9_3 : ix9 B1_1 = 3 := hjx9 3 _ _ rfl
  have ix9_4 : ix9 B1 = 4 := hjx9 4 _ _ rfl
  clear hjx9
  obtain ⟨c9_0_0, c9_0_1, lt9_0, y9_0, pl9_0⟩ := hO.k2 0 rfl
  obtain ⟨c9_1_0, lt9_1, y9_1, -⟩ := hO.k1 1 rfl
  obtain ⟨c9_2_0, c9_2_1, lt9_2, y9_2, pl9_2⟩ := hO.k2 2 rfl
  obtain ⟨c9_3_0, c9_3_1, lt9_3, y9_3, -⟩ := hO.k2 3 rfl
  obtain ⟨c9_4_0, c9_4_1, lt9_4, y9_4, pl9_4⟩ := hO.k2 4 rfl
  have HO := Lib.hid hO
  clear hO
  go_wp2_with (first | (with_reducible refine Own.stay (fn := Try.f9) ?_) | fail)
  try with_reducible refine Own.Stay.mk ?_
  have hO := HO.out
  clear HO hix9 hax9 ix9_0 ix9_1 ix9_2 ix9_3 ix9_4 ix9 c9_0_0 c9_0_1 lt9_0 y9_0 pl9_0 c9_1_0 lt9_1 y9_1 c9_2_0 c9_2_1 lt9_2 y9_2 pl9_2 c9_3_0 c9_3_1 lt9_3 y9_3 c9_4_0 c9_4_1 lt9_4 y9_4 pl9_4
  generalize hW : World.setCell _ _ _ = W7
  have hN : Own w0 W7 [row (B1_4) 35 #[dO D (afB B nd5), .int .i32 (lO (afB B nd5))], row (B1_3) 33 #[.int .i32 (k : Int)], row (B1_2) 35 #[dO D (bfA A nd5), .int .i32 (lO (bfA A nd5))], row (B1_1) 27 #[.int .u32 D.src, .int .u32 D.inn], row (B1) 35 #[dV D t, .int .i32 (lV t)]] (XF X D k A B nd4 nd5) := by
    rw [← hW]
    exact (((((hO).set 2 rfl 0 _).set 2 rfl 1 _).set 1 rfl 0 _).set 0 rfl 0 _).set 0 rfl 1 _
  clear hW hO
  have hO := hN
  clear hN
  have z9_2_0 : W7.cell? ⟨B1_2, 0, none⟩ = some (dO D (bfA A nd5)) := hO.cell 2 rfl 0 rfl
  have z9_2_1 : W7.cell? ⟨B1_2, 1, none⟩ = some (.int .i32 (lO (bfA A nd5))) := hO.cell 2 rfl 1 rfl
  have z9_1_0 : W7.cell? ⟨B1_3, 0, none⟩ = some (.int .i32 (k : Int)) := hO.cell 1 rfl 0 rfl
  have z9_0_0 : W7.cell? ⟨B1_4, 0, none⟩ = some (dO D (afB B nd5)) := hO.cell 0 rfl 0 rfl
  have z9_0_1 : W7.cell? ⟨B1_4, 1, none⟩ = some (.int .i32 (lO (afB B nd5))) := hO.cell 0 rfl 1 rfl
  refine bodyPost_ret (v := .tuple #[.agg #[dO D (bfA A nd5), .int .i32 (lO (bfA A nd5))], .agg #[.int .i32 (k : Int)], .pointer (some ⟨D.ad k, 0, none⟩), .agg #[dO D (afB B nd5), .int .i32 (lO (afB B nd5))]]) ?_ rfl ⟨nd4, nd5, rfl, hO.sub [] (by decide)⟩
  simp [results, Try.results9, go_sem, z9_2_0, z9_2_1, z9_1_0, z9_0_0, z9_0_1]
end Go.Proofs.Ytdbnnpoffpipjaa.Use
