/- Row 41's steps and readers, for every phase alike. No condition. -/
import Derived.Test.YtkmojepgbbdeiaaDoorS5
import Derived.Test.YtkmojepgbbdeiaaDoorSnb
import Derived.Test.YtkmojepgbbdeiaaDoorRdl
import Derived.Test.YtkmojepgbbdeiaaDoorPrs
import Derived.Test.YtkmojepgbbdeiaaDoorSrf
import Derived.Test.YtkmojepgbbdeiaaDoorAdn
import Derived.Test.YtkmojepgbbdeiaaDoorS41
import Derived.Test.YtkmojepgbbdeiaaDoorS41h
import Derived.Test.YtkmojepgbbdeiaaDoorRd2
import Derived.Test.YtkmojepgbbdeiaaDoorTop
import Derived.Test.YtkmojepgbbdeiaaDoorSt
import Derived.Test.YtkmojepgbbdeiaaDoorLoop
import Derived.Test.YtkmojepgbbdeiaaDoorNewP
import Derived.Test.YtkmojepgbbdeiaaDoorMini
import Derived.Test.YtkmojepgbbdeiaaDoorAppL
import Derived.Test.YtkmojepgbbdeiaaDoorApp
import Derived.Test.YtkmojepgbbdeiaaDoorOwnK
import Derived.Test.YtkmojepgbbdeiaaDoorOwn
import Derived.Test.YtkmojepgbbdeiaaDoorDeepCells
import Derived.Test.YtkmojepgbbdeiaaDoorRows
import Derived.Test.YtkmojepgbbdeiaaDoorLive
namespace Go.Proofs.YtkmojepgbbdeiaaDoor.Use
open Go.ChangeShapes Go.WideShapes Go.ChangeAt Go.RowKit Go.Sort Own
set_option linter.unusedVariables false
/-- A slice that is nil while it is empty. -/
def oS (a b c : Nat) : Value := if a = 0 then .slice none 0 0 else .slice (some ⟨b, 0, none⟩) a (a + c)
/-- The row of such a slice, while it is not empty. -/
def optl (a : Nat) (r : Rw) : List Rw := if a = 0 then [] else [r]
theorem oS_pos {a b c : Nat} (h : a ≠ 0) : oS a b c = .slice (some ⟨b, 0, none⟩) a (a + c) := if_neg h
theorem optl_pos {a : Nat} {r : Rw} (h : a ≠ 0) : optl a r = [r] := if_neg h
theorem optl_zero (r : Rw) : optl 0 r = [] := rfl
theorem oS_succ (a b c : Nat) : oS (a + 1) b c = .slice (some ⟨b, 0, none⟩) (a + 1) (a + 1 + c) := if_neg (by omega)
theorem optl_succ (a : Nat) (r : Rw) : optl (a + 1) r = [r] := if_neg (by omega)
/-- Rows that are set aside. -/
def FR (B : List Rw) (X : Nat → Obj → Prop) : Nat → Obj → Prop := fun b o => X b o ∨ (b, o) ∈ B
section
variable {w0 w : World} {A B L M : List Rw} {X : Nat → Obj → Prop}
theorem _root_.Go.Proofs.YtkmojepgbbdeiaaDoor.Own.Own.aside (h : Own w0 w (A ++ B) X) : Own w0 w A (FR B X) := by
  have hp := List.pairwise_append.1 h.apart
  refine ⟨h.below, fun r hr => h.rows r (List.mem_append_left _ hr), hp.1, fun b o hx => ?_⟩
  rcases hx with hx | hx
  · have := h.frame b o hx
    exact ⟨this.1, this.2.1, fun r hr => this.2.2 r (List.mem_append_left _ hr)⟩
  · have := h.rows (b, o) (List.mem_append_right _ hx)
    exact ⟨this.1, this.2, fun r hr => hp.2.2 r hr (b, o) hx⟩
theorem _root_.Go.Proofs.YtkmojepgbbdeiaaDoor.Own.Own.tail (h : Own w0 w (A ++ B) X) : B.Pairwise (fun r s => r.1 ≠ s.1) ∧ ∀ b o, X b o → ∀ r, r ∈ B → r.1 ≠ b :=
  ⟨(List.pairwise_append.1 h.apart).2.1, fun b o hx r hr => (h.frame b o hx).2.2 r (List.mem_append_right _ hr)⟩
theorem _root_.Go.Proofs.YtkmojepgbbdeiaaDoor.Own.Own.bring (h : Own w0 w A (FR B X)) (hB : B.Pairwise (fun r s => r.1 ≠ s.1) ∧ ∀ b o, X b o → ∀ r, r ∈ B → r.1 ≠ b) : Own w0 w (A ++ B) X := by
  refine ⟨h.below, fun r hr => ?_, List.pairwise_append.2 ⟨h.apart, hB.1, fun r hr s hs => (h.frame s.1 s.2 (Or.inr hs)).2.2 r hr⟩, fun b o hx => ?_⟩
  · rcases List.mem_append.1 hr with hr | hr
    · exact h.rows r hr
    · have := h.frame r.1 r.2 (Or.inr hr)
      exact ⟨this.1, this.2.1⟩
  · have := h.frame b o (Or.inl hx)
    refine ⟨this.1, this.2.1, fun r hr => ?_⟩
    rcases List.mem_append.1 hr with hr | hr
    · exact this.2.2 r hr
    · exact hB.2 b o hx r hr
theorem _root_.Go.Proofs.YtkmojepgbbdeiaaDoor.Own.Own.perm (h : Own w0 w L X) (p : L.Perm M) : Own w0 w M X :=
  ⟨h.below, fun r hr => h.rows r (p.mem_iff.2 hr), (p.pairwise_iff (fun {x y} hxy => hxy.symm)).1 h.apart, fun b o hx => ⟨(h.frame b o hx).1, (h.frame b o hx).2.1, fun r hr => (h.frame b o hx).2.2 r (p.mem_iff.2 hr)⟩⟩
theorem permR (A R Q L G : List Rw) : ((A ++ R) ++ (Q ++ (L ++ G))).Perm ((A ++ (Q ++ G)) ++ (R ++ L)) := by
  rw [List.append_assoc, List.append_assoc]
  refine List.Perm.append_left A ?_
  refine (List.perm_append_comm_assoc R Q (L ++ G)).trans ?_
  rw [List.append_assoc]
  refine List.Perm.append_left Q ?_
  rw [← List.append_assoc]
  exact List.perm_append_comm
theorem permL (A R Q L G : List Rw) : ((A ++ R) ++ (Q ++ (L ++ G))).Perm ((A ++ (L ++ G)) ++ (R ++ Q)) := by
  rw [List.append_assoc, List.append_assoc]
  refine List.Perm.append_left A ?_
  rw [← List.append_assoc R Q]
  exact List.perm_append_comm
theorem permQ (A R Q L G : List Rw) : ((A ++ R) ++ (Q ++ (L ++ G))).Perm ((A ++ Q) ++ (R ++ (L ++ G))) := by
  rw [List.append_assoc, List.append_assoc]
  refine List.Perm.append_left A ?_
  exact List.perm_append_comm_assoc R Q (L ++ G)
theorem permT (A R Q L G : List Rw) : ((A ++ R) ++ (Q ++ (L ++ G))).Perm ((A ++ L) ++ (R ++ (Q ++ G))) := by
  rw [List.append_assoc, List.append_assoc]
  refine List.Perm.append_left A ?_
  refine (List.Perm.append_left R (List.perm_append_comm_assoc Q L G)).trans ?_
  exact List.perm_append_comm_assoc R L (Q ++ G)
theorem permG (A R Q L G : List Rw) : ((A ++ R) ++ (Q ++ (L ++ G))).Perm ((A ++ G) ++ (R ++ (Q ++ L))) := by
  rw [List.append_assoc, List.append_assoc]
  refine List.Perm.append_left A ?_
  rw [← List.append_assoc Q L, ← List.append_assoc R]
  exact List.perm_append_comm
end

def s6RPost (pb : Nat) (PC : Array Value) (sb c s : Nat) (B : Nat → Bool) (j a : Nat) (src : Int) (ms : Nat) (MC : Array Value) (vo vc : Value) (qb cq gb cg : Nat) (w0 : World) (X : Nat → Obj → Prop) (e : Ending) (w' : World) : Prop :=
  ∃ PC2 : Array Value, ∃ MC2 : Array Value, ∃ sb2 : Nat, ∃ c2 : Nat, ∃ qb2 : Nat, ∃ cq2 : Nat, ∃ gb2 : Nat, ∃ cg2 : Nat, e = .returned (.agg #[.int .u32 src, .int .u32 (j : Int)]) ∧ PC2[66]? = some (.int .u32 src) ∧ PC2[32]? = some (.bool false) ∧ PC2[104]? = some (.pointer (some ⟨ms, 0, none⟩)) ∧ PC2[187]? = some (.pointer (some ⟨ms, 0, none⟩)) ∧ PC2[198]? = some (.slice none 0 0) ∧ PC2[200]? = some (vo) ∧ PC2[288]? = some (vc) ∧ PC2[106]? = some (.slice (some ⟨sb2, 0, none⟩) (j + 1) (j + 1 + c2)) ∧ PC2[199]? = some (oS (a + 1) qb2 cq2) ∧ PC2[287]? = some (.int .i64 ((s : Int) + (a : Int) + 1)) ∧ MC2[15]? = some (.int .u8 6) ∧ MC2[5]? = some (oS (j + 1) gb2 cg2) ∧ Own w0 w' ([row (pb) 176 PC2, row (sb2) 183 (full symZ (symL (stB s B (j + 1))) c2), row (ms) 38 MC2] ++ (optl (a + 1) (row (qb2) 185 (full trfZ (qS src B true (j + 1)) cq2)) ++ optl (j + 1) (row (gb2) 33 (full refZ (gL src (j + 1)) cg2)))) X
set_option maxRecDepth 100000 in
set_option maxHeartbeats 1000000 in
theorem s6R (pb : Nat) (PC : Array Value) (sb c s : Nat) (B : Nat → Bool) (j a : Nat) (src : Int) (ms : Nat) (MC : Array Value) (vo vc : Value) (qb cq gb cg : Nat) (w0 w : World) (X : Nat → Obj → Prop) (hO : Own w0 w ([row (pb) 176 PC, row (sb) 183 (full symZ (symL (stB s B j)) c), row (ms) 38 MC] ++ (optl a (row (qb) 185 (full trfZ (qS src B true j) cq)) ++ optl j (row (gb) 33 (full refZ (gL src j) cg)))) X) (hk66 : PC[66]? = some (.int .u32 src)) (hk32 : PC[32]? = some (.bool false)) (hk104 : PC[104]? = some (.pointer (some ⟨ms, 0, none⟩))) (hk187 : PC[187]? = some (.pointer (some ⟨ms, 0, none⟩))) (hk198 : PC[198]? = some (.slice none 0 0)) (hk200 : PC[200]? = some (vo)) (hk288 : PC[288]? = some (vc)) (hk106 : PC[106]? = some (.slice (some ⟨sb, 0, none⟩) j (j + c))) (hk199 : PC[199]? = some (oS a qb cq)) (hk287 : PC[287]? = some (.int .i64 ((s : Int) + (a : Int)))) (hkind : MC[15]? = some (.int .u8 6)) (hgen : MC[5]? = some (oS j gb cg)) (hbj : B j = true) (hs5 : s ≤ 70000) (hj5 : j ≤ 10000) (ha : cn B true j = a) (hc0 : j = 0 → c = 0) (hg0 : w0.cell? ⟨0, 0, none⟩ = some (.int .u32 4294967295)) (hg1 : w0.cell? ⟨0, 1, none⟩ = some (.int .u32 4294967295)) :
    Calls Tryd.prog 19 #[.pointer (some ⟨pb, 0, none⟩), .int .i64 0, .string ⟨#[]⟩] w (s6RPost pb PC sb c s B j a src ms MC vo vc qb cq gb cg w0 X) := by
  by_cases hj0 : j = 0
  · obtain rfl := hc0 hj0
    subst hj0
    obtain rfl : 0 = a := ha
    have hP : Own w0 w [row (pb) 176 PC, row (sb) 183 (full symZ (symL (stB s B 0)) 0), row (ms) 38 MC] X := hO.conv rfl
    refine Calls.mono (s4R00 pb PC sb s B src ms MC vo vc w0 w X hP hk66 hk32 hk104 hk187 hk198 hk200 hk288 hk106 hk199 (by simpa using hk287) hkind hgen hbj hs5 hg0 hg1) ?_
    rintro e w' ⟨PC2, MC2, sb2, c2, qb2, cq2, gb2, cg2, rfl, p0, p1, p2, p3, p4, p5, p6, p7, p8, p9, p10, p11, hQ⟩
    exact ⟨PC2, MC2, sb2, c2, qb2, cq2, gb2, cg2, by rfl, p0, p1, p2, p3, p4, p5, p6, p7, (by rw [oS_succ]; exact p8), (by simpa using p9), p10, by rw [oS_succ]; exact p11, hQ.conv (by rw [optl_succ, optl_succ]; rfl)⟩
  · rw [oS_pos hj0] at hgen
    by_cases ha0 : a = 0
    · subst ha0
      have hP : Own w0 w [row (pb) 176 PC, row (sb) 183 (full symZ (symL (stB s B j)) c), row (ms) 38 MC, row (gb) 33 (full refZ (gL src j) cg)] X := hO.conv (by rw [optl_zero, optl_pos hj0]; rfl)
      have ha0 : (0 : Nat) = 0 := rfl
      refine Calls.mono (s5R pb PC sb c s B j 0 src ms MC vo vc gb cg w0 w X hP hk66 hk32 hk104 hk187 hk198 hk200 hk288 hk106 hk199 hk287 hkind hgen hbj hs5 hj5 ha hg0 hg1 ha0) ?_
      rintro e w' ⟨PC2, MC2, sb2, c2, qb2, cq2, gb2, cg2, rfl, p0, p1, p2, p3, p4, p5, p6, p7, p8, p9, p10, p11, hQ⟩
      exact ⟨PC2, MC2, sb2, c2, qb2, cq2, gb2, cg2, rfl, p0, p1, p2, p3, p4, p5, p6, p7, (by rw [oS_succ]; exact p8), p9, p10, by rw [oS_succ]; exact p11, hQ.conv (by rw [optl_succ, optl_succ]; rfl)⟩
    · rw [oS_pos ha0] at hk199
      have hP : Own w0 w [row (pb) 176 PC, row (sb) 183 (full symZ (symL (stB s B j)) c), row (ms) 38 MC, row (qb) 185 (full trfZ (qS src B true j) cq), row (gb) 33 (full refZ (gL src j) cg)] X := hO.conv (by rw [optl_pos hj0, optl_pos ha0]; rfl)
      refine Calls.mono (s4R11 pb PC sb c s B j a src ms MC vo vc qb cq gb cg w0 w X hP hk66 hk32 hk104 hk187 hk198 hk200 hk288 hk106 hk199 hk287 hkind hgen hbj hs5 hj5 ha hg0 hg1) ?_
      rintro e w' ⟨PC2, MC2, sb2, c2, qb2, cq2, gb2, cg2, rfl, p0, p1, p2, p3, p4, p5, p6, p7, p8, p9, p10, p11, hQ⟩
      exact ⟨PC2, MC2, sb2, c2, qb2, cq2, gb2, cg2, rfl, p0, p1, p2, p3, p4, p5, p6, p7, (by rw [oS_succ]; exact p8), p9, p10, by rw [oS_succ]; exact p11, hQ.conv (by rw [optl_succ, optl_succ]; rfl)⟩

def s6LPost (pb : Nat) (PC : Array Value) (sb c s : Nat) (B : Nat → Bool) (j a : Nat) (src : Int) (ms : Nat) (MC : Array Value) (vo vc : Value) (qb cq gb cg : Nat) (w0 : World) (X : Nat → Obj → Prop) (e : Ending) (w' : World) : Prop :=
  ∃ PC2 : Array Value, ∃ MC2 : Array Value, ∃ sb2 : Nat, ∃ c2 : Nat, ∃ qb2 : Nat, ∃ cq2 : Nat, ∃ gb2 : Nat, ∃ cg2 : Nat, e = .returned (.agg #[.int .u32 src, .int .u32 (j : Int)]) ∧ PC2[66]? = some (.int .u32 src) ∧ PC2[32]? = some (.bool false) ∧ PC2[104]? = some (.pointer (some ⟨ms, 0, none⟩)) ∧ PC2[187]? = some (.pointer (some ⟨ms, 0, none⟩)) ∧ PC2[198]? = some (.slice none 0 0) ∧ PC2[199]? = some (vo) ∧ PC2[287]? = some (vc) ∧ PC2[106]? = some (.slice (some ⟨sb2, 0, none⟩) (j + 1) (j + 1 + c2)) ∧ PC2[200]? = some (oS (a + 1) qb2 cq2) ∧ PC2[288]? = some (.int .i64 ((s : Int) + (a : Int) + 1)) ∧ MC2[15]? = some (.int .u8 6) ∧ MC2[5]? = some (oS (j + 1) gb2 cg2) ∧ Own w0 w' ([row (pb) 176 PC2, row (sb2) 183 (full symZ (symL (stB s B (j + 1))) c2), row (ms) 38 MC2] ++ (optl (a + 1) (row (qb2) 185 (full trfZ (qS src B false (j + 1)) cq2)) ++ optl (j + 1) (row (gb2) 33 (full refZ (gL src (j + 1)) cg2)))) X
set_option maxRecDepth 100000 in
set_option maxHeartbeats 1000000 in
theorem s6L (pb : Nat) (PC : Array Value) (sb c s : Nat) (B : Nat → Bool) (j a : Nat) (src : Int) (ms : Nat) (MC : Array Value) (vo vc : Value) (qb cq gb cg : Nat) (w0 w : World) (X : Nat → Obj → Prop) (hO : Own w0 w ([row (pb) 176 PC, row (sb) 183 (full symZ (symL (stB s B j)) c), row (ms) 38 MC] ++ (optl a (row (qb) 185 (full trfZ (qS src B false j) cq)) ++ optl j (row (gb) 33 (full refZ (gL src j) cg)))) X) (hk66 : PC[66]? = some (.int .u32 src)) (hk32 : PC[32]? = some (.bool false)) (hk104 : PC[104]? = some (.pointer (some ⟨ms, 0, none⟩))) (hk187 : PC[187]? = some (.pointer (some ⟨ms, 0, none⟩))) (hk198 : PC[198]? = some (.slice none 0 0)) (hk199 : PC[199]? = some (vo)) (hk287 : PC[287]? = some (vc)) (hk106 : PC[106]? = some (.slice (some ⟨sb, 0, none⟩) j (j + c))) (hk200 : PC[200]? = some (oS a qb cq)) (hk288 : PC[288]? = some (.int .i64 ((s : Int) + (a : Int)))) (hkind : MC[15]? = some (.int .u8 6)) (hgen : MC[5]? = some (oS j gb cg)) (hbj : B j = false) (hs5 : s ≤ 70000) (hj5 : j ≤ 10000) (ha : cn B false j = a) (hc0 : j = 0 → c = 0) (hg0 : w0.cell? ⟨0, 0, none⟩ = some (.int .u32 4294967295)) (hg1 : w0.cell? ⟨0, 1, none⟩ = some (.int .u32 4294967295)) :
    Calls Tryd.prog 7 #[.pointer (some ⟨pb, 0, none⟩)] w (s6LPost pb PC sb c s B j a src ms MC vo vc qb cq gb cg w0 X) := by
  by_cases hj0 : j = 0
  · obtain rfl := hc0 hj0
    subst hj0
    obtain rfl : 0 = a := ha
    have hP : Own w0 w [row (pb) 176 PC, row (sb) 183 (full symZ (symL (stB s B 0)) 0), row (ms) 38 MC] X := hO.conv rfl
    refine Calls.mono (s4L00 pb PC sb s B src ms MC vo vc w0 w X hP hk66 hk32 hk104 hk187 hk198 hk199 hk287 hk106 hk200 (by simpa using hk288) hkind hgen hbj hs5 hg0 hg1) ?_
    rintro e w' ⟨PC2, MC2, sb2, c2, qb2, cq2, gb2, cg2, rfl, p0, p1, p2, p3, p4, p5, p6, p7, p8, p9, p10, p11, hQ⟩
    exact ⟨PC2, MC2, sb2, c2, qb2, cq2, gb2, cg2, by rfl, p0, p1, p2, p3, p4, p5, p6, p7, (by rw [oS_succ]; exact p8), (by simpa using p9), p10, by rw [oS_succ]; exact p11, hQ.conv (by rw [optl_succ, optl_succ]; rfl)⟩
  · rw [oS_pos hj0] at hgen
    by_cases ha0 : a = 0
    · subst ha0
      have hP : Own w0 w [row (pb) 176 PC, row (sb) 183 (full symZ (symL (stB s B j)) c), row (ms) 38 MC, row (gb) 33 (full refZ (gL src j) cg)] X := hO.conv (by rw [optl_zero, optl_pos hj0]; rfl)
      have ha0 : (0 : Nat) = 0 := rfl
      refine Calls.mono (s5L pb PC sb c s B j 0 src ms MC vo vc gb cg w0 w X hP hk66 hk32 hk104 hk187 hk198 hk199 hk287 hk106 hk200 hk288 hkind hgen hbj hs5 hj5 ha hg0 hg1 ha0) ?_
      rintro e w' ⟨PC2, MC2, sb2, c2, qb2, cq2, gb2, cg2, rfl, p0, p1, p2, p3, p4, p5, p6, p7, p8, p9, p10, p11, hQ⟩
      exact ⟨PC2, MC2, sb2, c2, qb2, cq2, gb2, cg2, rfl, p0, p1, p2, p3, p4, p5, p6, p7, (by rw [oS_succ]; exact p8), p9, p10, by rw [oS_succ]; exact p11, hQ.conv (by rw [optl_succ, optl_succ]; rfl)⟩
    · rw [oS_pos ha0] at hk200
      have hP : Own w0 w [row (pb) 176 PC, row (sb) 183 (full symZ (symL (stB s B j)) c), row (ms) 38 MC, row (qb) 185 (full trfZ (qS src B false j) cq), row (gb) 33 (full refZ (gL src j) cg)] X := hO.conv (by rw [optl_pos hj0, optl_pos ha0]; rfl)
      refine Calls.mono (s4L11 pb PC sb c s B j a src ms MC vo vc qb cq gb cg w0 w X hP hk66 hk32 hk104 hk187 hk198 hk199 hk287 hk106 hk200 hk288 hkind hgen hbj hs5 hj5 ha hg0 hg1) ?_
      rintro e w' ⟨PC2, MC2, sb2, c2, qb2, cq2, gb2, cg2, rfl, p0, p1, p2, p3, p4, p5, p6, p7, p8, p9, p10, p11, hQ⟩
      exact ⟨PC2, MC2, sb2, c2, qb2, cq2, gb2, cg2, rfl, p0, p1, p2, p3, p4, p5, p6, p7, (by rw [oS_succ]; exact p8), p9, p10, by rw [oS_succ]; exact p11, hQ.conv (by rw [optl_succ, optl_succ]; rfl)⟩

def nilrRPost (pb : Nat) (PC : Array Value) (w0 : World) (X : Nat → Obj → Prop) (e : Ending) (w' : World) : Prop :=
  ∃ rb : Nat, e = .returned (.slice (some ⟨rb, 0, none⟩) 0 0) ∧ Own w0 w' [row (pb) 176 PC, row (rb) 33 (full refZ ([]) 0)] X
set_option maxRecDepth 100000 in
set_option maxHeartbeats 1000000 in
theorem nilrR (pb : Nat) (PC : Array Value) (w0 w : World) (X : Nat → Obj → Prop) (hO : Own w0 w [row (pb) 176 PC] X) (hk199 : PC[199]? = some (.slice none 0 0)) :
    Calls Tryd.prog 15 #[.pointer (some ⟨pb, 0, none⟩)] w (nilrRPost pb PC w0 X) := by
  go_enter Tryd.func15, Tryd.ntmps15
  obtain ⟨ix9, hix9, hax9, hjx9⟩ := hO.ix
  have ix9_0 : ix9 pb = 0 := hjx9 0 _ _ rfl
  clear hjx9
  have c9_0_199 : w.cell? ⟨pb, 199, none⟩ = some (.slice none 0 0) := hO.cell 0 rfl (199) (hk199)
  have lt9_0 : pb < w.heap.size := hO.lt 0 rfl
  have y9_0 : ∀ o, w.frozen? ⟨pb, o, none⟩ = false := hO.free 0 rfl
  have HO := Lib.hid hO
  clear hO
  have hmk := makeRefs0
  go_wp2_with (first | (with_reducible refine Own.stay (fn := Tryd.f15) ?_) | fail)
  try with_reducible refine Own.Stay.mk ?_
  have hO := HO.out
  clear HO hix9 hax9 ix9_0 ix9 c9_0_199 lt9_0 y9_0
  generalize hW : World.alloc _ _ = W2
  have hN : Own w0 W2 [row (w.heap.size) 33 (full refZ [] 0), row (pb) 176 PC] X := by
    rw [← hW]
    exact (hO).alloc' _ (w.heap.size) (by simp)
  clear hW hO
  generalize w.heap.size = B1 at hN ⊢
  have hO := hN
  clear hN
  skip
  go_loopg [3, 17] 1 (fun gf s3 s17 wx => s17 = .int .i64 0 ∧ s3 = .slice (some ⟨B1, 0, none⟩) 0 0 ∧ Own w0 wx [row (B1) 33 (full refZ [] 0), row (pb) 176 PC] X)
  case atStart => exact ⟨rfl, rfl, hO⟩
  obtain ⟨rfl, rfl, hO⟩ := hrel
  obtain ⟨ix9, hix9, hax9, hjx9⟩ := hO.ix
  have ix9_0 : ix9 B1 = 0 := hjx9 0 _ _ rfl
  have ix9_1 : ix9 pb = 1 := hjx9 1 _ _ rfl
  clear hjx9
  have c9_1_199 : wr.cell? ⟨pb, 199, none⟩ = some (.slice none 0 0) := hO.cell 1 rfl (199) (hk199)
  have lt9_1 : pb < wr.heap.size := hO.lt 1 rfl
  have y9_1 : ∀ o, wr.frozen? ⟨pb, o, none⟩ = false := hO.free 1 rfl
  have HO := Lib.hid hO
  clear hO
  go_wp2_with (first | (with_reducible refine Own.stay (fn := Tryd.f15) ?_) | fail)
  try with_reducible refine Own.Stay.mk ?_
  have hO := HO.out
  clear HO hix9 hax9 ix9_0 ix9_1 ix9 c9_1_199 lt9_1 y9_1
  refine bodyPost_ret (v := .slice (some ⟨B1, 0, none⟩) 0 0) ?_ rfl ⟨B1, rfl, hO.sub [1, 0] (by decide)⟩
  simp [results, Tryd.results15, go_sem]
def nilrLPost (pb : Nat) (PC : Array Value) (w0 : World) (X : Nat → Obj → Prop) (e : Ending) (w' : World) : Prop :=
  ∃ rb : Nat, e = .returned (.slice (some ⟨rb, 0, none⟩) 0 0) ∧ Own w0 w' [row (pb) 176 PC, row (rb) 33 (full refZ ([]) 0)] X
set_option maxRecDepth 100000 in
set_option maxHeartbeats 1000000 in
theorem nilrL (pb : Nat) (PC : Array Value) (w0 w : World) (X : Nat → Obj → Prop) (hO : Own w0 w [row (pb) 176 PC] X) (hk200 : PC[200]? = some (.slice none 0 0)) :
    Calls Tryd.prog 12 #[.pointer (some ⟨pb, 0, none⟩)] w (nilrLPost pb PC w0 X) := by
  go_enter Tryd.func12, Tryd.ntmps12
  obtain ⟨ix9, hix9, hax9, hjx9⟩ := hO.ix
  have ix9_0 : ix9 pb = 0 := hjx9 0 _ _ rfl
  clear hjx9
  have c9_0_200 : w.cell? ⟨pb, 200, none⟩ = some (.slice none 0 0) := hO.cell 0 rfl (200) (hk200)
  have lt9_0 : pb < w.heap.size := hO.lt 0 rfl
  have y9_0 : ∀ o, w.frozen? ⟨pb, o, none⟩ = false := hO.free 0 rfl
  have HO := Lib.hid hO
  clear hO
  have hmk := makeRefs0
  go_wp2_with (first | (with_reducible refine Own.stay (fn := Tryd.f12) ?_) | fail)
  try with_reducible refine Own.Stay.mk ?_
  have hO := HO.out
  clear HO hix9 hax9 ix9_0 ix9 c9_0_200 lt9_0 y9_0
  generalize hW : World.alloc _ _ = W2
  have hN : Own w0 W2 [row (w.heap.size) 33 (full refZ [] 0), row (pb) 176 PC] X := by
    rw [← hW]
    exact (hO).alloc' _ (w.heap.size) (by simp)
  clear hW hO
  generalize w.heap.size = B1 at hN ⊢
  have hO := hN
  clear hN
  skip
  go_loopg [3, 17] 1 (fun gf s3 s17 wx => s17 = .int .i64 0 ∧ s3 = .slice (some ⟨B1, 0, none⟩) 0 0 ∧ Own w0 wx [row (B1) 33 (full refZ [] 0), row (pb) 176 PC] X)
  case atStart => exact ⟨rfl, rfl, hO⟩
  obtain ⟨rfl, rfl, hO⟩ := hrel
  obtain ⟨ix9, hix9, hax9, hjx9⟩ := hO.ix
  have ix9_0 : ix9 B1 = 0 := hjx9 0 _ _ rfl
  have ix9_1 : ix9 pb = 1 := hjx9 1 _ _ rfl
  clear hjx9
  have c9_1_200 : wr.cell? ⟨pb, 200, none⟩ = some (.slice none 0 0) := hO.cell 1 rfl (200) (hk200)
  have lt9_1 : pb < wr.heap.size := hO.lt 1 rfl
  have y9_1 : ∀ o, wr.frozen? ⟨pb, o, none⟩ = false := hO.free 1 rfl
  have HO := Lib.hid hO
  clear hO
  go_wp2_with (first | (with_reducible refine Own.stay (fn := Tryd.f12) ?_) | fail)
  try with_reducible refine Own.Stay.mk ?_
  have hO := HO.out
  clear HO hix9 hax9 ix9_0 ix9_1 ix9 c9_1_200 lt9_1 y9_1
  refine bodyPost_ret (v := .slice (some ⟨B1, 0, none⟩) 0 0) ?_ rfl ⟨B1, rfl, hO.sub [1, 0] (by decide)⟩
  simp [results, Tryd.results12, go_sem]
def rdl6RPost (pb : Nat) (PC : Array Value) (src : Int) (B : Nat → Bool) (j a qb cq : Nat) (w0 : World) (X : Nat → Obj → Prop) (e : Ending) (w' : World) : Prop :=
  ∃ rb : Nat, ∃ cr : Nat, e = .returned (.slice (some ⟨rb, 0, none⟩) a (a + cr)) ∧ Own w0 w' ([row (pb) 176 PC, row (rb) 33 (full refZ (rS src B true j) cr)] ++ (optl a (row (qb) 185 (full trfZ (qS src B true j) cq)))) X
set_option maxRecDepth 100000 in
theorem rdl6R (pb : Nat) (PC : Array Value) (src : Int) (B : Nat → Bool) (j a qb cq : Nat) (w0 w : World) (X : Nat → Obj → Prop) (hO : Own w0 w ([row (pb) 176 PC] ++ (optl a (row (qb) 185 (full trfZ (qS src B true j) cq)))) X) (hk199 : PC[199]? = some (oS a qb cq)) (hj5 : j ≤ 10000) (ha : cn B true j = a) :
    Calls Tryd.prog 15 #[.pointer (some ⟨pb, 0, none⟩)] w (rdl6RPost pb PC src B j a qb cq w0 X) := by
  have hcb := cn_both B j
  by_cases ha0 : a = 0
  · subst ha0
    have hP : Own w0 w [row (pb) 176 PC] X := hO.conv rfl
    refine Calls.mono (nilrR pb PC w0 w _ hP hk199) ?_
    rintro e w' ⟨rb, rfl, hQ⟩
    have hr : rS src B true j = [] := sel_none (k := 2) (fun _ => rfl) B true j ha
    exact ⟨rb, 0, rfl, hQ.conv (by rw [hr]; rfl)⟩
  · rw [oS_pos ha0] at hk199
    have hP : Own w0 w [row (pb) 176 PC, row (qb) 185 (full trfZ (qS src B true j) cq)] X := hO.conv (by rw [optl_pos ha0]; rfl)
    refine Calls.mono (rdlR pb PC a qb cq (qS src B true j) (rS src B true j) w0 w X hP hk199 (by omega) (by rw [rS_length, ha]) (by rw [← ha]; exact pairsS src B true j)) ?_
    rintro e w' ⟨rb, cr, rfl, hQ⟩
    exact ⟨rb, cr, rfl, (hQ.sub [0, 2, 1] (by decide)).conv (by rw [optl_pos ha0]; rfl)⟩

def rdl6LPost (pb : Nat) (PC : Array Value) (src : Int) (B : Nat → Bool) (j a qb cq : Nat) (w0 : World) (X : Nat → Obj → Prop) (e : Ending) (w' : World) : Prop :=
  ∃ rb : Nat, ∃ cr : Nat, e = .returned (.slice (some ⟨rb, 0, none⟩) a (a + cr)) ∧ Own w0 w' ([row (pb) 176 PC, row (rb) 33 (full refZ (rS src B false j) cr)] ++ (optl a (row (qb) 185 (full trfZ (qS src B false j) cq)))) X
set_option maxRecDepth 100000 in
theorem rdl6L (pb : Nat) (PC : Array Value) (src : Int) (B : Nat → Bool) (j a qb cq : Nat) (w0 w : World) (X : Nat → Obj → Prop) (hO : Own w0 w ([row (pb) 176 PC] ++ (optl a (row (qb) 185 (full trfZ (qS src B false j) cq)))) X) (hk200 : PC[200]? = some (oS a qb cq)) (hj5 : j ≤ 10000) (ha : cn B false j = a) :
    Calls Tryd.prog 12 #[.pointer (some ⟨pb, 0, none⟩)] w (rdl6LPost pb PC src B j a qb cq w0 X) := by
  have hcb := cn_both B j
  by_cases ha0 : a = 0
  · subst ha0
    have hP : Own w0 w [row (pb) 176 PC] X := hO.conv rfl
    refine Calls.mono (nilrL pb PC w0 w _ hP hk200) ?_
    rintro e w' ⟨rb, rfl, hQ⟩
    have hr : rS src B false j = [] := sel_none (k := 2) (fun _ => rfl) B false j ha
    exact ⟨rb, 0, rfl, hQ.conv (by rw [hr]; rfl)⟩
  · rw [oS_pos ha0] at hk200
    have hP : Own w0 w [row (pb) 176 PC, row (qb) 185 (full trfZ (qS src B false j) cq)] X := hO.conv (by rw [optl_pos ha0]; rfl)
    refine Calls.mono (rdlL pb PC a qb cq (qS src B false j) (rS src B false j) w0 w X hP hk200 (by omega) (by rw [rS_length, ha]) (by rw [← ha]; exact pairsS src B false j)) ?_
    rintro e w' ⟨rb, cr, rfl, hQ⟩
    exact ⟨rb, cr, rfl, (hQ.sub [0, 2, 1] (by decide)).conv (by rw [optl_pos ha0]; rfl)⟩

def sameRefs6Post (ba bb ca cb m : Nat) (src : Int) (w0 : World) (X : Nat → Obj → Prop) (e : Ending) (w' : World) : Prop :=
  e = .returned (.bool true) ∧ Own w0 w' ([row (bb) 33 (full refZ (gL src m) cb)] ++ (optl m (row (ba) 33 (full refZ (gL src m) ca)))) X
set_option maxRecDepth 100000 in
theorem sameRefs6 (ba bb ca cb m : Nat) (src : Int) (w0 w : World) (X : Nat → Obj → Prop) (hO : Own w0 w ([row (bb) 33 (full refZ (gL src m) cb)] ++ (optl m (row (ba) 33 (full refZ (gL src m) ca)))) X) (hm5 : m ≤ 10000) :
    Calls Tryd.prog 21 #[oS m ba ca, .slice (some ⟨bb, 0, none⟩) m (m + cb)] w (sameRefs6Post ba bb ca cb m src w0 X) := by
  by_cases h0 : m = 0
  · subst h0
    have hP : Own w0 w [row (bb) 33 (full refZ (gL src 0) cb)] X := hO.conv rfl
    have hL := hP.apart
    have hX := hP.apartX
    refine Calls.mono (sameRefs0 none (some ⟨bb, 0, none⟩) 0 (0 + cb) w0 w _ (hP.pick [] (by decide))) ?_
    rintro e w' ⟨rfl, hQ⟩
    exact ⟨rfl, (hQ.back hL hX [0] (by decide) (by decide)).conv rfl⟩
  · rw [oS_pos h0]
    have hP : Own w0 w [row (ba) 33 (full refZ (gL src m) ca), row (bb) 33 (full refZ (gL src m) cb)] X := (hO.conv (by rw [optl_pos h0]; rfl : _ = [row (bb) 33 (full refZ (gL src m) cb), row (ba) 33 (full refZ (gL src m) ca)])).sub [1, 0] (by decide)
    refine Calls.mono (sameRefs ba bb ca cb m (gL src m) w0 w X hP hm5 (refsG src m)) ?_
    rintro e w' ⟨rfl, hQ⟩
    exact ⟨rfl, (hQ.sub [1, 0] (by decide)).conv (by rw [optl_pos h0]; rfl)⟩

def sameRefsBtPost (ba bb ca cb m : Nat) (src : Int) (B : Nat → Bool) (j : Nat) (w0 : World) (X : Nat → Obj → Prop) (e : Ending) (w' : World) : Prop :=
  e = .returned (.bool true) ∧ Own w0 w' [row (ba) 33 (full refZ (rS src B true j) ca), row (bb) 33 (full refZ (rS src B true j) cb)] X
theorem sameRefsBt (ba bb ca cb m : Nat) (src : Int) (B : Nat → Bool) (j : Nat) (w0 w : World) (X : Nat → Obj → Prop) (hO : Own w0 w [row (ba) 33 (full refZ (rS src B true j) ca), row (bb) 33 (full refZ (rS src B true j) cb)] X) (hm5 : j ≤ 10000) (ha : cn B true j = m) :
    Calls Tryd.prog 21 #[.slice (some ⟨ba, 0, none⟩) m (m + ca), .slice (some ⟨bb, 0, none⟩) m (m + cb)] w (sameRefsBtPost ba bb ca cb m src B j w0 X) := by
  have hcb := cn_both B j
  exact sameRefs ba bb ca cb m (rS src B true j) w0 w X hO (by omega) (by rw [← ha]; exact refsS src B true j)

def sameRefsBfPost (ba bb ca cb m : Nat) (src : Int) (B : Nat → Bool) (j : Nat) (w0 : World) (X : Nat → Obj → Prop) (e : Ending) (w' : World) : Prop :=
  e = .returned (.bool true) ∧ Own w0 w' [row (ba) 33 (full refZ (rS src B false j) ca), row (bb) 33 (full refZ (rS src B false j) cb)] X
theorem sameRefsBf (ba bb ca cb m : Nat) (src : Int) (B : Nat → Bool) (j : Nat) (w0 w : World) (X : Nat → Obj → Prop) (hO : Own w0 w [row (ba) 33 (full refZ (rS src B false j) ca), row (bb) 33 (full refZ (rS src B false j) cb)] X) (hm5 : j ≤ 10000) (ha : cn B false j = m) :
    Calls Tryd.prog 21 #[.slice (some ⟨ba, 0, none⟩) m (m + ca), .slice (some ⟨bb, 0, none⟩) m (m + cb)] w (sameRefsBfPost ba bb ca cb m src B j w0 X) := by
  have hcb := cn_both B j
  exact sameRefs ba bb ca cb m (rS src B false j) w0 w X hO (by omega) (by rw [← ha]; exact refsS src B false j)

end Go.Proofs.YtkmojepgbbdeiaaDoor.Use
