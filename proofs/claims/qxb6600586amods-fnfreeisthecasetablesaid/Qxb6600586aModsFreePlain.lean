/-
  THE PLAIN LAW OF free: no Go in sight. What free lays down between off and en: runs of whole slots, gaps; one round of its loop; that it accounts for every byte.
-/
namespace Go.Proofs.Qxb6600586aMods.FreePlain
set_option linter.unusedVariables false

/-- The number of the gap that ends at the group g. -/
def bg (g : Int) : Int := (2 * g + 1) % 18446744073709551616
/-- The first slot boundary at or behind off; the last at or ahead of en. -/
def up (off : Int) : Int := (off + 4095) / 4096 * 4096
def dn (en : Int) : Int := en / 4096 * 4096
def runs (off en : Int) : List (Int × Int) := if off < en ∧ up off < dn en then [(up off, dn en - up off)] else []
def gap1 (off en g : Int) : List (Int × Int) := if off < en ∧ dn en < up off then [(bg g, en - off)] else []
def gap2 (off en : Int) : List (Int × Int) := if off < en ∧ up off ≤ dn en ∧ off < up off then [(2 * (up off / 4096), up off - off)] else []
def gap3 (off en g : Int) : List (Int × Int) := if off < en ∧ up off ≤ dn en ∧ dn en < en then [(bg g, en - dn en)] else []
def gaps (off en g : Int) : List (Int × Int) := gap1 off en g ++ (gap2 off en ++ gap3 off en g)

theorem runs_end {off en : Int} (h : ¬ off < en) : runs off en = [] := by unfold runs; rw [if_neg (by omega)]
theorem gaps_end {off en g : Int} (h : ¬ off < en) : gaps off en g = [] := by
  unfold gaps gap1 gap2 gap3; rw [if_neg (by omega), if_neg (by omega), if_neg (by omega)]; rfl

theorem length_runs (off en : Int) : (runs off en).length ≤ 1 := by unfold runs; split <;> simp
theorem length_gaps (off en g : Int) : (gaps off en g).length ≤ 2 := by
  unfold gaps gap1 gap2 gap3
  by_cases h1 : off < en ∧ dn en < up off
  · rw [if_pos h1, if_neg (by omega), if_neg (by omega)]; simp
  · rw [if_neg h1]
    simp only [List.nil_append, List.length_append]
    split <;> split <;> simp

/-- A round that lays down a run. -/
theorem run_step {o en g : Int} (h0 : 0 ≤ o) (hlt : o < en) (h1 : o % 4096 = 0) (h2 : 4096 ≤ en - o) :
    runs o en = (o, (en - o) / 4096 * 4096) :: runs (o + (en - o) / 4096 * 4096) en ∧ gaps o en g = gaps (o + (en - o) / 4096 * 4096) en g := by
  have e1 : up o = o := by unfold up; omega
  have e2 : o + (en - o) / 4096 * 4096 = dn en := by unfold dn; omega
  have e3 : up (dn en) = dn en := by unfold up dn; omega
  have e4 : dn en ≤ en := by unfold dn; omega
  have e5 : (en - o) / 4096 * 4096 = dn en - o := by omega
  have e6 : o < dn en := by omega
  rw [e2]
  refine ⟨?_, ?_⟩
  · unfold runs
    rw [if_pos (by omega), e1, e3, if_neg (by omega), e5]
  · unfold gaps gap1 gap2 gap3
    rw [e1, e3]
    by_cases h : dn en < en
    · rw [if_neg (by omega), if_neg (by omega), if_pos (by omega), if_neg (by omega), if_neg (by omega), if_pos (by omega)]
    · rw [if_neg (by omega), if_neg (by omega), if_neg (by omega), if_neg (by omega), if_neg (by omega), if_neg (by omega)]
/-- A round that lays down a gap that ends at the end of its slot (before or at en). -/
theorem gap_step_slot {o en g : Int} (h0 : 0 ≤ o) (hlt : o < en) (h1 : o % 4096 ≠ 0) (h2 : o / 4096 * 4096 + 4096 ≤ en) :
    gaps o en g = (2 * (o / 4096) + 2, o / 4096 * 4096 + 4096 - o) :: gaps (o / 4096 * 4096 + 4096) en g ∧ runs o en = runs (o / 4096 * 4096 + 4096) en := by
  have e1 : up o = o / 4096 * 4096 + 4096 := by unfold up; omega
  have e3 : up (o / 4096 * 4096 + 4096) = o / 4096 * 4096 + 4096 := by unfold up; omega
  have e4 : dn en ≤ en := by unfold dn; omega
  have e5 : o / 4096 * 4096 + 4096 ≤ dn en := by unfold dn; omega
  have e6 : 2 * (o / 4096) + 2 = 2 * ((o / 4096 * 4096 + 4096) / 4096) := by omega
  have e7 : o < o / 4096 * 4096 + 4096 := by omega
  rw [e6]
  generalize o / 4096 * 4096 + 4096 = t at *
  refine ⟨?_, ?_⟩
  · unfold gaps gap1 gap2 gap3
    rw [e1, e3]
    by_cases h : dn en < en
    · rw [if_neg (by omega), if_pos (by omega), if_pos (by omega), if_neg (by omega), if_neg (by omega), if_pos (by omega)]; rfl
    · rw [if_neg (by omega), if_pos (by omega), if_neg (by omega), if_neg (by omega), if_neg (by omega), if_neg (by omega)]; rfl
  · unfold runs
    rw [e1, e3]
    by_cases h : t < dn en
    · rw [if_pos (by omega), if_pos (by omega)]
    · rw [if_neg (by omega), if_neg (by omega)]
/-- A round that lays down a gap that ends at en, ahead of the end of its slot. -/
theorem gap_step_end {o en g : Int} (h0 : 0 ≤ o) (hlt : o < en) (h1 : en < o / 4096 * 4096 + 4096) :
    gaps o en g = (bg g, en - o) :: gaps en en g ∧ runs o en = runs en en := by
  rw [gaps_end (off := en) (by omega), runs_end (off := en) (by omega)]
  by_cases hz : o % 4096 = 0
  · have e1 : up o = o := by unfold up; omega
    have e2 : dn en = o := by unfold dn; omega
    refine ⟨?_, ?_⟩
    · unfold gaps gap1 gap2 gap3; rw [e1, e2, if_neg (by omega), if_neg (by omega), if_pos (by omega)]; rfl
    · unfold runs; rw [e1, e2, if_neg (by omega)]
  · have e1 : up o = o / 4096 * 4096 + 4096 := by unfold up; omega
    have e2 : dn en = o / 4096 * 4096 := by unfold dn; omega
    refine ⟨?_, ?_⟩
    · unfold gaps gap1 gap2 gap3; rw [e1, e2, if_pos (by omega), if_neg (by omega), if_neg (by omega)]; rfl
    · unfold runs; rw [e1, e2, if_neg (by omega)]
/-- The gap ends at the end of its slot, and that is en. -/
theorem gap_step_both {o en g : Int} (h0 : 0 ≤ o) (hlt : o < en) (h1 : o % 4096 ≠ 0) (h2 : ¬ o / 4096 * 4096 + 4096 < en) (h3 : ¬ en < o / 4096 * 4096 + 4096) :
    gaps o en g = (2 * (o / 4096) + 2, en - o) :: gaps en en g ∧ runs o en = runs en en := by
  have h := gap_step_slot (g := g) h0 hlt h1 (by omega)
  have e : o / 4096 * 4096 + 4096 = en := by omega
  rw [e] at h
  exact h
end Go.Proofs.Qxb6600586aMods.FreePlain
