/- What the law counts behind an open session's end. -/
import Derived.Test.YbulkbzmwFmtAfter
namespace Go.Proofs.YbulkbzmwFmt.Open
open Go.RowKit Go.Conc Go.ChangeMaps Go.Proofs.YbulkbzmwFmt.Map Go.Proofs.YbulkbzmwFmt.Lim Go.Proofs.YbulkbzmwFmt.Sess Go.Proofs.YbulkbzmwFmt.End Go.Proofs.YbulkbzmwFmt.Inv Go.Proofs.YbulkbzmwFmt.Call Go.Proofs.YbulkbzmwFmt.After

/-- Does each of the first k but j reach what is owed? -/
def AllIs (rs : List Rec) (j : Nat) (owed : Int) (k : Nat) (b : Bool) : Prop := b = true ↔ ∀ i y, i < k → i ≠ j → rs[i]? = some y → owed ≤ y.lm

/-- How many values the channel holds behind the end. -/
def Due (rs : List Rec) (j : Nat) (owed : Int) (size kk : Nat) : Prop :=
  ((owed = 0 ∨ ∃ y ∈ rs.take j ++ rs.drop (j + 1), y.lm < owed) ∧ kk = size) ∨ ((owed ≠ 0 ∧ ∀ y ∈ rs.take j ++ rs.drop (j + 1), owed ≤ y.lm) ∧ kk = 1)

section
variable {rs : List Rec} {j k : Nat} {owed : Int} {b : Bool} {x y : Rec} {size kk : Nat} {id : ByteArray}

theorem due (rs : List Rec) (j : Nat) (owed : Int) (size : Nat) : ∃ kk, Due rs j owed size kk := by
  by_cases h : owed = 0 ∨ ∃ y ∈ rs.take j ++ rs.drop (j + 1), y.lm < owed
  · exact ⟨_, .inl ⟨h, rfl⟩⟩
  · refine ⟨1, .inr ⟨⟨fun h0 => h (.inl h0), fun y hy => ?_⟩, rfl⟩⟩
    exact Int.not_lt.1 fun hl => h (.inr ⟨y, hy, hl⟩)

theorem AllIs.zero : AllIs rs j owed 0 true := ⟨fun _ i _ hi => absurd hi (Nat.not_lt_zero i), fun _ => rfl⟩
theorem AllIs.skip (h : AllIs rs j owed j b) : AllIs rs j owed (j + 1) b := by
  refine h.trans ⟨fun h i y hi hn hy => h i y (by omega) hn hy, fun h i y hi hn hy => h i y (by omega) hn hy⟩
theorem AllIs.keep (h : AllIs rs j owed k b) (hx : rs[k]? = some y) (hl : ¬ y.lm < owed) : AllIs rs j owed (k + 1) b := by
  refine h.trans ⟨fun h i z hi hn hz => ?_, fun h i z hi hn hz => h i z (by omega) hn hz⟩
  by_cases e : i = k
  · subst e; rw [hx] at hz; cases hz; omega
  · exact h i z (by omega) hn hz
theorem AllIs.fall (hx : rs[k]? = some y) (hne : k ≠ j) (hl : y.lm < owed) : AllIs rs j owed (k + 1) false := by
  refine ⟨(by simp), fun h => ?_⟩
  have := h k y (Nat.lt_succ_self k) hne hx
  omega
theorem AllIs.count (h : AllIs rs j owed rs.length b) (hd : Due rs j owed size kk) (full : Bool) (hs : size = if full then 1 else 0) : kk = if (full || (!(owed == 0) && b)) then 1 else 0 := by
  have hall : b = true ↔ ∀ y ∈ rs.take j ++ rs.drop (j + 1), owed ≤ y.lm := by
    refine h.trans ⟨fun h y hy => ?_, fun h i y hi hn hy => h y (rest_mem hy hn)⟩
    obtain ⟨i, hi, he⟩ := mem_rest hy
    exact h i y (List.getElem?_eq_some_iff.1 he).1 hi he
  rcases hd with ⟨hk, rfl⟩ | ⟨⟨h0, hk⟩, rfl⟩
  · have : (!(owed == 0) && b) = false := by
      rcases hk with hk | ⟨y, hy, hk⟩
      · simp [hk]
      · have : b = false := by
          cases b
          · rfl
          · have := hall.1 rfl y hy; omega
        simp [this]
    rw [this, hs]
    cases full <;> rfl
  · have h1 : b = true := hall.2 hk
    have h2 : (owed == 0) = false := by simpa using h0
    simp [h1, h2]

theorem no_look (hid : (rs.map (·.e.id.toList)).Nodup) (hx : rs[j]? = some x) (he : x.e.id.toList = id.toList) : Map.look id ((rs.take j ++ rs.drop (j + 1)).map Rec.e) 0 = none := by
  obtain ⟨h1, h2⟩ := Call.apart hid hx he
  refine look_none 0 fun e hm => ?_
  rw [List.map_append] at hm
  rcases List.mem_append.1 hm with hm | hm
  · exact h1 e hm
  · exact h2 e hm
end
end Go.Proofs.YbulkbzmwFmt.Open
