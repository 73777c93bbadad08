/-
  The walks of the four small functions that LawS1343BTable and LawS1343BSibling call: each computes a plain function of its argument and leaves the world as it was.
-/
import Derived.Test.YbulkaaueProg
import Derived.WalkKit
import Derived.WalkSpells
import Derived.WalkLawsBesides
namespace Go.Proofs.Ybulkaaue
open Go.RowKit

/-- Is it the text request-body-stall? -/
def isStall (s : ByteArray) : Bool := s.toList == [114, 101, 113, 117, 101, 115, 116, 45, 98, 111, 100, 121, 45, 115, 116, 97, 108, 108]
/-- Is it the text client-gone? -/
def isGone (s : ByteArray) : Bool := s.toList == [99, 108, 105, 101, 110, 116, 45, 103, 111, 110, 101]
def tout (s : ByteArray) : Int := if isStall s then 408 else 504
def clos (s : ByteArray) : Int := if isGone s then 499 else tout s

theorem timedOut_any (s : ByteArray) (w : World) :
    Calls Yba.prog 11 #[.string s] w fun e w' => e = .returned (.int .i64 (tout s)) ∧ w = w' := by
  by_cases h : isStall s = true
  · have e : tout s = 408 := by simp [tout, h]
    unfold isStall at h
    rw [e]
    go_enter Yba.func11, Yba.ntmps11
    go_wp2
    go_ret
    exact ⟨rfl, rfl⟩
  · have e : tout s = 504 := by simp [tout, h]
    unfold isStall at h
    rw [e]
    go_enter Yba.func11, Yba.ntmps11
    go_wp2
    go_ret
    exact ⟨rfl, rfl⟩

theorem closed_any (s : ByteArray) (w : World) :
    Calls Yba.prog 9 #[.string s] w fun e w' => e = .returned (.int .i64 (clos s)) ∧ w = w' := by
  by_cases h : isGone s = true
  · have e : clos s = 499 := by simp [clos, h]
    unfold isGone at h
    rw [e]
    go_enter Yba.func9, Yba.ntmps9
    go_wp2
    go_ret
    exact ⟨rfl, rfl⟩
  · have e : clos s = tout s := by simp [clos, h]
    unfold isGone at h
    rw [e]
    clear e
    go_enter Yba.func9, Yba.ntmps9
    go_wp2_with (go_at_call 11; refine (timedOut_any _ _).mono ?_; rintro e w' ⟨rfl, rfl⟩)
    go_ret
    exact ⟨rfl, rfl⟩

theorem want_any (s : ByteArray) (w : World) :
    Calls Yba.prog 10 #[.string s] w fun e w' => e = .returned (.int .i64 (clos s)) ∧ w = w' := by
  by_cases h : isGone s = true
  · have e : clos s = 499 := by simp [clos, h]
    unfold isGone at h
    rw [e]
    go_enter Yba.func10, Yba.ntmps10
    go_wp2
    go_ret
    exact ⟨rfl, rfl⟩
  · by_cases h' : isStall s = true
    · have e : clos s = 408 := by simp [clos, h, tout, h']
      unfold isGone at h
      unfold isStall at h'
      rw [e]
      go_enter Yba.func10, Yba.ntmps10
      go_wp2
      go_ret
      exact ⟨rfl, rfl⟩
    · have e : clos s = 504 := by simp [clos, h, tout, h']
      unfold isGone at h
      unfold isStall at h'
      rw [e]
      go_enter Yba.func10, Yba.ntmps10
      go_wp2
      go_ret
      exact ⟨rfl, rfl⟩

set_option maxHeartbeats 400000 in
theorem name_any (k : Int) (w : World) :
    Calls Yba.prog 8 #[.int .i64 k] w fun e w' => (∃ s, e = .returned (.string s)) ∧ w = w' := by
  go_enter Yba.func8, Yba.ntmps8
  go_wp2
  all_goals
    go_ret
    exact ⟨⟨_, rfl⟩, rfl⟩
end Go.Proofs.Ybulkaaue
