/-
  THE WALK of laws.FnName: whatever the name, the law answers true.
-/
import Derived.Test.YtnnbhklkakhkkaaDoorValidName
namespace Go.Proofs.YtnnbhklkakhkkaaDoor
open Go.RowKit Go.Lib

theorem implValid_any (s : ByteArray) (w : World) (hs : s.size ≤ 4611686018427387904) (hT : Tabs w) :
    Calls Tryd.prog 10 #[.string s] w fun e w' => e = .returned (.bool (nameOk s)) ∧ Below w.heap.size w w' := by
  have c1 := noteValid_any s w hs hT
  go_enter Tryd.func10, Tryd.ntmps10
  go_wp2_with (fail)
  refine c1.mono ?_
  clear c1
  rintro e w1 ⟨rfl, hb⟩
  go_wp2_with (fail)
  go_ret
  exact ⟨rfl, hb⟩

theorem fnName_any (s : ByteArray) (w : World) (hT : Tabs w) :
    Calls Tryd.prog 3 #[.string s] w fun e w' => e = .returned (.bool true) ∧ Below w.heap.size w w' := by
  by_cases h1 : 2147483647 < s.size
  · go_enter Tryd.func3, Tryd.ntmps3
    go_wp2_with (fail)
    go_ret
    exact ⟨rfl, Below.refl _ _⟩
  · by_cases h2 : 60 < s.size
    · go_enter Tryd.func3, Tryd.ntmps3
      go_wp2_with (fail)
      go_ret
      exact ⟨rfl, Below.refl _ _⟩
    · have c1 := implValid_any s w (by omega) hT
      go_enter Tryd.func3, Tryd.ntmps3
      go_wp2_with (fail)
      refine c1.mono ?_
      clear c1
      rintro e w1 ⟨rfl, hb1⟩
      have c2 := name_any s w1 (by omega)
      go_wp2_with (fail)
      refine c2.mono ?_
      clear c2
      rintro e w2 ⟨rfl, hb2⟩
      have hb02 := hb1.trans (hb2.mono hb1.size)
      go_wp2_with (fail)
      go_ret
      exact ⟨by simp, hb02⟩

end Go.Proofs.YtnnbhklkakhkkaaDoor
