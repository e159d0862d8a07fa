/- LawS0675BTakeAll at every input; the row. -/
import Derived.Test.YbulkmymLawA
import Derived.Test.YbulkmymLawB
import Derived.Test.YbulkmymLawC
import Derived.Test.YbulkmymLawD
import Derived.Test.YbulkmymLawE
import Derived.Test.YbulkmymLawF
import Derived.Test.YbulkmymLawG
import Derived.Deep.Matrix
import Derived.OpenShut
namespace Go.Proofs.Ybulkmym
open Go.RowKit Go.Lib

set_option maxRecDepth 100000 in
theorem law_long (s n c sl scap xl xcap : Nat) (a sp xp : Option Addr) (h : Bool) (w : World) (hl : 256 < n ∨ 256 < sl ∨ 256 < xl) :
    Calls Yba.prog 3 #[.int .u8 s, .slice a n c, .slice sp sl scap, .slice xp xl xcap, .bool h] w fun e w' => e = .returned (.bool true) ∧ Below w.heap.size w w' := by
  by_cases h1 : 256 < n
  · have d1 : decide ((256 : Int) < (n : Int)) = true := by simp; omega
    clear hl
    go_enter Yba.func3, Yba.ntmps3
    go_wp2_with fail
    go_ret
    exact ⟨rfl, Below.refl _ _⟩
  · have d1 : decide ((256 : Int) < (n : Int)) = false := by simp; omega
    by_cases h2 : 256 < sl
    · have d2 : decide ((256 : Int) < (sl : Int)) = true := by simp; omega
      clear hl
      go_enter Yba.func3, Yba.ntmps3
      go_wp2_with fail
      go_ret
      exact ⟨rfl, Below.refl _ _⟩
    · have d2 : decide ((256 : Int) < (sl : Int)) = false := by simp; omega
      have d3 : decide ((256 : Int) < (xl : Int)) = true := by simp; omega
      clear hl
      go_enter Yba.func3, Yba.ntmps3
      go_wp2_with fail
      go_ret
      exact ⟨rfl, Below.refl _ _⟩

theorem law_any (s n c sl scap xl xcap : Nat) (a sp xp : Option Addr) (h : Bool) (A : Nat → Option Addr) (L C : Nat → Nat) (F : Nat → Nat) (Z : Nat → Int) (w : World) (hs8 : s < 256) (hcn : n ≤ c)
    (hE : Ro w w.heap.size a n (fun i => .slice (A i) (L i) (C i))) (hS : Ro w w.heap.size sp sl (fun i => .float .f64 (F i))) (hX : Ro w w.heap.size xp xl (fun i => .int .i64 (Z i))) (hEl : ∀ i, i < n → El w w.heap.size (A i) (L i)) :
    Calls Yba.prog 3 #[.int .u8 s, .slice a n c, .slice sp sl scap, .slice xp xl xcap, .bool h] w fun e w' => e = .returned (.bool true) ∧ Below w.heap.size w w' := by
  by_cases hl : 256 < n ∨ 256 < sl ∨ 256 < xl
  · exact law_long s n c sl scap xl xcap a sp xp h w hl
  · have hn : n ≤ 256 := by omega
    have hsl : sl ≤ 256 := by omega
    have hxl : xl ≤ 256 := by omega
    have hk : (s : Int) % 6 = 0 ∨ (s : Int) % 6 = 1 ∨ (s : Int) % 6 = 2 ∨ (s : Int) % 6 = 3 ∨ (s : Int) % 6 = 4 ∨ (s : Int) % 6 = 5 := by omega
    rcases hk with k | k | k | k | k | k
    · exact law0 s n c sl scap xl xcap a sp xp h A L C F Z w hs8 k hn hsl hxl hE hS hX hEl
    · exact law1 s n c sl scap xl xcap a sp xp h A L C F Z w hs8 k hn hsl hxl hE hS hX hEl
    · exact law2 s n c sl scap xl xcap a sp xp h A L C F Z w hs8 k hn hsl hxl hE hS hX hEl
    · cases h
      · exact law3f s n c sl scap xl xcap a sp xp false A L C F Z w rfl hs8 k hn hcn hsl hxl hE hS hX hEl
      · exact law3t s n c sl scap xl xcap a sp xp true A L C F Z w rfl hs8 k hn hcn hsl hxl hE hS hX hEl
    · exact law4 s n c sl scap xl xcap a sp xp h A L C F Z w hs8 k hn hsl hxl hE hS hX hEl
    · exact law5 s n c sl scap xl xcap a sp xp h A L C F Z w hs8 k hn hcn hsl hxl hE hS hX hEl
end Go.Proofs.Ybulkmym
