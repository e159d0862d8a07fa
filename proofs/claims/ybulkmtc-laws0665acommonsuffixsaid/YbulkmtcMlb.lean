/- matchLenBackward, walked. -/
import Derived.Test.YbulkmtcNaive
import Derived.Test.YbulkmtcShelf
import Derived.WalkLawsBesides
import Derived.Deep.RegionHeld
namespace Go.Proofs.Ybulkmtc
open Go.RowKit Go.Lib

theorem ret_int {k : IntKind} {a b : Int} (h : a = b) : Ending.returned (.int k a) = .returned (.int k b) := by rw [h]

/-- The eight bytes from place p on. -/
theorem u64_at (b o l p n c : Nat) (f : Nat → UInt8) (w X : World) (hX : Below w.heap.size w X) (hb : b < w.heap.size) (hf : Bytes w b o l f) (hp : p + 8 ≤ l) (hn : 8 ≤ n) :
    Calls Yba.prog 7 #[.agg #[], .slice (some ⟨b, o + p, none⟩) n c] X fun e w' => e = .returned (.int .u64 ((leNat (word f p) : Nat) : Int)) ∧ Below w.heap.size w w' := by
  have hc : ∀ j, j < 8 → X.cell? ⟨b, o + p + j, none⟩ = some (.int .u8 ((f (p + j)).toNat : Int)) := by
    intro j hj
    rw [hX.cell hb, Nat.add_assoc]
    exact hf (p + j) (by omega)
  refine (Yba.binary_LE_Uint64 b (o + p) n c (f p) (f (p + 1)) (f (p + 2)) (f (p + 3)) (f (p + 4)) (f (p + 5)) (f (p + 6)) (f (p + 7)) X hn (hc 0 (by omega)) (hc 1 (by omega)) (hc 2 (by omega)) (hc 3 (by omega)) (hc 4 (by omega)) (hc 5 (by omega)) (hc 6 (by omega)) (hc 7 (by omega))).mono ?_
  rintro e w' ⟨rfl, h⟩
  exact ⟨rfl, hX.trans (h.mono hX.size)⟩

set_option maxRecDepth 100000 in
set_option maxHeartbeats 1000000 in
theorem mlb_some (ab ao la ca bb bo lb cb : Nat) (f g : Nat → UInt8) (w : World) (hla : la ≤ 8192) (hlb : lb ≤ 8192) (hca : la ≤ ca) (hcb : lb ≤ cb) (hf : Bytes w ab ao la f) (hg : Bytes w bb bo lb g) (hab : ab < w.heap.size) (hbb : bb < w.heap.size) :
    Calls Yba.prog 5 #[.slice (some ⟨ab, ao, none⟩) la ca, .slice (some ⟨bb, bo, none⟩) lb cb] w fun e w' => (∃ r : Nat, e = .returned (.int .i64 r) ∧ IsCS (fun k => f (la - 1 - k)) (fun k => g (lb - 1 - k)) (min la lb) r) ∧ Below w.heap.size w w' := by
  have hf' := hide hf
  have hg' := hide hg
  clear hf hg
  have hmin : min (la : Int) (lb : Int) = ((min la lb : Nat) : Int) := by omega
  have hn1 : min la lb ≤ la := Nat.min_le_left _ _
  have hn2 : min la lb ≤ lb := Nat.min_le_right _ _
  generalize min la lb = n at *
  go_enter Yba.func5, Yba.ntmps5
  go_wp2_with fail
  go_loopg [6] n (fun gg i wr => ∃ k : Nat, gg = n - k ∧ k ≤ n ∧ i = .int .i64 k ∧ Below w.heap.size w wr ∧ ∀ j, j < k → f (la - 1 - j) = g (lb - 1 - j))
  case atStart => exact ⟨0, by omega, by omega, rfl, Below.refl _ _, fun j hj => by omega⟩
  case round =>
    obtain ⟨k, rfl, hk, rfl, hbel, heq⟩ := hrel
    have heq' := hide heq
    have hbel' := hide hbel
    clear heq hbel
    by_cases hk8 : k + 8 ≤ n
    · have k1 : ((k : Int) + 8 ≤ (n : Int)) := by omega
      have hX : bits BinOp.xor .u64 ((leNat (word f (la - k - 8)) : Nat) : Int) ((leNat (word g (lb - k - 8)) : Nat) : Int) = ((leNat (word f (la - k - 8)) ^^^ leNat (word g (lb - k - 8)) : Nat) : Int) := bits_xor_u64_nat _ _ (word_lt _ _) (word_lt _ _)
      have hc1 : ¬ ca = la - k - 8 := by omega
      have hc2 : ¬ cb = lb - k - 8 := by omega
      have x1 : IntKind.i64.wrap ((la : Int) - (k : Int)) = ((la - k : Nat) : Int) := by rw [IntKind.wrap_i64]; omega
      have x2 : IntKind.i64.wrap (((la - k : Nat) : Int) - 8) = ((la - k - 8 : Nat) : Int) := by rw [IntKind.wrap_i64]; omega
      have y1 : IntKind.i64.wrap ((lb : Int) - (k : Int)) = ((lb - k : Nat) : Int) := by rw [IntKind.wrap_i64]; omega
      have y2 : IntKind.i64.wrap (((lb - k : Nat) : Int) - 8) = ((lb - k - 8 : Nat) : Int) := by rw [IntKind.wrap_i64]; omega
      have z1 : la - k - 8 ≤ la := by omega
      have z2 : lb - k - 8 ≤ lb := by omega
      have hcA := hide (fun (X : World) (hX : Below w.heap.size w X) => u64_at ab ao la (la - k - 8) (la - (la - k - 8)) (ca - (la - k - 8)) f w X hX hab (unhide hf') (by omega) (by omega))
      have hcB := hide (fun (X : World) (hX : Below w.heap.size w X) => u64_at bb bo lb (lb - k - 8) (lb - (lb - k - 8)) (cb - (lb - k - 8)) g w X hX hbb (unhide hg') (by omega) (by omega))
      by_cases hx0 : leNat (word f (la - k - 8)) ^^^ leNat (word g (lb - k - 8)) = 0
      · have hsame := word_same f g _ _ hx0
        have hnx : Hid (∀ j, j < k + 8 → f (la - 1 - j) = g (lb - 1 - j)) := fun j hj => by
          by_cases h : j < k
          · exact unhide heq' j h
          · have := hsame (k + 7 - j) (by omega)
            rw [show la - k - 8 + (k + 7 - j) = la - 1 - j by omega, show lb - k - 8 + (k + 7 - j) = lb - 1 - j by omega] at this
            exact this
        rw [hx0] at hX
        clear hsame hx0
        go_wp2_with fail
        go_region_held (fun X => Below w.heap.size w X) (first | assumption | exact (unhide hbel').drew) (first
          | (go_at_call 7; refine (unhide hcA _ ?_).mono ?_; (assumption); rintro e w' ⟨rfl, hbw⟩; clear hcA)
          | (go_at_call 7; refine (unhide hcB _ ?_).mono ?_; (assumption); rintro e w' ⟨rfl, hbw⟩; clear hcB))
        go_wp2_with fail
        go_roundg (n - (k + 8))
        case measure => omega
        case rel => exact ⟨k + 8, rfl, by omega, by go_num, by assumption, unhide hnx⟩
      · obtain ⟨r, hr1, hr2, hr3, hr4⟩ := word_lead f g _ _ hx0
        have hXlt : leNat (word f (la - k - 8)) ^^^ leNat (word g (lb - k - 8)) < 2 ^ 64 := Nat.xor_lt_two_pow (by have := word_lt f (la - k - 8); omega) (by have := word_lt g (lb - k - 8); omega)
        have hlz := hide (fun W => Yba.bits_LeadingZeros64 ((leNat (word f (la - k - 8)) ^^^ leNat (word g (lb - k - 8)) : Nat) : Int) W (by omega) (by omega))
        have hcs : Hid (IsCS (fun k => f (la - 1 - k)) (fun k => g (lb - 1 - k)) n (k + r)) := by
          refine ⟨by omega, fun j hj => ?_, fun _ => ?_⟩
          · by_cases h : j < k
            · exact unhide heq' j h
            · have := hr3 (j - k) (by omega)
              rw [show la - k - 8 + (7 - (j - k)) = la - 1 - j by omega, show lb - k - 8 + (7 - (j - k)) = lb - 1 - j by omega] at this
              exact this
          · rw [show la - k - 8 + (7 - r) = la - 1 - (k + r) by omega, show lb - k - 8 + (7 - r) = lb - 1 - (k + r) by omega] at hr4
            exact hr4
        simp only [Int.toNat_natCast] at hlz
        have HR : Hid ((64 - (Lib.bitLen (leNat (word f (la - k - 8)) ^^^ leNat (word g (lb - k - 8))) : Int)) / 8 = r) := hr1
        have hbl : Lib.bitLen (leNat (word f (la - k - 8)) ^^^ leNat (word g (lb - k - 8))) ≤ 64 := by omega
        have hbl2 : 0 ≤ 64 - (Lib.bitLen (leNat (word f (la - k - 8)) ^^^ leNat (word g (lb - k - 8))) : Int) ∧ 64 - (Lib.bitLen (leNat (word f (la - k - 8)) ^^^ leNat (word g (lb - k - 8))) : Int) ≤ 64 := by omega
        have hxb : (((leNat (word f (la - k - 8)) ^^^ leNat (word g (lb - k - 8)) : Nat) : Int) != 0) = true := by simp only [bne_iff_ne, ne_eq]; omega
        generalize leNat (word f (la - k - 8)) ^^^ leNat (word g (lb - k - 8)) = X at *
        generalize 64 - (Lib.bitLen X : Int) = L at *
        clear hr1 hr2 hr3 hr4 hx0 hXlt hbl
        go_wp2_with fail
        go_region_held (fun X => Below w.heap.size w X) (first | assumption | exact (unhide hbel').drew) (first
          | (go_at_call 7; refine (unhide hcA _ ?_).mono ?_; (assumption); rintro e w' ⟨rfl, hbw⟩; clear hcA)
          | (go_at_call 7; refine (unhide hcB _ ?_).mono ?_; (assumption); rintro e w' ⟨rfl, hbw⟩; clear hcB))
        go_wp2_with fail
        refine (unhide hlz _).mono ?_
        rintro e w4 ⟨rfl, rfl⟩
        go_wp2_with fail
        go_ret
        exact ⟨⟨k + r, ret_int (by have := unhide HR; omega), unhide hcs⟩, by assumption⟩
    · have k1 : ¬ ((k : Int) + 8 ≤ (n : Int)) := by omega
      go_wp2_with fail
      go_loopg [6] (n - k) (fun gg i wr => ∃ k : Nat, gg = n - k ∧ k ≤ n ∧ i = .int .i64 k ∧ Below w.heap.size w wr ∧ ∀ j, j < k → f (la - 1 - j) = g (lb - 1 - j))
      case atStart => exact ⟨k, rfl, hk, rfl, unhide hbel', unhide heq'⟩
      case round =>
        clear hbel' heq' k1 hk8 hk
        obtain ⟨k, rfl, hk, rfl, hbel, heq⟩ := hrel
        have heq' := hide heq
        have hbel' := hide hbel
        clear heq
        by_cases hkl : k < n
        · have qa := (hbel.cell (p := ⟨ab, ao + (la - 1 - k), none⟩) hab).trans (unhide hf' (la - 1 - k) (by omega))
          have qb := (hbel.cell (p := ⟨bb, bo + (lb - 1 - k), none⟩) hbb).trans (unhide hg' (lb - 1 - k) (by omega))
          clear hbel
          have hd : decide ((k : Int) < (n : Int)) = true := by simp; omega
          by_cases hfg : f (la - 1 - k) = g (lb - 1 - k)
          · have hbe : (((f (la - 1 - k)).toNat : Int) == ((g (lb - 1 - k)).toNat : Int)) = true := by rw [hfg]; simp
            have hnx : Hid (∀ j, j < k + 1 → f (la - 1 - j) = g (lb - 1 - j)) := fun j hj => by
              by_cases h : j < k
              · exact unhide heq' j h
              · have : j = k := by omega
                subst this; exact hfg
            clear hfg
            go_wp2_with fail
            go_quiet (fail)
            go_wp2_with fail
            go_roundg (n - (k + 1))
            case measure => omega
            case rel => exact ⟨k + 1, rfl, by omega, by go_num, below_drewN (unhide hbel') _, unhide hnx⟩
          · have hbe := u8_ne hfg
            have HN := hide hfg
            clear hfg
            go_wp2_with fail
            go_quiet (fail)
            go_wp2_with fail
            go_ret
            exact ⟨⟨k, rfl, by omega, unhide heq', fun _ => unhide HN⟩, below_drewN (unhide hbel') _⟩
        · have : k = n := by omega
          subst this
          clear hbel
          have hd : decide ((k : Int) < (k : Int)) = false := by simp
          go_wp2_with fail
          go_quiet (fail)
          go_wp2_with fail
          go_ret
          exact ⟨⟨k, rfl, by omega, unhide heq', fun h => by omega⟩, below_drewN (unhide hbel') _⟩
end Go.Proofs.Ybulkmtc
