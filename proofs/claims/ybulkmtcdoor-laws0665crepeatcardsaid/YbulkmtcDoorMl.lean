/- matchLen, walked. -/
import Derived.Test.YbulkmtcDoorBase
namespace Go.Proofs.YbulkmtcDoor
open Go.RowKit Go.Lib

set_option maxRecDepth 100000 in
set_option maxHeartbeats 1000000 in
theorem ml_some (ab ao la ca bb bo lb cb : Nat) (f g : Nat → UInt8) (w : World) (hla : la ≤ 8192) (hca : la ≤ ca) (hcb : lb ≤ cb) (hf : Bytes w ab ao la f) (hg : Bytes w bb bo lb g) (hab : ab < w.heap.size) (hbb : bb < w.heap.size) (hT : Tab w) (hT1 : 1 < w.heap.size) :
    Calls Ybad.prog 7 #[.slice (some ⟨ab, ao, none⟩) la ca, .slice (some ⟨bb, bo, none⟩) lb cb] w fun e w' => (∃ r : Nat, e = .returned (.int .i64 r) ∧ IsCS f g (min la lb) r) ∧ Below w.heap.size w w' := by
  have hf' := hide hf
  have hg' := hide hg
  have hT' := hide hT
  clear hf hg hT
  have hmin : min (la : Int) (lb : Int) = ((min la lb : Nat) : Int) := by omega
  have hn1 : min la lb ≤ la := Nat.min_le_left _ _
  have hn2 : min la lb ≤ lb := Nat.min_le_right _ _
  generalize min la lb = n at *
  go_enter Ybad.func7, Ybad.ntmps7
  go_wp2_with fail
  go_loopg [6] n (fun gg i wr => ∃ k : Nat, gg = n - k ∧ k ≤ n ∧ i = .int .i64 k ∧ Below w.heap.size w wr ∧ ∀ j, j < k → f j = g j)
  case atStart => exact ⟨0, by omega, by omega, rfl, Below.refl _ _, fun j hj => by omega⟩
  case round =>
    obtain ⟨k, rfl, hk, rfl, hbel, heq⟩ := hrel
    have heq' := hide heq
    have hbel' := hide hbel
    clear heq hbel
    by_cases hk8 : k + 8 ≤ n
    · have k1 : ((k : Int) + 8 ≤ (n : Int)) := by omega
      have hX : bits BinOp.xor .u64 ((leNat (word f k) : Nat) : Int) ((leNat (word g k) : Nat) : Int) = ((leNat (word f k) ^^^ leNat (word g k) : Nat) : Int) := bits_xor_u64_nat _ _ (word_lt _ _) (word_lt _ _)
      have hc1 : ¬ ca = k := by omega
      have hc2 : ¬ cb = k := by omega
      have z1 : k ≤ la := by omega
      have z2 : k ≤ lb := by omega
      have hcA := hide (fun (X : World) (hX : Below w.heap.size w X) => u64_at ab ao la k (la - k) (ca - k) f w X hX hab (unhide hf') (by omega) (by omega))
      have hcB := hide (fun (X : World) (hX : Below w.heap.size w X) => u64_at bb bo lb k (lb - k) (cb - k) g w X hX hbb (unhide hg') (by omega) (by omega))
      by_cases hx0 : leNat (word f k) ^^^ leNat (word g k) = 0
      · have hsame := word_same f g _ _ hx0
        have hnx : Hid (∀ j, j < k + 8 → f j = g j) := fun j hj => by
          by_cases h : j < k
          · exact unhide heq' j h
          · have := hsame (j - k) (by omega)
            rw [show k + (j - k) = j by omega] at this
            exact this
        rw [hx0] at hX
        clear hsame hx0
        go_wp2_with fail
        go_region_held (fun X => Below w.heap.size w X) (first | assumption | exact (unhide hbel').drew) (first
          | (go_at_call 8; refine (unhide hcA _ ?_).mono ?_; (assumption); rintro e w' ⟨rfl, hbw⟩; clear hcA)
          | (go_at_call 8; refine (unhide hcB _ ?_).mono ?_; (assumption); rintro e w' ⟨rfl, hbw⟩; clear hcB))
        go_wp2_with fail
        go_roundg (n - (k + 8))
        case measure => omega
        case rel => exact ⟨k + 8, rfl, by omega, by go_num, by assumption, unhide hnx⟩
      · obtain ⟨r, hr1, hr2, hr5, hr3, hr4⟩ := word_trail f g _ _ hx0
        have hXlt : leNat (word f k) ^^^ leNat (word g k) < 2 ^ 64 := Nat.xor_lt_two_pow (by have := word_lt f k; omega) (by have := word_lt g k; omega)
        have htz := hide (fun W hW => tz64 (leNat (word f k) ^^^ leNat (word g k)) (by omega) hx0 W hW)
        have hcs : Hid (IsCS f g n (k + r)) := by
          refine ⟨by omega, fun j hj => ?_, fun _ => hr4⟩
          by_cases h : j < k
          · exact unhide heq' j h
          · have := hr3 (j - k) (by omega)
            rw [show k + (j - k) = j by omega] at this
            exact this
        have HR : Hid (ctz 64 (leNat (word f k) ^^^ leNat (word g k)) / 8 = r) := hr1
        have hxb : (((leNat (word f k) ^^^ leNat (word g k) : Nat) : Int) != 0) = true := by simp only [bne_iff_ne, ne_eq]; omega
        generalize leNat (word f k) ^^^ leNat (word g k) = X at *
        generalize ctz 64 X = L at *
        clear hr1 hr2 hr3 hr4 hx0 hXlt
        go_wp2_with fail
        go_region_held (fun X => Below w.heap.size w X) (first | assumption | exact (unhide hbel').drew) (first
          | (go_at_call 8; refine (unhide hcA _ ?_).mono ?_; (assumption); rintro e w' ⟨rfl, hbw⟩; clear hcA)
          | (go_at_call 8; refine (unhide hcB _ ?_).mono ?_; (assumption); rintro e w' ⟨rfl, hbw⟩; clear hcB))
        go_wp2_with fail
        refine (unhide htz _ (Tab.below (unhide hT') (by assumption) hT1)).mono ?_
        rintro e w4 ⟨rfl, rfl⟩
        go_wp2_with fail
        go_ret
        exact ⟨⟨k + r, ret_int (by have := unhide HR; omega), unhide hcs⟩, by assumption⟩
    · have k1 : ¬ ((k : Int) + 8 ≤ (n : Int)) := by omega
      go_wp2_with fail
      go_loopg [6] (n - k) (fun gg i wr => ∃ k : Nat, gg = n - k ∧ k ≤ n ∧ i = .int .i64 k ∧ Below w.heap.size w wr ∧ ∀ j, j < k → f j = g j)
      case atStart => exact ⟨k, rfl, hk, rfl, unhide hbel', unhide heq'⟩
      case round =>
        clear hbel' heq' k1 hk8 hk
        obtain ⟨k, rfl, hk, rfl, hbel, heq⟩ := hrel
        have heq' := hide heq
        have hbel' := hide hbel
        clear heq
        by_cases hkl : k < n
        · have qa := (hbel.cell (p := ⟨ab, ao + k, none⟩) hab).trans (unhide hf' k (by omega))
          have qb := (hbel.cell (p := ⟨bb, bo + k, none⟩) hbb).trans (unhide hg' k (by omega))
          clear hbel
          have hd : decide ((k : Int) < (n : Int)) = true := by simp; omega
          have z1 : k < la := by omega
          have z2 : k < lb := by omega
          by_cases hfg : f k = g k
          · have hbe : (((f k).toNat : Int) == ((g k).toNat : Int)) = true := by rw [hfg]; simp
            have hnx : Hid (∀ j, j < k + 1 → f j = g j) := fun j hj => by
              by_cases h : j < k
              · exact unhide heq' j h
              · have : j = k := by omega
                subst this; exact hfg
            clear hfg
            go_wp2_with fail
            go_quiet (fail)
            go_wp2_with fail
            go_roundg (n - (k + 1))
            case measure => omega
            case rel => exact ⟨k + 1, rfl, by omega, by go_num, below_drewN (unhide hbel') _, unhide hnx⟩
          · have hbe := u8_ne hfg
            have HN := hide hfg
            clear hfg
            go_wp2_with fail
            go_quiet (fail)
            go_wp2_with fail
            go_ret
            exact ⟨⟨k, rfl, by omega, unhide heq', fun _ => unhide HN⟩, below_drewN (unhide hbel') _⟩
        · have : k = n := by omega
          subst this
          clear hbel
          have hd : decide ((k : Int) < (k : Int)) = false := by simp
          go_wp2_with fail
          go_quiet (fail)
          go_wp2_with fail
          go_ret
          exact ⟨⟨k, rfl, by omega, unhide heq', fun h => by omega⟩, below_drewN (unhide hbel') _⟩

set_option maxRecDepth 100000 in
theorem ml_empty (a b : Option Addr) (la ca lb cb : Nat) (f g : Nat → UInt8) (w : World) (h0 : min la lb = 0) :
    Calls Ybad.prog 7 #[.slice a la ca, .slice b lb cb] w fun e w' => (∃ r : Nat, e = .returned (.int .i64 r) ∧ IsCS f g (min la lb) r) ∧ Below w.heap.size w w' := by
  have hcs : Hid (IsCS f g (min la lb) 0) := ⟨Nat.zero_le _, fun j hj => by omega, fun h => by omega⟩
  have hmin : min (la : Int) (lb : Int) = 0 := by omega
  clear h0
  go_enter Ybad.func7, Ybad.ntmps7
  go_wp2_with fail
  go_loopg [6] 0 (fun _ i wr => i = .int .i64 0 ∧ wr = w)
  case atStart => exact ⟨rfl, rfl⟩
  case round =>
    obtain ⟨rfl, rfl⟩ := hrel
    go_wp2_with fail
    go_loopg [6] 0 (fun _ i wi => i = .int .i64 0 ∧ wi = wr)
    case atStart => exact ⟨rfl, rfl⟩
    case round =>
      obtain ⟨rfl, rfl⟩ := hrel
      go_wp2_with fail
      go_quiet (fail)
      go_wp2_with fail
      go_ret
      exact ⟨⟨0, rfl, unhide hcs⟩, below_drewN (Below.refl _ _) _⟩

/-- What a slice of bytes is. -/
def IsB (w : World) (a : Option Addr) (len cap : Nat) (f : Nat → UInt8) : Prop :=
  len = 0 ∨ ∃ b o, a = some ⟨b, o, none⟩ ∧ b < w.heap.size ∧ len ≤ cap ∧ Bytes w b o len f

theorem IsB.below {w w' : World} {a : Option Addr} {len cap : Nat} {f : Nat → UInt8} (h : IsB w a len cap f) (hb : Below w.heap.size w w') : IsB w' a len cap f := by
  rcases h with h | ⟨b, o, rfl, hl, hc, hf⟩
  · exact Or.inl h
  · exact Or.inr ⟨b, o, rfl, Nat.lt_of_lt_of_le hl hb.size, hc, hf.below hb hl⟩

theorem ml_any (a b : Option Addr) (la ca lb cb : Nat) (f g : Nat → UInt8) (w : World) (hla : la ≤ 8192) (ha : IsB w a la ca f) (hb : IsB w b lb cb g) (hT : Tab w) (hT1 : 1 < w.heap.size) :
    Calls Ybad.prog 7 #[.slice a la ca, .slice b lb cb] w fun e w' => (∃ r : Nat, e = .returned (.int .i64 r) ∧ IsCS f g (min la lb) r) ∧ Below w.heap.size w w' := by
  rcases ha with h | ⟨ab, ao, rfl, hal, hac, hf⟩
  · exact ml_empty a b la ca lb cb f g w (by omega)
  · rcases hb with h | ⟨bb, bo, rfl, hbl, hbc, hg⟩
    · exact ml_empty _ b la ca lb cb f g w (by omega)
    · exact ml_some ab ao la ca bb bo lb cb f g w hla hac hbc hf hg hal hbl hT hT1
end Go.Proofs.YbulkmtcDoor
