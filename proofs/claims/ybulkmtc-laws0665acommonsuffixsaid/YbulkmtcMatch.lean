/- matchLenBackward where one of the two is empty; LawS0665AMatchesNaive: the walk, the row's step, the statement. -/
import Derived.Test.YbulkmtcMlb
import Derived.ProofKit
import Derived.OpenShut
import Derived.ShutString
import Derived.ChangeOld
import Derived.Below
namespace Go.Proofs.Ybulkmtc
open Go.RowKit Go.Lib

set_option maxRecDepth 100000 in
theorem mlb_empty (a b : Option Addr) (la ca lb cb : Nat) (f g : Nat → UInt8) (w : World) (h0 : min la lb = 0) :
    Calls Yba.prog 5 #[.slice a la ca, .slice b lb cb] w fun e w' => (∃ r : Nat, e = .returned (.int .i64 r) ∧ IsCS (fun k => f (la - 1 - k)) (fun k => g (lb - 1 - k)) (min la lb) r) ∧ Below w.heap.size w w' := by
  have hcs : Hid (IsCS (fun k => f (la - 1 - k)) (fun k => g (lb - 1 - k)) (min la lb) 0) := ⟨Nat.zero_le _, fun j hj => by omega, fun h => by omega⟩
  have hmin : min (la : Int) (lb : Int) = 0 := by omega
  clear h0
  go_enter Yba.func5, Yba.ntmps5
  go_wp2_with fail
  go_loopg [6] 0 (fun _ i wr => i = .int .i64 0 ∧ wr = w)
  case atStart => exact ⟨rfl, rfl⟩
  case round =>
    obtain ⟨rfl, rfl⟩ := hrel
    go_wp2_with fail
    go_loopg [6] 0 (fun _ i wi => i = .int .i64 0 ∧ wi = wr)
    case atStart => exact ⟨rfl, rfl⟩
    case round =>
      obtain ⟨rfl, rfl⟩ := hrel
      go_wp2_with fail
      go_quiet (fail)
      go_wp2_with fail
      go_ret
      exact ⟨⟨0, rfl, unhide hcs⟩, below_drewN (Below.refl _ _) _⟩

/-- What a slice of bytes that came in is. -/
def IsB (w : World) (a : Option Addr) (len cap : Nat) (f : Nat → UInt8) : Prop :=
  len = 0 ∨ ∃ b o, a = some ⟨b, o, none⟩ ∧ b < w.heap.size ∧ len ≤ cap ∧ Bytes w b o len f

theorem mlb_any (a b : Option Addr) (la ca lb cb : Nat) (f g : Nat → UInt8) (w : World) (hla : la ≤ 8192) (hlb : lb ≤ 8192) (ha : IsB w a la ca f) (hb : IsB w b lb cb g) :
    Calls Yba.prog 5 #[.slice a la ca, .slice b lb cb] w fun e w' => (∃ r : Nat, e = .returned (.int .i64 r) ∧ IsCS (fun k => f (la - 1 - k)) (fun k => g (lb - 1 - k)) (min la lb) r) ∧ Below w.heap.size w w' := by
  rcases ha with h | ⟨ab, ao, rfl, hal, hac, hf⟩
  · exact mlb_empty a b la ca lb cb f g w (by omega)
  · rcases hb with h | ⟨bb, bo, rfl, hbl, hbc, hg⟩
    · exact mlb_empty _ b la ca lb cb f g w (by omega)
    · exact mlb_some ab ao la ca bb bo lb cb f g w hla hlb hac hbc hf hg hal hbl

theorem naive_any (a b : Option Addr) (la ca lb cb : Nat) (f g : Nat → UInt8) (w : World) (hla : la ≤ 4096) (hlb : lb ≤ 4096) (ha : IsB w a la ca f) (hb : IsB w b lb cb g) :
    Calls Yba.prog 6 #[.slice a la ca, .slice b lb cb] w fun e w' => (∃ r : Nat, e = .returned (.int .i64 r) ∧ IsCS (fun k => f (la - 1 - k)) (fun k => g (lb - 1 - k)) (min la lb) r) ∧ ∃ n, w' = w.drewN n := by
  rcases ha with h | ⟨ab, ao, rfl, hal, hac, hf⟩
  · exact naive_empty a b la ca lb cb f g w hla hlb (by omega)
  · rcases hb with h | ⟨bb, bo, rfl, hbl, hbc, hg⟩
    · exact naive_empty _ b la ca lb cb f g w hla hlb (by omega)
    · exact naive_some ab ao la ca bb bo lb cb f g w hla hlb hf hg

theorem IsB.below {w w' : World} {a : Option Addr} {len cap : Nat} {f : Nat → UInt8} (h : IsB w a len cap f) (hb : Below w.heap.size w w') : IsB w' a len cap f := by
  rcases h with h | ⟨b, o, rfl, hl, hc, hf⟩
  · exact Or.inl h
  · exact Or.inr ⟨b, o, rfl, Nat.lt_of_lt_of_le hl hb.size, hc, hf.below hb hl⟩

set_option maxRecDepth 100000 in
theorem match_walk (a b : Option Addr) (la ca lb cb : Nat) (f g : Nat → UInt8) (w : World) (hma : la ≤ maxLen) (hmb : lb ≤ maxLen) (ha : IsB w a la ca f) (hb : IsB w b lb cb g) :
    Calls Yba.prog 3 #[.slice a la ca, .slice b lb cb] w fun e w' => e = .returned (.bool true) ∧ Below w.heap.size w w' := by
  unfold maxLen at hma hmb
  by_cases h1 : 4096 < la
  · have h1' : (4096 : Int) < (la : Int) := by omega
    go_enter Yba.func3, Yba.ntmps3
    go_wp2_with fail
    go_ret
    exact ⟨rfl, Below.refl _ _⟩
  · by_cases h2 : 4096 < lb
    · have h1' : ¬ (4096 : Int) < (la : Int) := by omega
      have h2' : (4096 : Int) < (lb : Int) := by omega
      go_enter Yba.func3, Yba.ntmps3
      go_wp2_with fail
      go_ret
      exact ⟨rfl, Below.refl _ _⟩
    · have h1' : ¬ (4096 : Int) < (la : Int) := by omega
      have h2' : ¬ (4096 : Int) < (lb : Int) := by omega
      have hm := hide (mlb_any a b la ca lb cb f g w (by omega) (by omega) ha hb)
      have hn := hide (fun w' (h : Below w.heap.size w w') => naive_any a b la ca lb cb f g w' (by omega) (by omega) (ha.below h) (hb.below h))
      clear ha hb
      go_enter Yba.func3, Yba.ntmps3
      go_wp2_with fail
      refine (unhide hm).mono ?_
      rintro e w1 ⟨⟨r, rfl, hr⟩, hb1⟩
      have hr' := hide hr
      clear hr
      go_wp2_with fail
      refine (unhide hn w1 hb1).mono ?_
      rintro e w2 ⟨⟨r2, rfl, hr2⟩, n2, rfl⟩
      obtain rfl : r = r2 := (unhide hr').unique hr2
      clear hr2
      go_wp2_with fail
      go_ret
      exact ⟨by simp, below_drewN hb1 n2⟩
end Go.Proofs.Ybulkmtc

namespace Go.Proofs.Ybulkmtc.lawS0665AMatchesNaive
open Go.ChangeShapes Go.WideShapes Go.ChangeAt Go.RowKit

theorem own : ownKnob Yba.prog.godebug = none := by kernel_rfl
theorem laidOut : laidOutB Yba.prog = true := by kernel_rfl

theorem u8_of {z : Int} (h : (Lit.int .u8 z).wf = true) : z = ((UInt8.ofNat z.toNat).toNat : Int) := by
  simp [Lit.wf, IntKind.min, IntKind.max, IntKind.bits, IntKind.signed] at h
  rw [UInt8.toNat_ofNat']
  omega

theorem bytes_of {H : Type} {enc : TypeId × Value → H} {W : World} {d : DataW H} {ps : List MemPlace} {a : Option Addr} {len cap : Nat}
    (h : DataW.Trod enc Yba.prog W 0 (fun _ => true) true 22 (.slice a len cap) d ps) : len ≤ maxLen ∧ ∃ f, IsB W a len cap f := by
  obtain ⟨fuel, hf⟩ := h
  rcases open_ints Yba.underlying22 Yba.underlying5 (by kernel_rfl) hf with ⟨hcs, _⟩ | ⟨x, l, c, zs, hcs, _, hl, hm, hz, _, hcell, hwz⟩
  · simp [Value.cells] at hcs
    obtain ⟨_, rfl, _⟩ := hcs
    exact ⟨Nat.zero_le _, fun _ => 0, Or.inl rfl⟩
  · simp [Value.cells] at hcs
    obtain ⟨rfl, rfl, rfl⟩ := hcs
    refine ⟨Nat.le_trans hl hm, fun i => UInt8.ofNat (zs.getD i 0).toNat, ?_⟩
    have hz' : zs.length = cap := by simpa using hz
    by_cases h0 : len = 0
    · exact Or.inl h0
    · obtain ⟨b, o, rfl, hc⟩ := ints_at hcell (by omega)
      refine Or.inr ⟨b, o, rfl, ?_, hl, fun i hi => ?_⟩
      · have h1 := hc 0 (by omega)
        by_cases hb : b < W.heap.size
        · exact hb
        · simp [World.cell?, show W.heap[b]? = none from by simp; omega] at h1
      · rw [hc i (by omega)]
        have hmem : zs.getD i 0 ∈ zs := by
          rw [List.getD_eq_getElem?_getD, List.getElem?_eq_getElem (by omega)]
          exact List.getElem_mem _
        exact congrArg (fun z => some (Value.int .u8 z)) (u8_of (hwz _ hmem))

set_option maxRecDepth 100000 in
theorem lifted (os : Os) (started : os.Started) (H : Type) (enc : TypeId × Value → H) :
    ReturnsInHanded {} Yba.checked os 3 .any (Rows.lawS0665AMatchesNaiveSpec.pre6 enc Yba.prog Yba.f3 Rows.lawS0665AMatchesNaiveRow.domain false) (Rows.lawS0665AMatchesNaiveSpec.post enc Yba.prog Yba.f3 false true false false) := by
  refine returnsInHanded_of_change (C := Yba.checked) own started (by kernel_rfl) Yba.func3
    (ChangeSpec.witness6 (enc := enc) (C := Yba.checked) false ⟨#[], #[.slice none 0 0, .slice none 0 0], []⟩ 8 (by kernel_rfl) (by kernel_rfl) (by kernel_rfl) (by kernel_rfl)) ?_
  intro W base args ds gs before hval0 hW hcnd _
  have hval : ∀ (j : Nat) t v, Yba.f3.params[j]? = some t → args[j]? = some v → Value.okWide Yba.prog W .any base t v := hval0
  have hW' := hW
  obtain ⟨p, q, hA0, hV, rfl, hfz, hnd⟩ := hW
  have hA : DataW.TrodAll enc Yba.prog W 0 (fun _ => true) true Yba.f3.params.toList args.toList ds p := hA0
  rw [Yba.params3] at hA hval
  obtain ⟨v0, vs0, d0, ds0, p0, q0, hargs, rfl, rfl, h0, r0⟩ := trodAll_cons hA
  obtain ⟨v1, vs1, d1, ds1, p1, q1, rfl, rfl, rfl, h1, r1⟩ := trodAll_cons r0
  obtain ⟨rfl, rfl, rfl⟩ := trodAll_nil r1
  obtain rfl : args = #[v0, v1] := by cases args; simp_all
  obtain ⟨rfl, rfl⟩ := trodVars_none hV
  obtain ⟨a0, len0, cap0, rfl⟩ := okWide_slice Yba.underlying22 (hval 0 22 v0 rfl rfl)
  have lt0 : ∀ x ∈ p0, x.block < W.heap.size := by obtain ⟨m, hm⟩ := h0; exact DataW.trod_lt m _ _ _ hm
  obtain ⟨m0, f0, b0⟩ := bytes_of h0
  obtain ⟨a1, len1, cap1, rfl⟩ := okWide_slice Yba.underlying22 (hval 1 22 v1 rfl rfl)
  have lt1 : ∀ x ∈ p1, x.block < W.heap.size := by obtain ⟨m, hm⟩ := h1; exact DataW.trod_lt m _ _ _ hm
  obtain ⟨m1, f1, b1⟩ := bytes_of h1
  clear hA0 hval0
  refine (match_walk a0 a1 len0 cap0 len1 cap1 f0 f1 W m0 m1 b0 b1).mono fun e W' ⟨he, bel⟩ => ?_
  subst he
  exact ⟨_, rfl, _, _, _, [], _, [], hW', trodAll_mk1 (shut_bool Yba.underlying4 _), (trodAll_cons_mk (Below.trod laidOut (by kernel_rfl) (of_decide_eq_true (by kernel_rfl)) h0 bel lt0) (trodAll_cons_mk (Below.trod laidOut (by kernel_rfl) (of_decide_eq_true (by kernel_rfl)) h1 bel lt1) trodAll_mk0)), rfl, bel.frame _, fun h => by cases h⟩

theorem over : Rows.lawS0665AMatchesNaiveRow.holds Yba.pinned (OpenSpec.ofChange Rows.lawS0665AMatchesNaiveSpec) :=
  OpenClaim.holds_of_wide 3 Yba.f3 rfl rfl rfl rfl rfl rfl rfl ⟨rfl, rfl, rfl, rfl, rfl⟩ rfl rfl rfl rfl rfl (by kernel_rfl) Yba.func3 (by kernel_rfl)
    (of_decide_eq_true (by kernel_rfl)) (by unfold Func.isWrapper; first | (rw [if_pos (by decide +kernel)]; kernel_rfl) | (rw [if_neg (by decide +kernel)]; exact ⟨rfl, rfl⟩))
    (fun os started H enc _ => lifted os started H enc)
end Go.Proofs.Ybulkmtc.lawS0665AMatchesNaive
namespace Go.Proofs.Ybulkmtc
/-- THE STATEMENT. -/
theorem matchesNaive_proved : Rows.LawS0665AMatchesNaiveSaid := lawS0665AMatchesNaive.over
end Go.Proofs.Ybulkmtc
