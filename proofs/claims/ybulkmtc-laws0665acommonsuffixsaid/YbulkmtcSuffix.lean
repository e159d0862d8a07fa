/- LawS0665ACommonSuffix: the walk, the row's step, the statement. -/
import Derived.Test.YbulkmtcMatch
namespace Go.Proofs.Ybulkmtc
open Go.RowKit Go.Lib

/-- The cells of n bytes. -/
def bl (f : Nat → UInt8) (n : Nat) : List Value := (List.range n).map fun i => .int .u8 ((f i).toNat : Int)

theorem bl_len (f : Nat → UInt8) (n : Nat) : (bl f n).length = n := by simp [bl]
theorem bl_get (f : Nat → UInt8) (n i : Nat) (h : i < n) : (bl f n)[i]? = some (.int .u8 ((f i).toNat : Int)) := by simp [bl, h]
theorem bl_one (f : Nat → UInt8) (n : Nat) : ∀ u ∈ bl f n, u.oneCell' = true := by
  intro u hu
  simp only [bl, List.mem_map] at hu
  obtain ⟨i, _, rfl⟩ := hu
  rfl

/-- p behind which s stands. -/
def app (fp : Nat → UInt8) (lp : Nat) (fs : Nat → UInt8) (i : Nat) : UInt8 := if i < lp then fp i else fs (i - lp)

theorem bl_app (fp fs : Nat → UInt8) (lp ls : Nat) : bl fp lp ++ bl fs ls = bl (app fp lp fs) (lp + ls) := by
  apply List.ext_getElem?
  intro i
  by_cases h1 : i < lp
  · rw [List.getElem?_append_left (by rw [bl_len]; exact h1), bl_get fp lp i h1, bl_get _ _ i (by omega)]
    simp [app, h1]
  · rw [List.getElem?_append_right (by rw [bl_len]; omega), bl_len]
    by_cases h2 : i < lp + ls
    · rw [bl_get fs ls (i - lp) (by omega), bl_get _ _ i h2]
      simp [app, h1]
    · rw [List.getElem?_eq_none (by rw [bl_len]; omega), List.getElem?_eq_none (by rw [bl_len]; omega)]

theorem IsCS.app {fp fq fs : Nat → UInt8} {lp lq ls r : Nat} (h : IsCS (fun k => fp (lp - 1 - k)) (fun k => fq (lq - 1 - k)) (min lp lq) r) :
    IsCS (fun k => app fp lp fs (lp + ls - 1 - k)) (fun k => app fq lq fs (lq + ls - 1 - k)) (min (lp + ls) (lq + ls)) (ls + r) := by
  have hr := h.1
  refine ⟨by omega, fun j hj => ?_, fun hlt => ?_⟩
  · by_cases hs : j < ls
    · have e1 : ¬ lp + ls - 1 - j < lp := by omega
      have e2 : ¬ lq + ls - 1 - j < lq := by omega
      simp only [Ybulkmtc.app, if_neg e1, if_neg e2]
      rw [show lp + ls - 1 - j - lp = ls - 1 - j by omega, show lq + ls - 1 - j - lq = ls - 1 - j by omega]
    · have e1 : lp + ls - 1 - j < lp := by omega
      have e2 : lq + ls - 1 - j < lq := by omega
      simp only [Ybulkmtc.app, if_pos e1, if_pos e2]
      have := h.2.1 (j - ls) (by omega)
      dsimp only at this
      rw [show lp - 1 - (j - ls) = lp + ls - 1 - j by omega, show lq - 1 - (j - ls) = lq + ls - 1 - j by omega] at this
      exact this
  · have e1 : lp + ls - 1 - (ls + r) < lp := by omega
    have e2 : lq + ls - 1 - (ls + r) < lq := by omega
    simp only [Ybulkmtc.app, if_pos e1, if_pos e2]
    have := h.2.2 (by omega)
    dsimp only at this
    rw [show lp - 1 - r = lp + ls - 1 - (ls + r) by omega, show lq - 1 - r = lq + ls - 1 - (ls + r) by omega] at this
    exact this

theorem isB_of_own {w : World} {B g n c : Nat} {f : Nat → UInt8} (h : w.ownsRow B 5 1 (.slice (some ⟨g, 0, none⟩) n c) n (bl f n)) : IsB w (some ⟨g, 0, none⟩) n c f := by
  by_cases h0 : n = 0
  · exact Or.inl h0
  have hl := (h.lt g rfl).2
  refine Or.inr ⟨g, 0, rfl, hl, ?_, fun i hi => ?_⟩
  · rcases h.2 with ⟨h', _⟩ | ⟨g', c', cur, h', _, _, hnc, _⟩
    · simp at h'
    · simp only [Value.slice.injEq, true_and] at h'
      rw [h'.2]; exact hnc
  · rw [Nat.zero_add, h.cellAt i (by omega), bl_get f n i hi]

/-- The cells of a slice of bytes that came in, as 'append' wants them. -/
theorem cells_of {w : World} {a : Option Addr} {len cap : Nat} {f : Nat → UInt8} (h : IsB w a len cap f) : ∀ ad, a = some ad → ∀ j u, (bl f len)[j]? = some u → w.cell? (ad.add j) = some u := by
  intro ad had j u hu
  have hj : j < len := by
    by_cases hj : j < len
    · exact hj
    · rw [List.getElem?_eq_none (by rw [bl_len]; omega)] at hu
      cases hu
  rcases h with h | ⟨b, o, he, _, _, hf⟩
  · omega
  · rw [he] at had
    obtain rfl := Option.some.inj had
    rw [Go.WideShapes.add_plain, hf j hj]
    rw [bl_get f len j hj] at hu
    exact hu

theorem info5 : (Yba.prog.info? 5).map (fun i => (i.zero, i.size, i.bytes)) = some (some (.int .u8 0), 1, 1) := by kernel_rfl

set_option maxRecDepth 100000 in
set_option maxHeartbeats 2000000 in
theorem suffix_walk (p q s : Option Addr) (lp cp lq cq ls cs : Nat) (fp fq fs : Nat → UInt8) (w : World) (hp : lp ≤ 2048) (hq : lq ≤ 2048) (hs : ls ≤ 2048) (ip : IsB w p lp cp fp) (iq : IsB w q lq cq fq) (is : IsB w s ls cs fs)
    (np : p = none → lp = 0 ∧ cp = 0) (nq : q = none → lq = 0 ∧ cq = 0) (ns : s = none → ls = 0 ∧ cs = 0) :
    Calls Yba.prog 4 #[.slice p lp cp, .slice q lq cq, .slice s ls cs] w fun e w' => e = .returned (.bool true) ∧ Below w.heap.size w w' := by
  obtain ⟨i0, hi, hz0, hz1, hz2⟩ := info_parts info5
  have HI := hide hi
  have HZ0 := hide hz0
  have HZ1 := hide hz1
  have HZ2 : Hid (i0.bytes = 1) := hz2
  have ip' := hide ip
  have iq' := hide iq
  have is' := hide is
  have np' := hide np
  have nq' := hide nq
  have ns' := hide ns
  clear hi hz0 hz1 hz2 ip iq is np nq ns
  have HMA : Hid True := trivial
  have HMB : Hid True := trivial
  have HB0 := hide (Below.refl w.heap.size w)
  go_enter Yba.func4, Yba.ntmps4
  go_wp2_with (first
    | (at_make; have _t := unhide HMA; go_must (refine wpList_make_own _ rfl _ _ 22 rfl w.heap.size 5 i0 (.int .u8 0) 1 Yba.underlying22 (unhide HI) (unhide HZ0) (unhide HZ1) _ _ _ (lp + ls) rfl rfl (by omega) (by rw [unhide HZ2]; omega) (by unfold maxLen; omega) (Nat.le_refl _) ?_; intro w1 ho1 hg1; have HO1 := hide ho1; have HB1 := hide ((unhide HB0).grown hg1 (Nat.le_refl _) (fun _ h => by cases h)); clear HMA ho1 hg1))
    | (at_builtin; have _t := unhide HO1; go_must (refine wpList_append_fits_any _ rfl _ _ 22 rfl w.heap.size 5 i0 1 Yba.underlying22 (unhide HI) (unhide HZ1) w.heap.size 0 (lp + ls) [] rfl (unhide HO1) p lp cp (bl fp lp) rfl (by rw [bl_len]; omega) (unhide np') (cells_of ((unhide ip').below (unhide HB1))) (bl_one _ _) (by omega) ?_; intro w2 ho2 hg2; rw [Nat.zero_add, List.nil_append] at ho2; have HO2 := hide ho2; have HB2 := hide ((unhide HB1).grown hg2 (unhide HB1).size (fun _ h => by cases h; exact Nat.le_refl _)); clear HO1 ho2 hg2))
    | (at_builtin; have _t := unhide HO2; go_must (refine wpList_append_fits_any _ rfl _ _ 22 rfl w.heap.size 5 i0 1 Yba.underlying22 (unhide HI) (unhide HZ1) w.heap.size lp (lp + ls) (bl fp lp) rfl (unhide HO2) s ls cs (bl fs ls) rfl (by rw [bl_len]; omega) (unhide ns') (cells_of ((unhide is').below (unhide HB2))) (bl_one _ _) (by omega) ?_; intro w3 ho3 hg3; rw [bl_app] at ho3; have HO3 := hide ho3; have HB3 := hide ((unhide HB2).grown hg3 (unhide HB2).size (fun _ h => by cases h; exact Nat.le_refl _)); have hl3 : w.heap.size < w3.heap.size := (ho3.lt _ rfl).2; clear HO2 ho3 hg3))
    | (at_make; have _t := unhide HMB; go_must (refine wpList_make_own _ rfl _ _ 22 rfl w.heap.size 5 i0 (.int .u8 0) 1 Yba.underlying22 (unhide HI) (unhide HZ0) (unhide HZ1) _ _ _ (lq + ls) rfl rfl (by omega) (by rw [unhide HZ2]; omega) (by unfold maxLen; omega) (by omega) ?_; intro w4 ho4 hg4; have HO4 := hide ho4; have HA4 := hide ((unhide HO3).kept hg4 (Or.inr (by simp [Value.ownBlock]))); have HB4 := hide ((unhide HB3).grown hg4 (by omega) (fun _ h => by cases h)); clear HMB ho4 hg4 HO3))
    | (at_builtin; have _t := unhide HO4; go_must (refine wpList_append_fits_any _ rfl _ _ 22 rfl w.heap.size 5 i0 1 Yba.underlying22 (unhide HI) (unhide HZ1) w3.heap.size 0 (lq + ls) [] rfl (unhide HO4) q lq cq (bl fq lq) rfl (by rw [bl_len]; omega) (unhide nq') (cells_of ((unhide iq').below (unhide HB4))) (bl_one _ _) (by omega) ?_; intro w5 ho5 hg5; rw [Nat.zero_add, List.nil_append] at ho5; have HO5 := hide ho5; have HA5 := hide ((unhide HA4).kept hg5 (Or.inr (by simp [Value.ownBlock]; omega))); have HB5 := hide ((unhide HB4).grown hg5 (unhide HB4).size (fun _ h => by cases h; omega)); clear HO4 ho5 hg5 HA4))
    | (at_builtin; have _t := unhide HO5; go_must (refine wpList_append_fits_any _ rfl _ _ 22 rfl w.heap.size 5 i0 1 Yba.underlying22 (unhide HI) (unhide HZ1) w3.heap.size lq (lq + ls) (bl fq lq) rfl (unhide HO5) s ls cs (bl fs ls) rfl (by rw [bl_len]; omega) (unhide ns') (cells_of ((unhide is').below (unhide HB5))) (bl_one _ _) (by omega) ?_; intro w6 ho6 hg6; rw [bl_app] at ho6; have HO6 := hide ho6; have HA6 := hide ((unhide HA5).kept hg6 (Or.inr (by simp [Value.ownBlock]; omega))); have HB6 := hide ((unhide HB5).grown hg6 (unhide HB5).size (fun _ h => by cases h; omega)); clear HO5 ho6 hg6 HA5)))
  have ba := isB_of_own (unhide HA6)
  have bb := isB_of_own (unhide HO6)
  have hm1 := hide (mlb_any _ _ (lp + ls) (lp + ls) (lq + ls) (lq + ls) _ _ w6 (by omega) (by omega) ba bb)
  have hm2 := hide (fun X (h : Below w6.heap.size w6 X) => mlb_any _ _ (lq + ls) (lq + ls) (lp + ls) (lp + ls) _ _ X (by omega) (by omega) (bb.below h) (ba.below h))
  have hnv := hide (fun X (h : Below w.heap.size w X) => naive_any p q lp cp lq cq fp fq X (by omega) (by omega) ((unhide ip').below h) ((unhide iq').below h))
  clear ba bb
  refine (unhide hm1).mono ?_
  rintro e w7 ⟨⟨r, rfl, hr⟩, hb7⟩
  have hr' := hide hr
  clear hr
  have h67 := (unhide HB6).size
  go_wp2_with fail
  refine (unhide hnv w7 ((unhide HB6).trans (hb7.mono h67))).mono ?_
  rintro e w8 ⟨⟨r2, rfl, hr2⟩, n8, rfl⟩
  obtain rfl : r = ls + r2 := (unhide hr').unique hr2.app
  have hr2' := hide hr2
  have hr2b := hr2.1
  clear hr2
  go_wp2_with fail
  refine (unhide hm2 _ (below_drewN hb7 n8)).mono ?_
  rintro e w9 ⟨⟨r3, rfl, hr3⟩, hb9⟩
  have e3 : r3 = ls + r2 := hr3.unique (by have := (unhide hr2').app (fs := fs) (ls := ls); rw [Nat.min_comm]; exact this.symm)
  subst e3
  clear hr3
  go_wp2_with fail
  go_ret
  refine ⟨by simp, ?_⟩
  have h7 : Below w.heap.size w w7 := (unhide HB6).trans (hb7.mono h67)
  exact (below_drewN h7 n8).trans (hb9.mono (by have := hb7.size; simp; omega))

set_option maxRecDepth 100000 in
theorem suffix_long (p q s : Option Addr) (lp cp lq cq ls cs : Nat) (w : World) (mp : lp ≤ maxLen) (mq : lq ≤ maxLen) (ms : ls ≤ maxLen) (h : 2048 < lp ∨ 2048 < lq ∨ 2048 < ls) :
    Calls Yba.prog 4 #[.slice p lp cp, .slice q lq cq, .slice s ls cs] w fun e w' => e = .returned (.bool true) ∧ Below w.heap.size w w' := by
  unfold maxLen at mp mq ms
  by_cases h1 : 2048 < lp
  · have h1' : (2048 : Int) < (lp : Int) := by omega
    clear h
    go_enter Yba.func4, Yba.ntmps4
    go_wp2_with fail
    go_ret
    exact ⟨rfl, Below.refl _ _⟩
  · have h1' : ¬ (2048 : Int) < (lp : Int) := by omega
    by_cases h2 : 2048 < lq
    · have h2' : (2048 : Int) < (lq : Int) := by omega
      clear h
      go_enter Yba.func4, Yba.ntmps4
      go_wp2_with fail
      go_ret
      exact ⟨rfl, Below.refl _ _⟩
    · have h2' : ¬ (2048 : Int) < (lq : Int) := by omega
      have h3' : (2048 : Int) < (ls : Int) := by omega
      clear h
      go_enter Yba.func4, Yba.ntmps4
      go_wp2_with fail
      go_ret
      exact ⟨rfl, Below.refl _ _⟩
end Go.Proofs.Ybulkmtc

namespace Go.Proofs.Ybulkmtc.lawS0665ACommonSuffix
open Go.ChangeShapes Go.WideShapes Go.ChangeAt Go.RowKit
open Go.Proofs.Ybulkmtc.lawS0665AMatchesNaive (own laidOut bytes_of)

/-- A nil slice has neither length nor capacity. -/
theorem nil_of {H : Type} {enc : TypeId × Value → H} {W : World} {d : DataW H} {ps : List MemPlace} {a : Option Addr} {len cap : Nat}
    (h : DataW.Trod enc Yba.prog W 0 (fun _ => true) true 22 (.slice a len cap) d ps) : a = none → len = 0 ∧ cap = 0 := by
  intro ha
  subst ha
  obtain ⟨fuel, hf⟩ := h
  rcases open_ints Yba.underlying22 Yba.underlying5 (by kernel_rfl) hf with ⟨hcs, _⟩ | ⟨x, l, c, zs, hcs, _⟩
  · simp [Value.cells] at hcs
    exact hcs
  · simp [Value.cells] at hcs

set_option maxRecDepth 100000 in
theorem lifted (os : Os) (started : os.Started) (H : Type) (enc : TypeId × Value → H) :
    ReturnsInHanded {} Yba.checked os 4 .any (Rows.lawS0665ACommonSuffixSpec.pre6 enc Yba.prog Yba.f4 Rows.lawS0665ACommonSuffixRow.domain false) (Rows.lawS0665ACommonSuffixSpec.post enc Yba.prog Yba.f4 false true false false) := by
  refine returnsInHanded_of_change (C := Yba.checked) own started (by kernel_rfl) Yba.func4
    (ChangeSpec.witness6 (enc := enc) (C := Yba.checked) false ⟨#[], #[.slice none 0 0, .slice none 0 0, .slice none 0 0], []⟩ 8 (by kernel_rfl) (by kernel_rfl) (by kernel_rfl) (by kernel_rfl)) ?_
  intro W base args ds gs before hval0 hW hcnd _
  have hval : ∀ (j : Nat) t v, Yba.f4.params[j]? = some t → args[j]? = some v → Value.okWide Yba.prog W .any base t v := hval0
  have hW' := hW
  obtain ⟨p, q, hA0, hV, rfl, hfz, hnd⟩ := hW
  have hA : DataW.TrodAll enc Yba.prog W 0 (fun _ => true) true Yba.f4.params.toList args.toList ds p := hA0
  rw [Yba.params4] at hA hval
  obtain ⟨v0, vs0, d0, ds0, p0, q0, hargs, rfl, rfl, h0, r0⟩ := trodAll_cons hA
  obtain ⟨v1, vs1, d1, ds1, p1, q1, rfl, rfl, rfl, h1, r1⟩ := trodAll_cons r0
  obtain ⟨v2, vs2, d2, ds2, p2, q2, rfl, rfl, rfl, h2, r2⟩ := trodAll_cons r1
  obtain ⟨rfl, rfl, rfl⟩ := trodAll_nil r2
  obtain rfl : args = #[v0, v1, v2] := by cases args; simp_all
  obtain ⟨rfl, rfl⟩ := trodVars_none hV
  obtain ⟨a0, len0, cap0, rfl⟩ := okWide_slice Yba.underlying22 (hval 0 22 v0 rfl rfl)
  have lt0 : ∀ x ∈ p0, x.block < W.heap.size := by obtain ⟨m, hm⟩ := h0; exact DataW.trod_lt m _ _ _ hm
  obtain ⟨m0, f0, b0⟩ := bytes_of h0
  obtain ⟨a1, len1, cap1, rfl⟩ := okWide_slice Yba.underlying22 (hval 1 22 v1 rfl rfl)
  have lt1 : ∀ x ∈ p1, x.block < W.heap.size := by obtain ⟨m, hm⟩ := h1; exact DataW.trod_lt m _ _ _ hm
  obtain ⟨m1, f1, b1⟩ := bytes_of h1
  obtain ⟨a2, len2, cap2, rfl⟩ := okWide_slice Yba.underlying22 (hval 2 22 v2 rfl rfl)
  have lt2 : ∀ x ∈ p2, x.block < W.heap.size := by obtain ⟨m, hm⟩ := h2; exact DataW.trod_lt m _ _ _ hm
  obtain ⟨m2, f2, b2⟩ := bytes_of h2
  have hwalk : Calls Yba.prog 4 #[.slice a0 len0 cap0, .slice a1 len1 cap1, .slice a2 len2 cap2] W fun e w' => e = .returned (.bool true) ∧ Below W.heap.size W w' := by
    by_cases hl : 2048 < len0 ∨ 2048 < len1 ∨ 2048 < len2
    · exact suffix_long a0 a1 a2 len0 cap0 len1 cap1 len2 cap2 W m0 m1 m2 hl
    · exact suffix_walk a0 a1 a2 len0 cap0 len1 cap1 len2 cap2 f0 f1 f2 W (by omega) (by omega) (by omega) b0 b1 b2 (nil_of h0) (nil_of h1) (nil_of h2)
  clear hA0 hval0
  refine hwalk.mono fun e W' ⟨he, bel⟩ => ?_
  subst he
  exact ⟨_, rfl, _, _, _, [], _, [], hW', trodAll_mk1 (shut_bool Yba.underlying4 _), (trodAll_cons_mk (Below.trod laidOut (by kernel_rfl) (of_decide_eq_true (by kernel_rfl)) h0 bel lt0) (trodAll_cons_mk (Below.trod laidOut (by kernel_rfl) (of_decide_eq_true (by kernel_rfl)) h1 bel lt1) (trodAll_cons_mk (Below.trod laidOut (by kernel_rfl) (of_decide_eq_true (by kernel_rfl)) h2 bel lt2) trodAll_mk0))), rfl, bel.frame _, fun h => by cases h⟩

theorem over : Rows.lawS0665ACommonSuffixRow.holds Yba.pinned (OpenSpec.ofChange Rows.lawS0665ACommonSuffixSpec) :=
  OpenClaim.holds_of_wide 4 Yba.f4 rfl rfl rfl rfl rfl rfl rfl ⟨rfl, rfl, rfl, rfl, rfl⟩ rfl rfl rfl rfl rfl (by kernel_rfl) Yba.func4 (by kernel_rfl)
    (of_decide_eq_true (by kernel_rfl)) (by unfold Func.isWrapper; first | (rw [if_pos (by decide +kernel)]; kernel_rfl) | (rw [if_neg (by decide +kernel)]; exact ⟨rfl, rfl⟩))
    (fun os started H enc _ => lifted os started H enc)
end Go.Proofs.Ybulkmtc.lawS0665ACommonSuffix
namespace Go.Proofs.Ybulkmtc
/-- THE STATEMENT. -/
theorem commonSuffix_proved : Rows.LawS0665ACommonSuffixSaid := lawS0665ACommonSuffix.over
end Go.Proofs.Ybulkmtc
