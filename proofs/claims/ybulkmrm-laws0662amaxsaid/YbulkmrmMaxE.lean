/- LawS0662AMax, walked at no step and at more than 1024; the row's step and the statement. -/
import Derived.Test.YbulkmrmMax
import Derived.Test.YbulkmrmMonoProof
namespace Go.Proofs.Ybulkmrm
open Go.RowKit Go.Maps Go.Deep

set_option maxRecDepth 100000 in
set_option maxHeartbeats 1000000 in
theorem max_empty (a : Option Addr) (cap probe : Nat) (w : World) (hp : probe < 18446744073709551616) :
    Calls Yba.prog 3 #[.slice a 0 cap, .int .u64 probe] w fun e w' => e = .returned (.bool true) ∧ Below w.heap.size w w' := by
  go_enter Yba.func3, Yba.ntmps3
  go_wp2_with fail
  go_loopg [26, 6, 7] 0 (fun _ i kv vv wr => i = .int .i64 0 ∧ kv = .slice none 0 0 ∧ vv = .slice none 0 0 ∧ MI w wr (fun _ => none) 0 0 0 (fun _ => False) [] [] (.slice none 0 0) (.slice none 0 0))
  case atStart => exact ⟨rfl, rfl, rfl, mi_start w⟩
  case round =>
    obtain ⟨rfl, rfl, rfl, hmi⟩ := hrel
    have hwl := hmi.lt
    have hg := hide (get_rep w.heap.size 0 probe _ _ wr hmi.rep hp)
    have hh := hmi.rep.held
    go_wp2_with fail
    go_loopg [76] 0 (fun _ i wi => i = .int .i64 0 ∧ wi = wr)
    case atStart => exact ⟨rfl, rfl⟩
    case round =>
      obtain ⟨rfl, rfl⟩ := hrel
      go_wp2_with fail
      refine (unhide hg).mono ?_
      rintro e w1 ⟨rfl, n1, rfl⟩
      go_wp2_with fail
      refine (contains_nil _ _ _ _).mono ?_
      rintro e w1 ⟨rfl, rfl⟩
      go_wp2_with fail
      refine (held_get w.heap.size probe (wr.drewN n1) hh).mono ?_
      rintro e w2 ⟨rfl, hb2⟩
      go_wp2_with fail
      go_ret
      exact ⟨rfl, ((below_drewN hmi.bel n1).trans (hb2.mono (by simp; omega))).alloc (by have := hb2.size; simp at this; omega) _⟩

theorem max_long (a : Option Addr) (len cap probe : Nat) (w : World) (hl : 1024 < len) (hm : len ≤ maxLen) :
    Calls Yba.prog 3 #[.slice a len cap, .int .u64 probe] w fun e w' => e = .returned (.bool true) ∧ Below w.heap.size w w' := by
  unfold maxLen at hm
  have h : (1024 : Int) < (len : Int) := by omega
  go_enter Yba.func3, Yba.ntmps3
  go_wp2_with fail
  go_ret
  exact ⟨rfl, Below.refl _ _⟩
end Go.Proofs.Ybulkmrm

namespace Go.Proofs.Ybulkmrm.lawS0662AMax
open Go.ChangeShapes Go.WideShapes Go.ChangeAt Go.RowKit
open Go.Proofs.Ybulkmrm.lawS0662AMonotone (own laidOut IsSteps u64_nat steps_of)

theorem walk (a : Option Addr) (len cap : Nat) (P Q : Nat → Nat) (probe : Nat) (w : World) (hm : len ≤ maxLen) (hs : IsSteps w a len P Q) (hp : probe < 18446744073709551616) :
    Calls Yba.prog 3 #[.slice a len cap, .int .u64 probe] w fun e w' => e = .returned (.bool true) ∧ Below w.heap.size w w' := by
  by_cases hl : 1024 < len
  · exact max_long a len cap probe w hl hm
  · rcases hs with rfl | ⟨sb, so, rfl, hb, hP, hQ, h0, h1⟩
    · exact max_empty a cap probe w hp
    · exact max_some sb so len cap probe P Q w (by omega) hP hQ hp h0 h1 hb

set_option maxRecDepth 100000 in
theorem lifted (os : Os) (started : os.Started) (H : Type) (enc : TypeId × Value → H) :
    ReturnsInHanded {} Yba.checked os 3 .any (Rows.lawS0662AMaxSpec.pre6 enc Yba.prog Yba.f3 Rows.lawS0662AMaxRow.domain false) (Rows.lawS0662AMaxSpec.post enc Yba.prog Yba.f3 false true false false) := by
  refine returnsInHanded_of_change (C := Yba.checked) own started (by kernel_rfl) Yba.func3
    (ChangeSpec.witness6 (enc := enc) (C := Yba.checked) false ⟨#[], #[.slice none 0 0, .int .u64 0], []⟩ 8 (by kernel_rfl) (by kernel_rfl) (by kernel_rfl) (by kernel_rfl)) ?_
  intro W base args ds gs before hval0 hW hcnd _
  have hval : ∀ (j : Nat) t v, Yba.f3.params[j]? = some t → args[j]? = some v → Value.okWide Yba.prog W .any base t v := hval0
  have hW' := hW
  obtain ⟨p, q, hA0, hV, rfl, hfz, hnd⟩ := hW
  have hA : DataW.TrodAll enc Yba.prog W 0 (fun _ => true) true Yba.f3.params.toList args.toList ds p := hA0
  rw [Yba.params3] at hA hval
  obtain ⟨v0, vs0, d0, ds0, p0, q0, hargs, rfl, rfl, h0, r0⟩ := trodAll_cons hA
  obtain ⟨v1, vs1, d1, ds1, p1, q1, rfl, rfl, rfl, h1, r1⟩ := trodAll_cons r0
  obtain ⟨rfl, rfl, rfl⟩ := trodAll_nil r1
  obtain rfl : args = #[v0, v1] := by cases args; simp_all
  obtain ⟨rfl, rfl⟩ := trodVars_none hV
  obtain ⟨a0, len0, cap0, rfl⟩ := okWide_slice Yba.underlying22 (hval 0 22 v0 rfl rfl)
  have lt0 : ∀ x ∈ p0, x.block < W.heap.size := by obtain ⟨m, hm⟩ := h0; exact DataW.trod_lt m _ _ _ hm
  obtain ⟨hlen, P, Q, hst⟩ := steps_of rfl h0
  obtain ⟨a1, rfl, rfl, rfl, w1⟩ := open_int Yba.underlying23 (hval 1 23 v1 rfl rfl) h1
  obtain ⟨n1, rfl, b1⟩ := u64_nat w1
  clear hA0 hval0
  refine (walk a0 len0 cap0 P Q n1 W hlen hst b1).mono fun e W' ⟨he, bel⟩ => ?_
  subst he
  exact ⟨_, rfl, _, _, _, [], _, [], hW', trodAll_mk1 (shut_bool Yba.underlying4 _), (trodAll_cons_mk (Below.trod laidOut (by kernel_rfl) (of_decide_eq_true (by kernel_rfl)) h0 bel lt0) (trodAll_cons_mk (shut_int Yba.underlying23 w1) trodAll_mk0)), rfl, bel.frame _, fun h => by cases h⟩

theorem over : Rows.lawS0662AMaxRow.holds Yba.pinned (OpenSpec.ofChange Rows.lawS0662AMaxSpec) :=
  OpenClaim.holds_of_wide 3 Yba.f3 rfl rfl rfl rfl rfl rfl rfl ⟨rfl, rfl, rfl, rfl, rfl⟩ rfl rfl rfl rfl rfl (by kernel_rfl) Yba.func3 (by kernel_rfl)
    (of_decide_eq_true (by kernel_rfl)) (by unfold Func.isWrapper; first | (rw [if_pos (by decide +kernel)]; kernel_rfl) | (rw [if_neg (by decide +kernel)]; exact ⟨rfl, rfl⟩))
    (fun os started H enc _ => lifted os started H enc)
end Go.Proofs.Ybulkmrm.lawS0662AMax
namespace Go.Proofs.Ybulkmrm
/-- THE STATEMENT. -/
theorem lawS0662AMax_proved : Rows.LawS0662AMaxSaid := lawS0662AMax.over
end Go.Proofs.Ybulkmrm
