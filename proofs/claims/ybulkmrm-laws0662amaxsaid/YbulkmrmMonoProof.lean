/- The row's step and the statement LawS0662AMonotoneSaid. -/
import Derived.Test.YbulkmrmMono
import Derived.ProofKit
import Derived.OpenShut
import Derived.Carry
import Derived.Deep.SlicePairs
namespace Go.Proofs.Ybulkmrm.lawS0662AMonotone
open Go.ChangeShapes Go.WideShapes Go.ChangeAt Go.RowKit

theorem own : ownKnob Yba.prog.godebug = none := by kernel_rfl
theorem laidOut : laidOutB Yba.prog = true := by kernel_rfl

/-- What the walk is told of the slice of steps. -/
def IsSteps (w : World) (a : Option Addr) (len : Nat) (P Q : Nat → Nat) : Prop :=
  len = 0 ∨ ∃ sb so, a = some ⟨sb, so, none⟩ ∧ sb < w.heap.size ∧ (∀ i, i < len → P i < 18446744073709551616) ∧ (∀ i, i < len → Q i < 18446744073709551616) ∧
    (∀ i, i < len → w.cell? ⟨sb, so + i * 2, none⟩ = some (.int .u64 (P i))) ∧ (∀ i, i < len → w.cell? ⟨sb, so + i * 2 + 1, none⟩ = some (.int .u64 (Q i)))

theorem walk (a : Option Addr) (len cap : Nat) (P Q : Nat → Nat) (p place : Nat) (w : World) (hm : len ≤ maxLen) (hs : IsSteps w a len P Q) (hp : p < 18446744073709551616) (hpl : place < 18446744073709551616) :
    Calls Yba.prog 4 #[.slice a len cap, .int .u64 p, .int .u64 place] w fun e w' => e = .returned (.bool true) ∧ Below w.heap.size w w' := by
  by_cases hl : 1024 < len
  · exact mono_long a len cap p place w hl hm
  · rcases hs with rfl | ⟨sb, so, rfl, hb, hP, hQ, h0, h1⟩
    · exact mono_empty a cap p place w hp hpl
    · exact mono_some sb so len cap p place P Q w (by omega) hP hQ hp hpl h0 h1 hb

theorem u64_nat {a : Int} (h : (Lit.int .u64 a).wf = true) : ∃ n : Nat, a = n ∧ n < 18446744073709551616 := by
  simp [Lit.wf, IntKind.min, IntKind.max, IntKind.bits, IntKind.signed] at h
  exact ⟨a.toNat, by omega, by omega⟩

theorem steps_of {H : Type} {enc : TypeId × Value → H} {W : World} {v : Value} {d : DataW H} {ps : List MemPlace} {a : Option Addr} {len cap : Nat} (hv : v = .slice a len cap)
    (h : DataW.Trod enc Yba.prog W 0 (fun _ => true) true 22 v d ps) : len ≤ maxLen ∧ ∃ P Q, IsSteps W a len P Q := by
  subst hv
  obtain ⟨fuel, hf⟩ := h
  rcases Deep.open_slice_pairs Yba.underlying22 Yba.underlying38 (by kernel_rfl) rfl rfl (by kernel_rfl) (by kernel_rfl) hf with ⟨hcs, _⟩ | ⟨x, l, c, m, n, V0, V1, D0, D1, P0, P1, hcs, _, hlc, hm, hmm, _, hx⟩
  · simp [Value.cells] at hcs
    obtain ⟨_, rfl, _⟩ := hcs
    exact ⟨Nat.zero_le _, fun _ => 0, fun _ => 0, Or.inl rfl⟩
  · simp [Value.cells] at hcs
    obtain ⟨rfl, rfl, rfl⟩ := hcs
    refine ⟨Nat.le_trans hlc hm, ?_⟩
    have hlm : len ≤ m := by rw [hmm]; simp; exact hlc
    by_cases h0 : len = 0
    · exact ⟨fun _ => 0, fun _ => 0, Or.inl h0⟩
    · have each : ∀ i, i < len → ∃ q : Nat × Nat, V0 i = .int .u64 q.1 ∧ V1 i = .int .u64 q.2 ∧ q.1 < 18446744073709551616 ∧ q.2 < 18446744073709551616 := by
        intro i hi
        obtain ⟨_, _, t0, t1⟩ := hx i (by omega)
        obtain ⟨n0, e0, _, w0⟩ := DataW.trod_int Yba.underlying23 t0
        obtain ⟨n1, e1, _, w1⟩ := DataW.trod_int Yba.underlying23 t1
        obtain ⟨m0, rfl, b0⟩ := u64_nat w0
        obtain ⟨m1, rfl, b1⟩ := u64_nat w1
        exact ⟨(m0, m1), by simpa using e0, by simpa using e1, b0, b1⟩
      obtain ⟨q, hq⟩ := Deep.choose_lt each
      obtain ⟨sb, so, spot⟩ := x
      have hspot : spot = none := by simpa [Addr.add] using World.cell?_spot (hx 0 (by omega)).1
      subst hspot
      have hc0 : ∀ i, i < len → W.cell? ⟨sb, so + i * 2, none⟩ = some (.int .u64 (q i).1) := by
        intro i hi
        have := (hx i (by omega)).1
        rw [add_plain, (hq i hi).1] at this
        exact this
      have hc1 : ∀ i, i < len → W.cell? ⟨sb, so + i * 2 + 1, none⟩ = some (.int .u64 (q i).2) := by
        intro i hi
        have := (hx i (by omega)).2.1
        rw [add_plain, (hq i hi).2.1] at this
        exact this
      exact ⟨fun i => (q i).1, fun i => (q i).2, Or.inr ⟨sb, so, rfl, lt_of_cell (hc0 0 (by omega)), fun i hi => (hq i hi).2.2.1, fun i hi => (hq i hi).2.2.2, hc0, hc1⟩⟩

set_option maxRecDepth 100000 in
theorem lifted (os : Os) (started : os.Started) (H : Type) (enc : TypeId × Value → H) :
    ReturnsInHanded {} Yba.checked os 4 .any (Rows.lawS0662AMonotoneSpec.pre6 enc Yba.prog Yba.f4 Rows.lawS0662AMonotoneRow.domain false) (Rows.lawS0662AMonotoneSpec.post enc Yba.prog Yba.f4 false true false false) := by
  refine returnsInHanded_of_change (C := Yba.checked) own started (by kernel_rfl) Yba.func4
    (ChangeSpec.witness6 (enc := enc) (C := Yba.checked) false ⟨#[], #[.slice none 0 0, .int .u64 0, .int .u64 0], []⟩ 8 (by kernel_rfl) (by kernel_rfl) (by kernel_rfl) (by kernel_rfl)) ?_
  intro W base args ds gs before hval0 hW hcnd _
  have hval : ∀ (j : Nat) t v, Yba.f4.params[j]? = some t → args[j]? = some v → Value.okWide Yba.prog W .any base t v := hval0
  have hW' := hW
  obtain ⟨p, q, hA0, hV, rfl, hfz, hnd⟩ := hW
  have hA : DataW.TrodAll enc Yba.prog W 0 (fun _ => true) true Yba.f4.params.toList args.toList ds p := hA0
  rw [Yba.params4] at hA hval
  obtain ⟨v0, vs0, d0, ds0, p0, q0, hargs, rfl, rfl, h0, r0⟩ := trodAll_cons hA
  obtain ⟨v1, vs1, d1, ds1, p1, q1, rfl, rfl, rfl, h1, r1⟩ := trodAll_cons r0
  obtain ⟨v2, vs2, d2, ds2, p2, q2, rfl, rfl, rfl, h2, r2⟩ := trodAll_cons r1
  obtain ⟨rfl, rfl, rfl⟩ := trodAll_nil r2
  obtain rfl : args = #[v0, v1, v2] := by cases args; simp_all
  obtain ⟨rfl, rfl⟩ := trodVars_none hV
  obtain ⟨a0, len0, cap0, rfl⟩ := okWide_slice Yba.underlying22 (hval 0 22 v0 rfl rfl)
  have lt0 : ∀ x ∈ p0, x.block < W.heap.size := by obtain ⟨m, hm⟩ := h0; exact DataW.trod_lt m _ _ _ hm
  obtain ⟨hlen, P, Q, hst⟩ := steps_of rfl h0
  obtain ⟨a1, rfl, rfl, rfl, w1⟩ := open_int Yba.underlying23 (hval 1 23 v1 rfl rfl) h1
  obtain ⟨a2, rfl, rfl, rfl, w2⟩ := open_int Yba.underlying23 (hval 2 23 v2 rfl rfl) h2
  obtain ⟨n1, rfl, b1⟩ := u64_nat w1
  obtain ⟨n2, rfl, b2⟩ := u64_nat w2
  clear hA0 hval0
  refine (walk a0 len0 cap0 P Q n1 n2 W hlen hst b1 b2).mono fun e W' ⟨he, bel⟩ => ?_
  subst he
  exact ⟨_, rfl, _, _, _, [], _, [], hW', trodAll_mk1 (shut_bool Yba.underlying4 _), (trodAll_cons_mk (Below.trod laidOut (by kernel_rfl) (of_decide_eq_true (by kernel_rfl)) h0 bel lt0) (trodAll_cons_mk (shut_int Yba.underlying23 w1) (trodAll_cons_mk (shut_int Yba.underlying23 w2) trodAll_mk0))), rfl, bel.frame _, fun h => by cases h⟩

theorem over : Rows.lawS0662AMonotoneRow.holds Yba.pinned (OpenSpec.ofChange Rows.lawS0662AMonotoneSpec) :=
  OpenClaim.holds_of_wide 4 Yba.f4 rfl rfl rfl rfl rfl rfl rfl ⟨rfl, rfl, rfl, rfl, rfl⟩ rfl rfl rfl rfl rfl (by kernel_rfl) Yba.func4 (by kernel_rfl)
    (of_decide_eq_true (by kernel_rfl)) (by unfold Func.isWrapper; first | (rw [if_pos (by decide +kernel)]; kernel_rfl) | (rw [if_neg (by decide +kernel)]; exact ⟨rfl, rfl⟩))
    (fun os started H enc _ => lifted os started H enc)

end Go.Proofs.Ybulkmrm.lawS0662AMonotone
namespace Go.Proofs.Ybulkmrm
/-- THE STATEMENT. -/
theorem lawS0662AMonotone_proved : Rows.LawS0662AMonotoneSaid := lawS0662AMonotone.over
end Go.Proofs.Ybulkmrm
