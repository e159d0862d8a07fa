/- The row of LawS0675BTakeAll. -/
import Derived.Test.YbulkmymLawH
import Derived.ProofKit
import Derived.OpenShut
import Derived.ShutString
import Derived.ChangeOld
import Derived.Laws.Cover2
import Derived.Deep.Matrix
namespace Go.Proofs.Ybulkmym.lawS0675BTakeAll
open Go.ChangeShapes Go.WideShapes Go.ChangeAt Go.RowKit Go.Deep

theorem own : ownKnob Yba.prog.godebug = none := by kernel_rfl
theorem laidOut : laidOutB Yba.prog = true := by kernel_rfl

theorem plain_of {W : World} {a : Addr} {v : Value} (h : W.cell? (a.add 0) = some v) : ∃ b o, a = ⟨b, o, Option.none⟩ ∧ b < W.heap.size := by
  obtain ⟨b, o, spot⟩ := a
  have hspot : spot = Option.none := by simpa [Addr.add] using World.cell?_spot h
  subst hspot
  refine ⟨b, o, rfl, ?_⟩
  rw [Go.WideShapes.add_plain] at h
  exact lt_of_cell h

/-- A slice that came in, as a row. -/
theorem ro_of {W : World} {a : Addr} {n : Nat} {v : Nat → Value} (h : ∀ i, i < n → W.cell? (a.add i) = some (v i)) : Ro W W.heap.size (some a) n v := by
  by_cases h0 : n = 0
  · exact Or.inl h0
  · obtain ⟨b, o, rfl, hb⟩ := plain_of (h 0 (by omega))
    exact Or.inr ⟨b, o, rfl, hb, fun i hi => by rw [← Go.WideShapes.add_plain]; exact h i hi⟩

theorem trod_f64 {H : Type} {enc : TypeId × Value → H} {P : Program} {w : World} {base : Nat} {spare : Nat → Bool} {held : Bool} {fuel : Nat} {t : TypeId} {v : Value} {x : DataW H × List MemPlace} (ht : P.underlying t = some (.float .f64))
    (h : DataW.trod enc P w base spare held fuel t [v] = some x) : ∃ b, v = .float .f64 b := by
  cases fuel with
  | zero => simp [DataW.trod] at h
  | succ n =>
    unfold DataW.trod at h
    rw [ht] at h
    split at h <;> simp_all

theorem floats_of {H : Type} {enc : TypeId × Value → H} {W : World} {d : DataW H} {ps : List MemPlace} {a : Option Addr} {len cap : Nat}
    (h : DataW.Trod enc Yba.prog W 0 (fun _ => true) true 23 (.slice a len cap) d ps) : ∃ F : Nat → Nat, Ro W W.heap.size a len (fun i => .float .f64 (F i)) := by
  obtain ⟨fuel, hf⟩ := h
  rcases open_slice1 Yba.underlying23 (by kernel_rfl) hf with ⟨hcs, _⟩ | ⟨x, l, c, m, n, V, D, Pl, hcs, _, hl, hm, hmm, _, hall⟩
  · simp [Value.cells] at hcs
    obtain ⟨_, rfl, _⟩ := hcs
    exact ⟨fun _ => 0, Or.inl rfl⟩
  · simp [Value.cells] at hcs
    obtain ⟨rfl, rfl, rfl⟩ := hcs
    simp only [if_true] at hmm
    subst hmm
    have each : ∀ i, i < m → ∃ b, V i = .float .f64 b := fun i hi => trod_f64 Yba.underlying49 (hall i hi).2
    obtain ⟨F, hF⟩ := choose_lt each
    exact ⟨F, ro_of fun i hi => by rw [(hall i (by omega)).1, hF i (by omega)]⟩

theorem ints_of {H : Type} {enc : TypeId × Value → H} {W : World} {d : DataW H} {ps : List MemPlace} {a : Option Addr} {len cap : Nat}
    (h : DataW.Trod enc Yba.prog W 0 (fun _ => true) true 24 (.slice a len cap) d ps) : ∃ Z : Nat → Int, Ro W W.heap.size a len (fun i => .int .i64 (Z i)) := by
  obtain ⟨fuel, hf⟩ := h
  rcases open_ints Yba.underlying24 Yba.underlying2 (by kernel_rfl) hf with ⟨hcs, _⟩ | ⟨x, l, c, zs, hcs, _, hl, hm, hz, _, hcell, hwz⟩
  · simp [Value.cells] at hcs
    obtain ⟨_, rfl, _⟩ := hcs
    exact ⟨fun _ => 0, Or.inl rfl⟩
  · simp [Value.cells] at hcs
    obtain ⟨rfl, rfl, rfl⟩ := hcs
    have hz' : zs.length = cap := by simpa using hz
    exact ⟨fun i => zs.getD i 0, ro_of fun i hi => hcell i (by omega)⟩

theorem elems_of {H : Type} {enc : TypeId × Value → H} {W : World} {d : DataW H} {ps : List MemPlace} {a : Option Addr} {len cap : Nat}
    (h : DataW.Trod enc Yba.prog W 0 (fun _ => true) true 22 (.slice a len cap) d ps) :
    len ≤ cap ∧ ∃ (A : Nat → Option Addr) (L C : Nat → Nat), Ro W W.heap.size a len (fun i => .slice (A i) (L i) (C i)) ∧ ∀ i, i < len → El W W.heap.size (A i) (L i) := by
  obtain ⟨fuel, hf⟩ := h
  rcases open_int_rows Yba.underlying22 Yba.underlying34 Yba.underlying5 (by kernel_rfl) (by kernel_rfl) hf with ⟨hcs, _⟩ | ⟨x, l, c, A, L, C, Z, hcs, _, hl, hm, _, hall⟩
  · simp [Value.cells] at hcs
    obtain ⟨_, rfl, rfl⟩ := hcs
    exact ⟨Nat.le_refl _, fun _ => Option.none, fun _ => 0, fun _ => 0, Or.inl rfl, fun i hi => by omega⟩
  · simp [Value.cells] at hcs
    obtain ⟨rfl, rfl, rfl⟩ := hcs
    refine ⟨hl, A, L, C, ro_of fun i hi => (hall i (by omega)).1, fun i hi => ?_⟩
    obtain ⟨_, h1, h2, h3, _, h5, h6⟩ := hall i (by omega)
    refine ⟨Nat.le_trans h1 h2, ?_⟩
    by_cases h0 : L i = 0
    · exact Or.inl h0
    · right
      cases hA : A i with
      | none => have := h5 hA; omega
      | some a' =>
        have hc := (h6 a' hA).2
        obtain ⟨b, o, rfl, hb⟩ := plain_of (hc 0 (by omega))
        refine ⟨b, o, (Z i).take (L i), rfl, hb, by simp; omega, fun j hj => ?_⟩
        rw [← Go.WideShapes.add_plain, hc j (by omega)]
        simp [List.getD_eq_getElem?_getD, hj]

set_option maxRecDepth 100000 in
theorem lifted (os : Os) (started : os.Started) (H : Type) (enc : TypeId × Value → H) :
    ReturnsInHanded {} Yba.checked os 3 .any (Rows.lawS0675BTakeAllSpec.pre6 enc Yba.prog Yba.f3 Rows.lawS0675BTakeAllRow.domain false) (Rows.lawS0675BTakeAllSpec.post enc Yba.prog Yba.f3 false true false false) := by
  refine returnsInHanded_of_change (C := Yba.checked) own started (by kernel_rfl) Yba.func3
    (ChangeSpec.witness6 (enc := enc) (C := Yba.checked) false ⟨#[], #[.int .u8 0, .slice Option.none 0 0, .slice Option.none 0 0, .slice Option.none 0 0, .bool false], []⟩ 8 (by kernel_rfl) (by kernel_rfl) (by kernel_rfl) (by kernel_rfl)) ?_
  intro W base args ds gs before hval0 hW hcnd _
  have hval : ∀ (j : Nat) t v, Yba.f3.params[j]? = some t → args[j]? = some v → Value.okWide Yba.prog W .any base t v := hval0
  have hW' := hW
  obtain ⟨p, q, hA0, hV, rfl, hfz, hnd⟩ := hW
  have hA : DataW.TrodAll enc Yba.prog W 0 (fun _ => true) true Yba.f3.params.toList args.toList ds p := hA0
  rw [Yba.params3] at hA hval
  obtain ⟨v0, vs0, d0, ds0, p0, q0, hargs, rfl, rfl, h0, r0⟩ := trodAll_cons hA
  obtain ⟨v1, vs1, d1, ds1, p1, q1, rfl, rfl, rfl, h1, r1⟩ := trodAll_cons r0
  obtain ⟨v2, vs2, d2, ds2, p2, q2, rfl, rfl, rfl, h2, r2⟩ := trodAll_cons r1
  obtain ⟨v3, vs3, d3, ds3, p3, q3, rfl, rfl, rfl, h3, r3⟩ := trodAll_cons r2
  obtain ⟨v4, vs4, d4, ds4, p4, q4, rfl, rfl, rfl, h4, r4⟩ := trodAll_cons r3
  obtain ⟨rfl, rfl, rfl⟩ := trodAll_nil r4
  obtain rfl : args = #[v0, v1, v2, v3, v4] := by cases args; simp_all
  obtain ⟨rfl, rfl⟩ := trodVars_none hV
  have lt0 : ∀ x ∈ p0, x.block < W.heap.size := by obtain ⟨m, hm⟩ := h0; exact DataW.trod_lt m _ _ _ hm
  have lt1 : ∀ x ∈ p1, x.block < W.heap.size := by obtain ⟨m, hm⟩ := h1; exact DataW.trod_lt m _ _ _ hm
  have lt2 : ∀ x ∈ p2, x.block < W.heap.size := by obtain ⟨m, hm⟩ := h2; exact DataW.trod_lt m _ _ _ hm
  have lt3 : ∀ x ∈ p3, x.block < W.heap.size := by obtain ⟨m, hm⟩ := h3; exact DataW.trod_lt m _ _ _ hm
  have lt4 : ∀ x ∈ p4, x.block < W.heap.size := by obtain ⟨m, hm⟩ := h4; exact DataW.trod_lt m _ _ _ hm
  obtain ⟨z, rfl, _, _, hz⟩ := open_int Yba.underlying5 (hval 0 5 v0 rfl rfl) h0
  obtain ⟨a1, len1, cap1, rfl⟩ := okWide_slice Yba.underlying22 (hval 1 22 v1 rfl rfl)
  obtain ⟨a2, len2, cap2, rfl⟩ := okWide_slice Yba.underlying23 (hval 2 23 v2 rfl rfl)
  obtain ⟨a3, len3, cap3, rfl⟩ := okWide_slice Yba.underlying24 (hval 3 24 v3 rfl rfl)
  obtain ⟨hb, rfl⟩ := okWide_bool Yba.underlying4 (hval 4 4 v4 rfl rfl)
  obtain ⟨hcn, A, L, C, hE, hEl⟩ := elems_of h1
  obtain ⟨F, hS⟩ := floats_of h2
  obtain ⟨Z, hX⟩ := ints_of h3
  obtain ⟨s, rfl, hs⟩ : ∃ s : Nat, z = (s : Int) ∧ s < 256 := by
    simp [Lit.wf, IntKind.min, IntKind.max, IntKind.bits, IntKind.signed] at hz
    exact ⟨z.toNat, by omega, by omega⟩
  clear hA0 hval0
  refine (law_any s len1 cap1 len2 cap2 len3 cap3 a1 a2 a3 hb A L C F Z W hs hcn hE hS hX hEl).mono fun e W' ⟨he, bel⟩ => ?_
  subst he
  exact ⟨_, rfl, _, _, _, [], _, [], hW', trodAll_mk1 (shut_bool Yba.underlying4 _),
    (trodAll_cons_mk (Below.trod laidOut (by kernel_rfl) (of_decide_eq_true (by kernel_rfl)) h0 bel lt0)
    (trodAll_cons_mk (Below.trod laidOut (by kernel_rfl) (of_decide_eq_true (by kernel_rfl)) h1 bel lt1)
    (trodAll_cons_mk (Below.trod laidOut (by kernel_rfl) (of_decide_eq_true (by kernel_rfl)) h2 bel lt2)
    (trodAll_cons_mk (Below.trod laidOut (by kernel_rfl) (of_decide_eq_true (by kernel_rfl)) h3 bel lt3)
    (trodAll_cons_mk (Below.trod laidOut (by kernel_rfl) (of_decide_eq_true (by kernel_rfl)) h4 bel lt4) trodAll_mk0))))), rfl, bel.frame _, fun h => by cases h⟩

theorem over : Rows.lawS0675BTakeAllRow.holds Yba.pinned (OpenSpec.ofChange Rows.lawS0675BTakeAllSpec) :=
  OpenClaim.holds_of_wide 3 Yba.f3 rfl rfl rfl rfl rfl rfl rfl ⟨rfl, rfl, rfl, rfl, rfl⟩ rfl rfl rfl rfl rfl (by kernel_rfl) Yba.func3 (by kernel_rfl)
    (of_decide_eq_true (by kernel_rfl)) (by unfold Func.isWrapper; first | (rw [if_pos (by decide +kernel)]; kernel_rfl) | (rw [if_neg (by decide +kernel)]; exact ⟨rfl, rfl⟩))
    (fun os started H enc _ => lifted os started H enc)
end Go.Proofs.Ybulkmym.lawS0675BTakeAll
namespace Go.Proofs.Ybulkmym
/-- THE STATEMENT. -/
theorem takeAll_proved : Rows.LawS0675BTakeAllSaid := lawS0675BTakeAll.over
end Go.Proofs.Ybulkmym
