/- Plain laws: what an idmap's array and its map give for a key, behind each of Put's ways. No Go in sight. -/
import Derived.Test.YbulkmrmPlain
namespace Go.Proofs.Ybulkmrm

/-- What Get finds. -/
def look (pl : Nat → Pl) (L : Nat) (g : Nat → Option Nat) (k : Nat) : Option Nat :=
  if (pl (k % L)).used = true ∧ (pl (k % L)).id = k then some (pl (k % L)).v
  else if 0 < (pl (k % L)).sp then g k else none

def upd (f : Nat → Option Nat) (id v : Nat) (k : Nat) : Option Nat := if k = id then some v else f k

structure Arr (L cnt : Nat) (pl : Nat → Pl) (g : Nat → Option Nat) : Prop where
  pow : ∃ e, L = 2 ^ e ∧ e ≤ 10
  fit : ∀ i, i < L → (pl i).used = true → (pl i).id % L = i
  idr : ∀ i, i < L → (pl i).id < 18446744073709551616
  nsp : ∀ i, i < L → (pl i).used = false → (pl i).sp = 0
  small : L < 1024 → ∀ i, i < L → (pl i).sp = 0
  gsp : ∀ k, g k ≠ none → 0 < (pl (k % L)).sp
  cnt : ∀ i, i < L → (pl i).sp ≤ cnt

theorem Arr.pos {L cnt : Nat} {pl : Nat → Pl} {g : Nat → Option Nat} (h : Arr L cnt pl g) : 0 < L := by
  obtain ⟨e, he, _⟩ := h.pow
  rw [he]
  exact Nat.pow_pos (by omega)

theorem Arr.mono {L cnt cnt' : Nat} {pl : Nat → Pl} {g : Nat → Option Nat} (h : Arr L cnt pl g) (hc : cnt ≤ cnt') : Arr L cnt' pl g :=
  ⟨h.pow, h.fit, h.idr, h.nsp, h.small, h.gsp, fun i hi => Nat.le_trans (h.cnt i hi) hc⟩

theorem arr_zero : Arr 16 0 (fun _ => Pl.zero) (fun _ => none) :=
  ⟨⟨4, rfl, by omega⟩, fun _ _ h => by simp [Pl.zero] at h, fun _ _ => by simp [Pl.zero], fun _ _ _ => rfl, fun _ _ _ => rfl, fun _ h => absurd rfl h, fun _ _ => Nat.le_refl _⟩

theorem look_zero (L k : Nat) (g : Nat → Option Nat) : look (fun _ => Pl.zero) L g k = none := by simp [look, Pl.zero]

/-! ### grow -/
theorem growing_at (pl : Nat → Pl) (L j : Nat) (hL : 0 < L) :
    growing pl L L j = if (pl (j % L)).used = true ∧ (pl (j % L)).id % (2 * L) = j then pl (j % L) else Pl.zero := by
  simp [growing, Nat.mod_lt _ hL]

theorem arr_grow {L cnt : Nat} {pl : Nat → Pl} {g : Nat → Option Nat} (h : Arr L cnt pl g) (hL : L < 1024) : Arr (2 * L) cnt (growing pl L L) g ∧ ∀ i, i < 2 * L → (growing pl L L i).sp = 0 := by
  have hp := h.pos
  have hs : ∀ j, (growing pl L L j).sp = 0 := by
    intro j
    rw [growing_at _ _ _ hp]
    split
    · exact h.small hL _ (Nat.mod_lt _ hp)
    · rfl
  refine ⟨⟨?_, ?_, ?_, fun i _ _ => hs i, fun _ i _ => hs i, ?_, fun i _ => by rw [hs i]; omega⟩, fun i _ => hs i⟩
  · obtain ⟨e, he, h10⟩ := h.pow
    refine ⟨e + 1, by rw [Nat.pow_succ', he], ?_⟩
    by_cases h' : e ≤ 9
    · omega
    · have : e = 10 := by omega
      subst this
      omega
  · intro i _ hu
    rw [growing_at _ _ _ hp] at hu ⊢
    split at hu
    · rename_i hc
      rw [if_pos hc]
      exact hc.2
    · simp [Pl.zero] at hu
  · intro i _
    rw [growing_at _ _ _ hp]
    split
    · exact h.idr _ (Nat.mod_lt _ hp)
    · simp [Pl.zero]
  · intro k hk
    have := h.gsp k hk
    rw [h.small hL _ (Nat.mod_lt _ hp)] at this
    omega

theorem look_grow {L cnt : Nat} {pl : Nat → Pl} {g : Nat → Option Nat} (h : Arr L cnt pl g) (hL : L < 1024) (k : Nat) : look (growing pl L L) (2 * L) g k = look pl L g k := by
  have hp := h.pos
  have hm : k % (2 * L) % L = k % L := Nat.mod_mul_left_mod _ _ _
  have hs := h.small hL (k % L) (Nat.mod_lt _ hp)
  unfold look
  rw [growing_at _ _ _ hp, hm]
  by_cases hu : (pl (k % L)).used = true
  · by_cases he : (pl (k % L)).id = k
    · have c : (pl (k % L)).used = true ∧ (pl (k % L)).id % (2 * L) = k % (2 * L) := ⟨hu, by rw [he]⟩
      rw [if_pos c]
    · rw [if_neg (c := (pl (k % L)).used = true ∧ (pl (k % L)).id = k) (fun x => he x.2), if_neg (c := 0 < (pl (k % L)).sp) (by omega)]
      split
      · rw [if_neg (fun x => he x.2), if_neg (by omega)]
      · simp [Pl.zero]
  · rw [if_neg (c := (pl (k % L)).used = true ∧ (pl (k % L)).id % (2 * L) = k % (2 * L)) (fun x => hu x.1), if_neg (c := (pl (k % L)).used = true ∧ (pl (k % L)).id = k) (fun x => hu x.1), if_neg (c := 0 < (pl (k % L)).sp) (by omega)]
    simp [Pl.zero]

/-! ### the four ways of Put's end -/
/-- The place holds the id already. -/
theorem put_hit {L cnt : Nat} {pl : Nat → Pl} {g : Nat → Option Nat} (h : Arr L cnt pl g) (id v : Nat) (hu : (pl (id % L)).used = true) (hi : (pl (id % L)).id = id) :
    Arr L cnt (setPl pl (id % L) { pl (id % L) with v := v }) g ∧ ∀ k, look (setPl pl (id % L) { pl (id % L) with v := v }) L g k = upd (look pl L g) id v k := by
  have e : ∀ i, (setPl pl (id % L) { pl (id % L) with v := v } i).id = (pl i).id ∧ (setPl pl (id % L) { pl (id % L) with v := v } i).used = (pl i).used ∧ (setPl pl (id % L) { pl (id % L) with v := v } i).sp = (pl i).sp := by
    intro i
    unfold setPl
    split
    · rename_i hx; subst hx; simp
    · simp
  refine ⟨⟨h.pow, fun i hL hx => ?_, fun i hL => ?_, fun i hL hx => ?_, fun a i hL => ?_, fun k hk => ?_, fun i hL => ?_⟩, fun k => ?_⟩
  · rw [(e i).1]; rw [(e i).2.1] at hx; exact h.fit i hL hx
  · rw [(e i).1]; exact h.idr i hL
  · rw [(e i).2.2]; rw [(e i).2.1] at hx; exact h.nsp i hL hx
  · rw [(e i).2.2]; exact h.small a i hL
  · rw [(e _).2.2]; exact h.gsp k hk
  · rw [(e i).2.2]; exact h.cnt i hL
  · simp only [look, upd]
    rw [(e _).1, (e _).2.1, (e _).2.2]
    by_cases hk : k = id
    · subst hk
      simp [hu, hi, setPl]
    · rw [if_neg hk]
      by_cases hc : (pl (k % L)).used = true ∧ (pl (k % L)).id = k
      · rw [if_pos hc, if_pos hc]
        have : k % L ≠ id % L := fun x => hk (by rw [← hc.2, x, hi])
        simp [setPl, this]
      · rw [if_neg hc, if_neg hc]

/-- The map holds the id already. -/
theorem put_more {L cnt : Nat} {pl : Nat → Pl} {g : Nat → Option Nat} (h : Arr L cnt pl g) (id v : Nat) (hi : (pl (id % L)).id ≠ id) (hs : 0 < (pl (id % L)).sp) :
    Arr L cnt pl (upd g id v) ∧ ∀ k, look pl L (upd g id v) k = upd (look pl L g) id v k := by
  refine ⟨⟨h.pow, h.fit, h.idr, h.nsp, h.small, fun k hk => ?_, h.cnt⟩, fun k => ?_⟩
  · by_cases e : k = id
    · rw [e]; exact hs
    · simp [upd, e] at hk
      exact h.gsp k hk
  · simp only [look, upd]
    by_cases e : k = id
    · subst e; simp [hi, hs]
    · simp [e]

/-- The place is free. -/
theorem put_free {L cnt : Nat} {pl : Nat → Pl} {g : Nat → Option Nat} (h : Arr L cnt pl g) (id v : Nat) (hid : id < 18446744073709551616) (hu : (pl (id % L)).used = false) :
    Arr L cnt (setPl pl (id % L) { id := id, v := v, used := true, sp := 0 }) g ∧ ∀ k, look (setPl pl (id % L) { id := id, v := v, used := true, sp := 0 }) L g k = upd (look pl L g) id v k := by
  have hp := h.pos
  have hs := h.nsp _ (Nat.mod_lt _ hp) hu
  have e : ∀ i, (setPl pl (id % L) { id := id, v := v, used := true, sp := 0 } i).sp = (pl i).sp := by
    intro i
    unfold setPl
    split
    · rename_i hx; subst hx; exact hs.symm
    · rfl
  refine ⟨⟨h.pow, fun i hL hx => ?_, fun i hL => ?_, fun i hL hx => ?_, fun a i hL => ?_, fun k hk => ?_, fun i hL => ?_⟩, fun k => ?_⟩
  · unfold setPl at hx ⊢
    split
    · rename_i hy; simp [hy]
    · rename_i hy; rw [if_neg hy] at hx; exact h.fit i hL hx
  · unfold setPl
    split
    · exact hid
    · exact h.idr i hL
  · rw [e]
    by_cases hy : i = id % L
    · simp [setPl, hy] at hx
    · simp only [setPl, if_neg hy] at hx; exact h.nsp i hL hx
  · rw [e]; exact h.small a i hL
  · rw [e]; exact h.gsp k hk
  · rw [e]; exact h.cnt i hL
  · simp only [look, upd]
    rw [e]
    by_cases hk : k = id
    · subst hk; simp [setPl]
    · rw [if_neg hk]
      by_cases hm : k % L = id % L
      · have hk' : ¬ id = k := fun x => hk x.symm
        simp [setPl, hm, hk', hs, hu]
      · simp [setPl, hm]

/-- The place is another's, and the array has its most. -/
theorem put_spill {L cnt : Nat} {pl : Nat → Pl} {g : Nat → Option Nat} (h : Arr L cnt pl g) (hL : L = 1024) (id v : Nat) (hu : (pl (id % L)).used = true) (hi : (pl (id % L)).id ≠ id) :
    Arr L (cnt + 1) (setPl pl (id % L) { pl (id % L) with sp := (pl (id % L)).sp + 1 }) (upd g id v) ∧ ∀ k, look (setPl pl (id % L) { pl (id % L) with sp := (pl (id % L)).sp + 1 }) L (upd g id v) k = upd (look pl L g) id v k := by
  have hp := h.pos
  have e : ∀ i, (setPl pl (id % L) { pl (id % L) with sp := (pl (id % L)).sp + 1 } i).id = (pl i).id ∧ (setPl pl (id % L) { pl (id % L) with sp := (pl (id % L)).sp + 1 } i).used = (pl i).used ∧ (setPl pl (id % L) { pl (id % L) with sp := (pl (id % L)).sp + 1 } i).v = (pl i).v ∧ (setPl pl (id % L) { pl (id % L) with sp := (pl (id % L)).sp + 1 } i).sp = if i = id % L then (pl i).sp + 1 else (pl i).sp := by
    intro i
    unfold setPl
    split
    · rename_i hx; subst hx; simp
    · simp
  refine ⟨⟨h.pow, fun i hL hx => ?_, fun i hL => ?_, fun i hL hx => ?_, fun a i hL' => by omega, fun k hk => ?_, fun i hL => ?_⟩, fun k => ?_⟩
  · rw [(e i).1]; rw [(e i).2.1] at hx; exact h.fit i hL hx
  · rw [(e i).1]; exact h.idr i hL
  · rw [(e i).2.1] at hx
    rw [(e i).2.2.2, if_neg (fun x => by rw [x, hu] at hx; cases hx)]
    exact h.nsp i hL hx
  · rw [(e _).2.2.2]
    by_cases hm : k % L = id % L
    · rw [if_pos hm]; omega
    · rw [if_neg hm]
      have : k ≠ id := fun x => hm (by rw [x])
      simp [upd, this] at hk
      exact h.gsp k hk
  · rw [(e i).2.2.2]
    have := h.cnt i hL
    split <;> omega
  · simp only [look, upd]
    rw [(e _).1, (e _).2.1, (e _).2.2.1, (e _).2.2.2]
    by_cases hk : k = id
    · subst hk; simp [hi]
    · rw [if_neg hk, if_neg hk]
      by_cases hm : k % L = id % L
      · rw [if_pos hm]
        by_cases hc : (pl (k % L)).used = true ∧ (pl (k % L)).id = k
        · rw [if_pos hc, if_pos hc]
        · rw [if_neg hc, if_neg hc, if_pos (by omega)]
          by_cases hs : 0 < (pl (k % L)).sp
          · rw [if_pos hs]
          · rw [if_neg hs]
            cases hg : g k with
            | none => rfl
            | some y => exact absurd (h.gsp k (by rw [hg]; simp)) hs
      · rw [if_neg hm]
end Go.Proofs.Ybulkmrm
