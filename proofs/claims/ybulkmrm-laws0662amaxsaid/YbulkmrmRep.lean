/- What an idmap.Map[uint64] in the field 'taken' of a followedProcs holds, in memory; Get by it. -/
import Derived.Test.YbulkmrmLook
import Derived.Test.YbulkmrmGrow
namespace Go.Proofs.Ybulkmrm
open Go.RowKit Go.Maps Go.Deep

def hdr (P M N : Value) (k : Nat) : Value :=
  if k = 4 then P else if k = 5 then M else if k = 6 then N else if k = 0 then .pointer none else if k = 1 then .slice none 0 0 else if k = 2 then .map none else .int .i64 0

theorem hdr_set4 (P M N P' : Value) (j : Nat) : (if j = 4 then P' else hdr P M N j) = hdr P' M N j := by
  simp only [hdr]; split <;> rfl
theorem hdr_set5 (P M N M' : Value) (j : Nat) : (if j = 5 then M' else hdr P M N j) = hdr P M' N j := by
  simp only [hdr]
  by_cases h : j = 5
  · subst h; simp
  · simp [h]
theorem hdr_set6 (P M N N' : Value) (j : Nat) : (if j = 6 then N' else hdr P M N j) = hdr P M N' j := by
  simp only [hdr]
  by_cases h : j = 6
  · subst h; simp
  · simp [h]

def key (k : Nat) : Lit := .int .u64 k

def More (w : World) (S : Nat → Prop) (cnt : Nat) (M : Value) (g : Nat → Option Nat) : Prop :=
  (M = .map none ∧ ∀ k, g k = none) ∨ ∃ mb D, M = .map (some mb) ∧ S mb ∧ Own w mb cnt D ∧
    ∀ k, k < 18446744073709551616 → Maps.has D (key k) = (g k).isSome ∧ D.atKey (key k) (.lit (.int .u64 0)) = .lit (.int .u64 ((g k).getD 0 : Nat))

structure PS (w : World) (b cnt : Nat) (f : Nat → Option Nat) (S : Nat → Prop) (pb L : Nat) (pl : Nat → Pl) (M : Value) (N : Int) (g : Nat → Option Nat) : Prop where
  hd : w.rowIs b 35 7 (hdr (.slice (some ⟨pb, 0, none⟩) L L) M (.int .i64 N))
  row : w.rowIs pb 96 (L * 4) (flat pl)
  spb : S pb
  more : More w S cnt M g
  arr : Arr L cnt pl g
  msp : M = .map none → ∀ i, i < L → (pl i).sp = 0
  val : ∀ k, f k = look pl L g k

def Rep (w : World) (b cnt : Nat) (f : Nat → Option Nat) (S : Nat → Prop) : Prop :=
  (∃ N, w.rowIs b 35 7 (hdr (.slice none 0 0) (.map none) (.int .i64 N)) ∧ ∀ k, f k = none) ∨
  ∃ pb L pl M N g, PS w b cnt f S pb L pl M N g

/-- Two rows of two types are two blocks. -/
theorem row_ne {w : World} {b b' : Nat} {t t' : TypeId} {n n' : Nat} {f f' : Nat → Value} (h : w.rowIs b t n f) (h' : w.rowIs b' t' n' f') (ht : t ≠ t') : b ≠ b' := by
  rintro rfl
  obtain ⟨c, hc, _⟩ := h
  obtain ⟨c', hc', _⟩ := h'
  rw [hc] at hc'
  simp at hc'
  exact ht hc'.2

theorem own_ne {w : World} {b mb : Nat} {t : TypeId} {n m : Nat} {f : Nat → Value} {D : DataW Unit} (h : w.rowIs b t n f) (h' : Own w mb m D) : b ≠ mb := by
  rintro rfl
  obtain ⟨c, hc, _⟩ := h
  obtain ⟨es, cl, hb, _⟩ := h'
  rw [hc] at hb
  simp at hb

theorem get_rep (b cnt id : Nat) (f : Nat → Option Nat) (S : Nat → Prop) (w : World) (h : Rep w b cnt f S) (hid : id < 18446744073709551616) :
    Calls Yba.prog 7 #[.pointer (some ⟨b, 4, none⟩), .int .u64 id] w fun e w' => e = .returned (.tuple #[.int .u64 ((f id).getD 0 : Nat), .bool (f id).isSome]) ∧ ∃ n, w' = w.drewN n := by
  rcases h with ⟨N, hd, hf⟩ | ⟨pb, L, pl, M, N, g, h⟩
  · refine (get_nil b 4 id w (hd.cell (by omega))).mono ?_
    rintro e w' ⟨rfl, n, rfl⟩
    simp [hf]
    exact ⟨n, rfl⟩
  · have hp := h.arr.pos
    obtain ⟨e, he, h10⟩ := h.arr.pow
    have hm : id % L < L := Nat.mod_lt _ hp
    have hc := h.hd.cell (i := 4) (by omega)
    have hc5 := h.hd.cell (i := 5) (by omega)
    have c0 := h.row.cell (i := (id % L) * 4) (by omega)
    have c1 := h.row.cell (i := (id % L) * 4 + 1) (by omega)
    have c2 := h.row.cell (i := (id % L) * 4 + 2) (by omega)
    have c3 := h.row.cell (i := (id % L) * 4 + 3) (by omega)
    rw [flat0] at c0
    rw [flat1] at c1
    rw [flat2] at c2
    rw [flat3] at c3
    rw [h.val id]
    simp only [look]
    by_cases hh : (pl (id % L)).used = true ∧ (pl (id % L)).id = id
    · rw [if_pos hh]
      rw [hh.2] at c0
      rw [hh.1] at c2
      exact get_hit b 4 pb L e id _ w he h10 hid hc c0 c1 c2
    · rw [if_neg hh]
      by_cases hs : 0 < (pl (id % L)).sp
      · rw [if_pos hs]
        have hu : (pl (id % L)).used = true := by
          cases hx : (pl (id % L)).used with
          | true => rfl
          | false => have := h.arr.nsp _ hm hx; omega
        rw [hu] at c2
        rcases h.more with ⟨hM, _⟩ | ⟨mb, D, hM, _, hown, hD⟩
        · have := h.msp hM _ hm; omega
        · subst hM
          refine (get_more b 4 pb L e id _ _ mb cnt D w he h10 hid hc hc5 c0 c2 c3 (fun x => hh ⟨hu, x⟩) hs hown).mono ?_
          rintro e w' ⟨⟨c, rfl, hat⟩, hn⟩
          obtain ⟨d1, d2⟩ := hD id hid
          rw [show (Lit.int .u64 (id : Int)) = key id from rfl] at *
          rw [d2] at hat
          simp only [DataW.lit.injEq, Lit.int.injEq, true_and] at hat
          rw [d1, ← hat]
          exact ⟨rfl, hn⟩
      · rw [if_neg hs]
        have hs0 : (pl (id % L)).sp = 0 := by omega
        rw [hs0] at c3
        exact get_none b 4 pb L e id _ _ w he h10 hid hc c0 c2 c3 (fun hu x => hh ⟨hu, x⟩)
end Go.Proofs.Ybulkmrm
