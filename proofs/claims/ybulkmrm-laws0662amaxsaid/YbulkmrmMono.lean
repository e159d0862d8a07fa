/- LawS0662AMonotone, walked. -/
import Derived.Test.YbulkmrmPutN
namespace Go.Proofs.Ybulkmrm
open Go.RowKit Go.Maps Go.Deep

theorem Rep.alloc {w : World} {b cnt : Nat} {f : Nat → Option Nat} {S : Nat → Prop} (h : Rep w b cnt f S) (o : Obj) : Rep (w.alloc o) b cnt f S := by
  rcases h with ⟨N, h, hf⟩ | ⟨pb, L, pl, M, N, g, h⟩
  · exact Or.inl ⟨N, h.alloc o, hf⟩
  · exact Or.inr ⟨pb, L, pl, M, N, g, h.hd.alloc o, h.row.alloc o, h.spb, h.more.kept (fun _ x => x) (fun mb D _ ho => Below.heap_alloc _ _ _ ho.lt), h.arr, h.msp, h.val⟩

theorem rep_new (w : World) (S : Nat → Prop) : Rep (w.alloc (.cells #[.pointer none, .slice none 0 0, .map none, .int .i64 0, .slice none 0 0, .map none, .int .i64 0] 35)) w.heap.size 0 (fun _ => none) S := by
  refine Or.inl ⟨0, ⟨_, blk_alloc_new _ _, rfl, fun i hi => ?_⟩, fun _ => rfl⟩
  have : i = 0 ∨ i = 1 ∨ i = 2 ∨ i = 3 ∨ i = 4 ∨ i = 5 ∨ i = 6 := by omega
  rcases this with h | h | h | h | h | h | h <;> subst h <;> rfl

theorem Below.turned {B : Nat} {w w' w'' : World} {S : Nat → Prop} (h : Below B w w') (ht : Turned w' w'' B S) (hS : ∀ k, S k → B < k) (hB : B ≤ w'.heap.size) : Below B w w'' :=
  h.trans ⟨ht.os, ht.tape, ht.output, ht.size, fun k hk => ht.block k (by omega) (by omega) (fun x => by have := hS k x; omega)⟩

theorem Rep.lt {w : World} {b cnt : Nat} {f : Nat → Option Nat} {S : Nat → Prop} (h : Rep w b cnt f S) : b < w.heap.size := by
  rcases h with ⟨N, h, hf⟩ | ⟨pb, L, pl, M, N, g, h⟩
  · exact h.lt
  · exact h.hd.lt

theorem fresh_lt {w w' : World} {S S' : Nat → Prop} {B : Nat} (hS : ∀ k, S k → B < k) (hf : Fresh w w' S S') (hB : B < w.heap.size) : ∀ k, S' k → B < k := by
  intro k hk
  rcases hf k hk with x | x
  · exact hS k x
  · omega

/-- What 'taken' holds behind the first k steps. -/
def runF (P Q : Nat → Nat) : Nat → Nat → Option Nat
  | 0 => fun _ => none
  | k + 1 => tookF (runF P Q k) (P k) (Q k)

set_option maxRecDepth 100000 in
set_option maxHeartbeats 1000000 in
theorem mono_some (sb so len cap p place : Nat) (P Q : Nat → Nat) (w : World) (hl : len ≤ 1024) (hP : ∀ i, i < len → P i < 18446744073709551616) (hQ : ∀ i, i < len → Q i < 18446744073709551616) (hp : p < 18446744073709551616) (hpl : place < 18446744073709551616)
    (hc0 : ∀ i, i < len → w.cell? ⟨sb, so + i * 2, none⟩ = some (.int .u64 (P i))) (hc1 : ∀ i, i < len → w.cell? ⟨sb, so + i * 2 + 1, none⟩ = some (.int .u64 (Q i))) (hsb : sb < w.heap.size) :
    Calls Yba.prog 4 #[.slice (some ⟨sb, so, none⟩) len cap, .int .u64 p, .int .u64 place] w fun e w' => e = .returned (.bool true) ∧ Below w.heap.size w w' := by
  have hc0' := hide hc0
  have hc1' := hide hc1
  have hP' := hide hP
  have hQ' := hide hQ
  clear hc0 hc1 hP hQ
  go_enter Yba.func4, Yba.ntmps4
  go_wp2_with fail
  go_loopw [22] (fun i wr => ∃ k : Nat, k ≤ len ∧ i = .int .i64 k ∧ ∃ S, Rep wr w.heap.size k (runF P Q k) S ∧ (∀ j, S j → w.heap.size < j) ∧ Below w.heap.size w wr) (fun i _ => len - (intOf i).toNat)
  case atStart => exact ⟨0, by omega, rfl, fun _ => False, rep_new w _, fun _ h => h.elim, (Below.refl _ _).alloc (Nat.le_refl _) _⟩
  case round =>
    obtain ⟨k, hk, rfl, S, hrep, hS, hbel⟩ := hrel
    have hwl := hrep.lt
    by_cases hlt : k < len
    · have q0 : wr.cell? ⟨sb, so + k * 2, none⟩ = some (.int .u64 (P k)) := (hbel.cell hsb).trans (unhide hc0' k hlt)
      have q1 : wr.cell? ⟨sb, so + k * 2 + 1, none⟩ = some (.int .u64 (Q k)) := (hbel.cell hsb).trans (unhide hc1' k hlt)
      have htk := hide (took_rep w.heap.size k (P k) (Q k) (runF P Q k) S _ (hrep.alloc (.cells #[.int .u64 (P k), .int .u64 (Q k)] 38)) (unhide hP' k hlt) (unhide hQ' k hlt) (by omega))
      go_wp2_with fail
      refine (unhide htk).mono ?_
      rintro e w2 ⟨rfl, S2, hr2, ht2, hf2⟩
      go_wp2_with fail
      go_roundw
      case rel => exact ⟨k + 1, by omega, by go_num, S2, hr2, fresh_lt hS hf2 (by simp; omega), Below.turned (hbel.alloc (by omega) _) ht2 hS (by simp; omega)⟩
      case measure => simp [intOf]; omega
    · have : k = len := by omega
      subst this
      generalize HF : runF P Q k = f at hrep
      clear HF
      have hg1 := hide (get_rep w.heap.size k p f S wr hrep hp)
      have htk := hide (fun n => took_rep w.heap.size k p place f S (wr.drewN n) (hrep.drewN n) hp hpl (by omega))
      cases hfp : f p with
      | none =>
        have htF : tookF f p place p = some place := by simp [tookF, hfp, upd]
        rw [hfp] at hg1
        clear hfp
        go_wp2_with fail
        refine (unhide hg1).mono ?_
        rintro e w1 ⟨rfl, n, rfl⟩
        go_wp2_with fail
        refine (unhide htk n).mono ?_
        rintro e w2 ⟨rfl, S2, hr2, ht2, hf2⟩
        have hg2 := hide (get_rep w.heap.size (k + 1) p _ S2 w2 hr2 hp)
        rw [htF] at hg2
        clear htF
        go_wp2_with fail
        refine (unhide hg2).mono ?_
        rintro e w3 ⟨rfl, n3, rfl⟩
        go_wp2_with fail
        go_ret
        exact ⟨by simp, below_drewN (Below.turned (below_drewN hbel n) ht2 hS (by simp; omega)) n3⟩
      | some y =>
        have htF : tookF f p place p = some (if y < place then place else y) := by
          simp only [tookF, hfp]
          split <;> simp [upd, hfp]
        rw [hfp] at hg1
        clear hfp
        rcases Nat.lt_trichotomy y place with hy | hy | hy
        · rw [if_pos hy] at htF
          have hyi : (y : Int) < (place : Int) := by omega
          go_wp2_with fail
          refine (unhide hg1).mono ?_
          rintro e w1 ⟨rfl, n, rfl⟩
          go_wp2_with fail
          refine (unhide htk n).mono ?_
          rintro e w2 ⟨rfl, S2, hr2, ht2, hf2⟩
          have hg2 := hide (get_rep w.heap.size (k + 1) p _ S2 w2 hr2 hp)
          rw [htF] at hg2
          clear htF
          go_wp2_with fail
          refine (unhide hg2).mono ?_
          rintro e w3 ⟨rfl, n3, rfl⟩
          go_wp2_with fail
          go_ret
          exact ⟨by simp, below_drewN (Below.turned (below_drewN hbel n) ht2 hS (by simp; omega)) n3⟩
        · subst hy
          rw [if_neg (by omega)] at htF
          go_wp2_with fail
          refine (unhide hg1).mono ?_
          rintro e w1 ⟨rfl, n, rfl⟩
          go_wp2_with fail
          refine (unhide htk n).mono ?_
          rintro e w2 ⟨rfl, S2, hr2, ht2, hf2⟩
          have hg2 := hide (get_rep w.heap.size (k + 1) p _ S2 w2 hr2 hp)
          rw [htF] at hg2
          clear htF
          go_wp2_with fail
          refine (unhide hg2).mono ?_
          rintro e w3 ⟨rfl, n3, rfl⟩
          go_wp2_with fail
          go_ret
          exact ⟨by simp, below_drewN (Below.turned (below_drewN hbel n) ht2 hS (by simp; omega)) n3⟩
        · rw [if_neg (by omega)] at htF
          have hyi : (place : Int) < (y : Int) := by omega
          go_wp2_with fail
          refine (unhide hg1).mono ?_
          rintro e w1 ⟨rfl, n, rfl⟩
          go_wp2_with fail
          refine (unhide htk n).mono ?_
          rintro e w2 ⟨rfl, S2, hr2, ht2, hf2⟩
          have hg2 := hide (get_rep w.heap.size (k + 1) p _ S2 w2 hr2 hp)
          rw [htF] at hg2
          clear htF
          go_wp2_with fail
          refine (unhide hg2).mono ?_
          rintro e w3 ⟨rfl, n3, rfl⟩
          go_wp2_with fail
          go_ret
          exact ⟨by simp, below_drewN (Below.turned (below_drewN hbel n) ht2 hS (by simp; omega)) n3⟩

set_option maxRecDepth 100000 in
set_option maxHeartbeats 1000000 in
theorem mono_empty (a : Option Addr) (cap p place : Nat) (w : World) (hp : p < 18446744073709551616) (hpl : place < 18446744073709551616) :
    Calls Yba.prog 4 #[.slice a 0 cap, .int .u64 p, .int .u64 place] w fun e w' => e = .returned (.bool true) ∧ Below w.heap.size w w' := by
  go_enter Yba.func4, Yba.ntmps4
  go_wp2_with fail
  go_loopw [22] (fun i wr => i = .int .i64 0 ∧ ∃ f S, Rep wr w.heap.size 0 f S ∧ (∀ j, S j → w.heap.size < j) ∧ Below w.heap.size w wr) (fun i _ => 0)
  case atStart => exact ⟨rfl, _, fun _ => False, rep_new w _, fun _ h => h.elim, (Below.refl _ _).alloc (Nat.le_refl _) _⟩
  case round =>
    obtain ⟨rfl, f, S, hrep, hS, hbel⟩ := hrel
    have hwl := hrep.lt
    have hg1 := hide (get_rep w.heap.size 0 p f S wr hrep hp)
    have htk := hide (fun n => took_rep w.heap.size 0 p place f S (wr.drewN n) (hrep.drewN n) hp hpl (by omega))
    cases hfp : f p with
    | none =>
      have htF : tookF f p place p = some place := by simp [tookF, hfp, upd]
      rw [hfp] at hg1
      clear hfp
      go_wp2_with fail
      refine (unhide hg1).mono ?_
      rintro e w1 ⟨rfl, n, rfl⟩
      go_wp2_with fail
      refine (unhide htk n).mono ?_
      rintro e w2 ⟨rfl, S2, hr2, ht2, hf2⟩
      have hg2 := hide (get_rep w.heap.size (0 + 1) p _ S2 w2 hr2 hp)
      rw [htF] at hg2
      clear htF
      go_wp2_with fail
      refine (unhide hg2).mono ?_
      rintro e w3 ⟨rfl, n3, rfl⟩
      go_wp2_with fail
      go_ret
      exact ⟨by simp, below_drewN (Below.turned (below_drewN hbel n) ht2 hS (by simp; omega)) n3⟩
    | some y =>
      have htF : tookF f p place p = some (if y < place then place else y) := by
        simp only [tookF, hfp]
        split <;> simp [upd, hfp]
      rw [hfp] at hg1
      clear hfp
      rcases Nat.lt_trichotomy y place with hy | hy | hy
      · rw [if_pos hy] at htF
        have hyi : (y : Int) < (place : Int) := by omega
        go_wp2_with fail
        refine (unhide hg1).mono ?_
        rintro e w1 ⟨rfl, n, rfl⟩
        go_wp2_with fail
        refine (unhide htk n).mono ?_
        rintro e w2 ⟨rfl, S2, hr2, ht2, hf2⟩
        have hg2 := hide (get_rep w.heap.size (0 + 1) p _ S2 w2 hr2 hp)
        rw [htF] at hg2
        clear htF
        go_wp2_with fail
        refine (unhide hg2).mono ?_
        rintro e w3 ⟨rfl, n3, rfl⟩
        go_wp2_with fail
        go_ret
        exact ⟨by simp, below_drewN (Below.turned (below_drewN hbel n) ht2 hS (by simp; omega)) n3⟩
      · subst hy
        rw [if_neg (by omega)] at htF
        go_wp2_with fail
        refine (unhide hg1).mono ?_
        rintro e w1 ⟨rfl, n, rfl⟩
        go_wp2_with fail
        refine (unhide htk n).mono ?_
        rintro e w2 ⟨rfl, S2, hr2, ht2, hf2⟩
        have hg2 := hide (get_rep w.heap.size (0 + 1) p _ S2 w2 hr2 hp)
        rw [htF] at hg2
        clear htF
        go_wp2_with fail
        refine (unhide hg2).mono ?_
        rintro e w3 ⟨rfl, n3, rfl⟩
        go_wp2_with fail
        go_ret
        exact ⟨by simp, below_drewN (Below.turned (below_drewN hbel n) ht2 hS (by simp; omega)) n3⟩
      · rw [if_neg (by omega)] at htF
        have hyi : (place : Int) < (y : Int) := by omega
        go_wp2_with fail
        refine (unhide hg1).mono ?_
        rintro e w1 ⟨rfl, n, rfl⟩
        go_wp2_with fail
        refine (unhide htk n).mono ?_
        rintro e w2 ⟨rfl, S2, hr2, ht2, hf2⟩
        have hg2 := hide (get_rep w.heap.size (0 + 1) p _ S2 w2 hr2 hp)
        rw [htF] at hg2
        clear htF
        go_wp2_with fail
        refine (unhide hg2).mono ?_
        rintro e w3 ⟨rfl, n3, rfl⟩
        go_wp2_with fail
        go_ret
        exact ⟨by simp, below_drewN (Below.turned (below_drewN hbel n) ht2 hS (by simp; omega)) n3⟩

theorem mono_long (a : Option Addr) (len cap p place : Nat) (w : World) (hl : 1024 < len) (hm : len ≤ maxLen) :
    Calls Yba.prog 4 #[.slice a len cap, .int .u64 p, .int .u64 place] w fun e w' => e = .returned (.bool true) ∧ Below w.heap.size w w' := by
  unfold maxLen at hm
  have h : (1024 : Int) < (len : Int) := by omega
  go_enter Yba.func4, Yba.ntmps4
  go_wp2_with fail
  go_ret
  exact ⟨rfl, Below.refl _ _⟩
end Go.Proofs.Ybulkmrm
