/- LawS0662AMax: what the loop over the steps keeps in memory. -/
import Derived.Test.YbulkmrmKV
import Derived.Maps.AppendAt
namespace Go.Proofs.Ybulkmrm
open Go.RowKit Go.Maps Go.Deep

theorem Rep.kept {w w' : World} {b cnt : Nat} {f : Nat → Option Nat} {S : Nat → Prop} (h : Rep w b cnt f S) (hb : w'.heap[b]? = w.heap[b]?) (hS : ∀ j, S j → w'.heap[j]? = w.heap[j]?) : Rep w' b cnt f S := by
  rcases h with ⟨N, h, hf⟩ | ⟨pb, L, pl, M, N, g, h⟩
  · exact Or.inl ⟨N, h.of_block hb, hf⟩
  · refine Or.inr ⟨pb, L, pl, M, N, g, h.hd.of_block hb, h.row.of_block (hS _ h.spb), h.spb, ?_, h.arr, h.msp, h.val⟩
    rcases h.more with hm | ⟨mb, D, hM, hs, hown, hD⟩
    · exact Or.inl hm
    · refine Or.inr ⟨mb, D, hM, hs, ?_, hD⟩
      obtain ⟨es, cl, h1, h2⟩ := hown
      exact ⟨es, cl, (hS mb hs).trans h1, h2⟩

theorem Rep.held {w : World} {b cnt : Nat} {f : Nat → Option Nat} {S : Nat → Prop} (h : Rep w b cnt f S) : w.cell? ⟨b, 1, none⟩ = some (.slice none 0 0) := by
  rcases h with ⟨N, h, hf⟩ | ⟨pb, L, pl, M, N, g, h⟩
  · exact h.cell (i := 1) (by omega)
  · exact h.hd.cell (i := 1) (by omega)

structure MI (w wr : World) (f : Nat → Option Nat) (k nk nv : Nat) (S : Nat → Prop) (ks vs : List Nat) (kv vv : Value) : Prop where
  rep : Rep wr w.heap.size k f S
  foot : ∀ j, S j → w.heap.size < j ∧ j < wr.heap.size
  bel : Below w.heap.size w wr
  kr : wr.ownsRow (w.heap.size + 1) 23 1 kv nk (u64s ks)
  vr : wr.ownsRow (w.heap.size + 1) 23 1 vv nv (u64s vs)
  kf : ∀ g, kv.ownBlock = some g → ¬ S g
  vf : ∀ g, vv.ownBlock = some g → ¬ S g
  dis : ∀ g, kv.ownBlock = some g → vv.ownBlock ≠ some g

variable {w wr : World} {f : Nat → Option Nat} {k nk nv : Nat} {S : Nat → Prop} {ks vs : List Nat} {kv vv : Value}

theorem MI.drewN (h : MI w wr f k nk nv S ks vs kv vv) (n : Nat) : MI w (wr.drewN n) f k nk nv S ks vs kv vv :=
  ⟨h.rep.drewN n, h.foot, below_drewN h.bel n, h.kr, h.vr, h.kf, h.vf, h.dis⟩

theorem mi_start (w : World) : MI w (w.alloc (.cells #[.pointer none, .slice none 0 0, .map none, .int .i64 0, .slice none 0 0, .map none, .int .i64 0] 35)) (fun _ => none) 0 0 0 (fun _ => False) [] [] (.slice none 0 0) (.slice none 0 0) :=
  ⟨rep_new w _, fun _ h => h.elim, (Below.refl _ _).alloc (Nat.le_refl _) _, World.ownsRow_nil _ _ _ _, World.ownsRow_nil _ _ _ _, fun g h => by simp [Value.ownBlock] at h, fun g h => by simp [Value.ownBlock] at h, fun g h => by simp [Value.ownBlock] at h⟩

theorem MI.lt (h : MI w wr f k nk nv S ks vs kv vv) : w.heap.size < wr.heap.size := h.rep.lt

/-- A block of a row that is none of the Map's. -/
theorem row_kept {W w2 : World} {S : Nat → Prop} {B : Nat} {v : Value} {n : Nat} {xs : List Value} (ht : Turned W w2 B S) (h : W.ownsRow (B + 1) 23 1 v n xs) (hS : ∀ g, v.ownBlock = some g → ¬ S g) : w2.ownsRow (B + 1) 23 1 v n xs := by
  refine ⟨h.1, ?_⟩
  rcases h.2 with h2 | ⟨g, cap, cur, hv, hg, hh, r⟩
  · exact Or.inl h2
  · refine Or.inr ⟨g, cap, cur, hv, hg, ?_, r⟩
    have hl := h.lt g (by rw [hv]; rfl)
    rw [ht.block g hl.2 (by omega) (hS g (by rw [hv]; rfl))]
    exact hh

theorem MI.took (h : MI w wr f k nk nv S ks vs kv vv) {o : Obj} {w2 : World} {f' : Nat → Option Nat} {S2 : Nat → Prop} (hr : Rep w2 w.heap.size (k + 1) f' S2) (ht : Turned (wr.alloc o) w2 w.heap.size S) (hf : Fresh (wr.alloc o) w2 S S2) :
    MI w w2 f' (k + 1) nk nv S2 ks vs kv vv := by
  have hl := h.lt
  have hz := ht.size
  simp at hz
  have hnot : ∀ {v : Value} {n : Nat} {xs : List Value}, wr.ownsRow (w.heap.size + 1) 23 1 v n xs → (∀ g, v.ownBlock = some g → ¬ S g) → ∀ g, v.ownBlock = some g → ¬ S2 g := by
    intro v n xs ho hS g hg hs
    rcases hf g hs with x | x
    · exact hS g hg x
    · have := (ho.lt g hg).2
      simp at x
      omega
  refine ⟨hr, fun j hj => ?_, Below.turned (h.bel.alloc (by omega) o) ht (fun j hj => (h.foot j hj).1) (by simp; omega), row_kept ht (h.kr.alloc o) h.kf, row_kept ht (h.vr.alloc o) h.vf, hnot h.kr h.kf, hnot h.vr h.vf, h.dis⟩
  rcases hf j hj with x | x
  · have := h.foot j x; omega
  · simp at x; omega

/-- The step's own block behind 'took'. -/
theorem MI.step (h : MI w wr f k nk nv S ks vs kv vv) {a b : Value} {w2 : World} (ht : Turned (wr.alloc (.cells #[a, b] 38)) w2 w.heap.size S) :
    w2.cell? ⟨wr.heap.size, 0, none⟩ = some a ∧ w2.cell? ⟨wr.heap.size, 1, none⟩ = some b := by
  have hl := h.lt
  have e := ht.block wr.heap.size (by simp) (by omega) (fun x => by have := h.foot _ x; omega)
  have e' : w2.heap[wr.heap.size]? = some (.cells #[a, b] 38) := e.trans (blk_alloc_new _ _)
  exact ⟨by simp [World.cell?, e'], by simp [World.cell?, e']⟩

theorem u64s_append (ks : List Nat) (p : Nat) : u64s ks ++ [.int .u64 (p : Int)] = u64s (ks ++ [p]) := by simp [u64s]

theorem MI.appK (h : MI w wr f k nk nv S ks vs kv vv) {o : Obj} {p : Nat} {v' : Value} {w1 : World} (ho : w1.ownsRow (w.heap.size + 1) 23 1 v' (nk + 1) (u64s ks ++ [.int .u64 (p : Int)])) (hg : (wr.alloc o).grownBy w1 kv.ownBlock)
    (hloc : v'.ownBlock = kv.ownBlock ∨ v'.ownBlock = some (wr.alloc o).heap.size) : MI w w1 f k (nk + 1) nv S (ks ++ [p]) vs v' vv := by
  have hl := h.lt
  have hz := hg.size
  simp at hz
  have hk : ∀ g, kv.ownBlock = some g → w.heap.size + 1 ≤ g := fun g hh => (h.kr.lt g hh).1
  have blk : ∀ j, j < wr.heap.size → some j ≠ kv.ownBlock → w1.heap[j]? = wr.heap[j]? := fun j hj hne => (hg.block j (by simp; omega) hne).trans (Below.heap_alloc _ _ _ hj)
  refine ⟨h.rep.kept (blk _ hl (fun e => by have := hk _ e.symm; omega)) (fun j hj => blk j (h.foot j hj).2 (fun e => h.kf j e.symm hj)), fun j hj => ?_, (h.bel.alloc (by omega) o).grown hg (by simp; omega) (fun j hj => by have := hk j hj; omega), by rw [← u64s_append]; exact ho, (h.vr.alloc o).kept hg ?_, ?_, h.vf, ?_⟩
  · have := h.foot j hj; omega
  · cases hb : vv.ownBlock with
    | none => exact Or.inl rfl
    | some g => exact Or.inr (fun e => h.dis g e.symm hb)
  · intro g hgb hs
    rcases hloc with x | x
    · exact h.kf g (x ▸ hgb) hs
    · have e := Option.some.inj (x.symm.trans hgb)
      have := h.foot g hs
      simp at e
      omega
  · intro g hgb hvv
    rcases hloc with x | x
    · exact h.dis g (x ▸ hgb) hvv
    · have e := Option.some.inj (x.symm.trans hgb)
      have := (h.vr.lt g hvv).2
      simp at e
      omega

theorem MI.appV (h : MI w wr f k nk nv S ks vs kv vv) {o : Obj} {p : Nat} {v' : Value} {w1 : World} (ho : w1.ownsRow (w.heap.size + 1) 23 1 v' (nv + 1) (u64s vs ++ [.int .u64 (p : Int)])) (hg : (wr.alloc o).grownBy w1 vv.ownBlock)
    (hloc : v'.ownBlock = vv.ownBlock ∨ v'.ownBlock = some (wr.alloc o).heap.size) : MI w w1 f k nk (nv + 1) S ks (vs ++ [p]) kv v' := by
  have hl := h.lt
  have hz := hg.size
  simp at hz
  have hk : ∀ g, vv.ownBlock = some g → w.heap.size + 1 ≤ g := fun g hh => (h.vr.lt g hh).1
  have blk : ∀ j, j < wr.heap.size → some j ≠ vv.ownBlock → w1.heap[j]? = wr.heap[j]? := fun j hj hne => (hg.block j (by simp; omega) hne).trans (Below.heap_alloc _ _ _ hj)
  refine ⟨h.rep.kept (blk _ hl (fun e => by have := hk _ e.symm; omega)) (fun j hj => blk j (h.foot j hj).2 (fun e => h.vf j e.symm hj)), fun j hj => ?_, (h.bel.alloc (by omega) o).grown hg (by simp; omega) (fun j hj => by have := hk j hj; omega), (h.kr.alloc o).kept hg ?_, by rw [← u64s_append]; exact ho, h.kf, ?_, ?_⟩
  · have := h.foot j hj; omega
  · cases hb : kv.ownBlock with
    | none => exact Or.inl rfl
    | some g => exact Or.inr (fun e => h.dis g hb e.symm)
  · intro g hgb hs
    rcases hloc with x | x
    · exact h.vf g (x ▸ hgb) hs
    · have e := Option.some.inj (x.symm.trans hgb)
      have := h.foot g hs
      simp at e
      omega
  · intro g hgb hvv
    rcases hloc with x | x
    · exact h.dis g hgb (x ▸ hvv)
    · have e := Option.some.inj (x.symm.trans hvv)
      have := (h.kr.lt g hgb).2
      simp at e
      omega

theorem MI.store {vg vc : Nat} (h : MI w wr f k nk nv S ks vs kv (.slice (some ⟨vg, 0, none⟩) nv vc)) (i q : Nat) : MI w (wr.setCell ⟨vg, i, none⟩ (.int .u64 q)) f k nk nv S ks (vs.set i q) kv (.slice (some ⟨vg, 0, none⟩) nv vc) := by
  have hl := h.lt
  obtain ⟨h1, h2⟩ := h.vr.stored i (.int .u64 q)
  have hvg := (h.vr.lt vg rfl).1
  have blk : ∀ j, j ≠ vg → (wr.setCell ⟨vg, i, none⟩ (.int .u64 q)).heap[j]? = wr.heap[j]? := fun j hj => Below.heap_setCell _ _ _ _ hj
  refine ⟨h.rep.kept (blk _ (by omega)) (fun j hj => blk j (fun e => h.vf vg rfl (e ▸ hj))), fun j hj => by simpa [World.setCell] using h.foot j hj, h.bel.setCell (by show w.heap.size ≤ vg; omega) _, h.kr.kept h2 ?_, ?_, h.kf, h.vf, h.dis⟩
  · cases hb : kv.ownBlock with
    | none => exact Or.inl rfl
    | some g => exact Or.inr (fun e => h.dis g hb (by have := Option.some.inj e; rw [this]; rfl))
  · have e : (u64s vs).set i (.int .u64 (q : Int)) = u64s (vs.set i q) := by simp [u64s, List.map_set]
    rw [← e]
    exact h1

/-- An older cell behind an append. -/
theorem cell_app {W w1 : World} {o : Obj} {row : Option Nat} {b off : Nat} {v : Value} (h : W.cell? ⟨b, off, none⟩ = some v) (hg : (W.alloc o).grownBy w1 row) (hne : ∀ g, row = some g → g < b) : w1.cell? ⟨b, off, none⟩ = some v := by
  have hl := lt_of_cell h
  refine hg.cell (a := ⟨b, off, none⟩) ?_ (fun e => by have := hne b e.symm; omega)
  rw [World.cell?_of_block (w := W) (a := ⟨b, off, none⟩) (Below.heap_alloc _ _ _ hl)]
  exact h

/-- A row's shape. -/
theorem row_shape {W : World} {B n : Nat} {v : Value} {xs : List Value} (h : W.ownsRow B 23 1 v n xs) : (v = .slice none 0 0 ∧ n = 0) ∨ ∃ g c, v = .slice (some ⟨g, 0, none⟩) n c := by
  rcases h.2 with h2 | ⟨g, cap, cur, hv, _⟩
  · exact Or.inl h2
  · exact Or.inr ⟨g, cap, hv⟩

theorem row_cell {W : World} {B n g c : Nat} {l : List Nat} (h : W.ownsRow B 23 1 (.slice (some ⟨g, 0, none⟩) n c) n (u64s l)) (i : Nat) (hi : i < n) : W.cell? ⟨g, i, none⟩ = some (.int .u64 (l.getD i 0)) := by
  have hl := h.1
  rw [h.cellAt i (by omega)]
  simp [u64s] at hl ⊢
  have hi' : i < l.length := by omega
  simp [hi']

theorem row_len {W : World} {B n : Nat} {v : Value} {l : List Nat} (h : W.ownsRow B 23 1 v n (u64s l)) : l.length = n := by
  have := h.1
  simpa [u64s] using this
end Go.Proofs.Ybulkmrm
