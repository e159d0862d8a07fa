/- The collection and the entry in memory. -/
import Derived.Test.YbulkmymBase
import Derived.Deep.OwnRows
import Derived.Deep.AppendLies
import Derived.Lib.OwnKind
import Derived.OneCell
namespace Go.Proofs.Ybulkmym
open Go.RowKit Go.Lib

theorem Yba.info34 : (Yba.prog.info? 34).map (fun i => (i.zero, i.size, i.bytes)) = some (some (.slice none 0 0), 1, 24) := by kernel_rfl
theorem Yba.info49 : (Yba.prog.info? 49).map (fun i => (i.zero, i.size, i.bytes)) = some (some (.float .f64 0), 1, 8) := by kernel_rfl
theorem Yba.info2 : (Yba.prog.info? 2).map (fun i => (i.zero, i.size, i.bytes)) = some (some (.int .i64 0), 1, 8) := by kernel_rfl

/-- The collection in block cb: its kind, the four slices, how many items are taken. -/
def Cn (w : World) (cb : Nat) (k : Int) (el sc ex en : Value) (i : Nat) : Prop :=
  ∃ f : Nat → Value, w.rowIs cb 42 25 f ∧ f 0 = .int .i64 k ∧ f 17 = el ∧ f 18 = sc ∧ f 19 = ex ∧ f 21 = en ∧ f 22 = .int .i64 i

/-- The entry in block eb: Value, Elems, Scores, FieldExpiries, StreamEntries. -/
def En (w : World) (eb : Nat) (vl els scs exs ens : Value) : Prop :=
  ∃ f : Nat → Value, w.rowIs eb 38 13 f ∧ f 4 = vl ∧ f 6 = els ∧ f 7 = scs ∧ f 8 = exs ∧ f 9 = ens

section
variable {w w' : World} {cb eb i : Nat} {k : Int} {el sc ex en vl els scs exs ens : Value}

theorem Cn.of_block (h : Cn w cb k el sc ex en i) (e : w'.heap[cb]? = w.heap[cb]?) : Cn w' cb k el sc ex en i := by
  obtain ⟨f, hr, hs⟩ := h; exact ⟨f, hr.of_block e, hs⟩
theorem En.of_block (h : En w eb vl els scs exs ens) (e : w'.heap[eb]? = w.heap[eb]?) : En w' eb vl els scs exs ens := by
  obtain ⟨f, hr, hs⟩ := h; exact ⟨f, hr.of_block e, hs⟩
theorem Cn.lt (h : Cn w cb k el sc ex en i) : cb < w.heap.size := by obtain ⟨f, hr, _⟩ := h; exact hr.lt
theorem En.lt (h : En w eb vl els scs exs ens) : eb < w.heap.size := by obtain ⟨f, hr, _⟩ := h; exact hr.lt

theorem Cn.cells (h : Cn w cb k el sc ex en i) : w.cell? ⟨cb, 0, none⟩ = some (.int .i64 k) ∧ w.cell? ⟨cb, 17, none⟩ = some el ∧ w.cell? ⟨cb, 18, none⟩ = some sc ∧ w.cell? ⟨cb, 19, none⟩ = some ex ∧ w.cell? ⟨cb, 21, none⟩ = some en ∧ w.cell? ⟨cb, 22, none⟩ = some (.int .i64 i) ∧ w.frozen? ⟨cb, 22, none⟩ = false := by
  obtain ⟨f, hr, h0, h1, h2, h3, h4, h5⟩ := h
  refine ⟨?_, ?_, ?_, ?_, ?_, ?_, hr.frozen _⟩
  · rw [hr.cell (by omega), h0]
  · rw [hr.cell (by omega), h1]
  · rw [hr.cell (by omega), h2]
  · rw [hr.cell (by omega), h3]
  · rw [hr.cell (by omega), h4]
  · rw [hr.cell (by omega), h5]

theorem En.cells (h : En w eb vl els scs exs ens) : w.cell? ⟨eb, 4, none⟩ = some vl ∧ w.cell? ⟨eb, 6, none⟩ = some els ∧ w.cell? ⟨eb, 7, none⟩ = some scs ∧ w.cell? ⟨eb, 8, none⟩ = some exs ∧ w.cell? ⟨eb, 9, none⟩ = some ens ∧ ∀ j, w.frozen? ⟨eb, j, none⟩ = false := by
  obtain ⟨f, hr, h0, h1, h2, h3, h4⟩ := h
  refine ⟨?_, ?_, ?_, ?_, ?_, fun j => hr.frozen j⟩
  · rw [hr.cell (by omega), h0]
  · rw [hr.cell (by omega), h1]
  · rw [hr.cell (by omega), h2]
  · rw [hr.cell (by omega), h3]
  · rw [hr.cell (by omega), h4]

theorem Cn.take (h : Cn w cb k el sc ex en i) (j : Nat) : Cn (w.setCell ⟨cb, 22, none⟩ (.int .i64 j)) cb k el sc ex en j := by
  obtain ⟨f, hr, h0, h1, h2, h3, h4, h5⟩ := h
  exact ⟨_, hr.set 22 _, by simpa using h0, by simpa using h1, by simpa using h2, by simpa using h3, by simpa using h4, by simp⟩
theorem Cn.other (h : Cn w cb k el sc ex en i) {a : Addr} (ha : cb ≠ a.block) (v : Value) : Cn (w.setCell a v) cb k el sc ex en i := by
  obtain ⟨f, hr, hs⟩ := h; exact ⟨f, hr.setOther ha v, hs⟩
theorem En.other (h : En w eb vl els scs exs ens) {a : Addr} (ha : eb ≠ a.block) (v : Value) : En (w.setCell a v) eb vl els scs exs ens := by
  obtain ⟨f, hr, hs⟩ := h; exact ⟨f, hr.setOther ha v, hs⟩
theorem En.setVl (h : En w eb vl els scs exs ens) (v : Value) : En (w.setCell ⟨eb, 4, none⟩ v) eb v els scs exs ens := by
  obtain ⟨f, hr, h0, h1, h2, h3, h4⟩ := h
  exact ⟨_, hr.set 4 _, by simp, by simpa using h1, by simpa using h2, by simpa using h3, by simpa using h4⟩
theorem En.setEls (h : En w eb vl els scs exs ens) (v : Value) : En (w.setCell ⟨eb, 6, none⟩ v) eb vl v scs exs ens := by
  obtain ⟨f, hr, h0, h1, h2, h3, h4⟩ := h
  exact ⟨_, hr.set 6 _, by simpa using h0, by simp, by simpa using h2, by simpa using h3, by simpa using h4⟩
theorem En.setScs (h : En w eb vl els scs exs ens) (v : Value) : En (w.setCell ⟨eb, 7, none⟩ v) eb vl els v exs ens := by
  obtain ⟨f, hr, h0, h1, h2, h3, h4⟩ := h
  exact ⟨_, hr.set 7 _, by simpa using h0, by simpa using h1, by simp, by simpa using h3, by simpa using h4⟩
theorem En.setExs (h : En w eb vl els scs exs ens) (v : Value) : En (w.setCell ⟨eb, 8, none⟩ v) eb vl els scs v ens := by
  obtain ⟨f, hr, h0, h1, h2, h3, h4⟩ := h
  exact ⟨_, hr.set 8 _, by simpa using h0, by simpa using h1, by simpa using h2, by simp, by simpa using h4⟩
theorem En.setEns (h : En w eb vl els scs exs ens) (v : Value) : En (w.setCell ⟨eb, 9, none⟩ v) eb vl els scs exs v := by
  obtain ⟨f, hr, h0, h1, h2, h3, h4⟩ := h
  exact ⟨_, hr.set 9 _, by simpa using h0, by simpa using h1, by simpa using h2, by simpa using h3, by simp⟩
end
end Go.Proofs.Ybulkmym
