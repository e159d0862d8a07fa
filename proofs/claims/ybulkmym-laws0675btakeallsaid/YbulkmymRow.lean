/- The rows that the law makes and copies into. -/
import Derived.Test.YbulkmymTakeE
import Derived.Laws.CopyOwn
import Derived.Laws.OwnMore
namespace Go.Proofs.Ybulkmym
open Go.RowKit Go.Lib

/-- The first k of the values v. -/
def firsts (v : Nat → Value) (k : Nat) : List Value := (List.range k).map v

theorem firsts_len (v : Nat → Value) (k : Nat) : (firsts v k).length = k := by simp [firsts]
theorem firsts_get (v : Nat → Value) (k j : Nat) (h : j < k) : (firsts v k)[j]? = some (v j) := by simp [firsts, h]

theorem firsts_succ (v : Nat → Value) (k : Nat) : firsts v (k + 1) = firsts v k ++ [v k] := by simp [firsts, List.range_succ]

/-- A row of n zeros with the first k values laid over it. -/
theorem row_of_splice {w : World} {g n k : Nat} {t : TypeId} {z : Value} {v : Nat → Value} (hk : k ≤ n)
    (h : w.heap[g]? = some (.cells (splice (List.replicate n z) 0 (firsts v k)).toArray t (0, 0))) : w.rowIs g t n (fun j => if j < k then v j else z) := by
  refine ⟨_, h, ?_, fun j hj => ?_⟩
  · rw [List.size_toArray, length_splice _ _ _ (by simp [firsts_len]; omega)]; simp
  · rw [List.getElem?_toArray]
    simp only [splice, List.take_zero, List.nil_append, Nat.zero_add]
    by_cases hjk : j < k
    · rw [List.getElem?_append_left (by simp [firsts_len]; omega), firsts_get _ _ _ hjk, if_pos hjk]
    · rw [List.getElem?_append_right (by simp [firsts_len]; omega), if_neg hjk, List.getElem?_drop, firsts_len, List.getElem?_replicate, if_pos (by omega)]

theorem made_list (z : Value) (n : Nat) : madeCells #[z] n = (List.replicate n z).toArray := by
  rw [← toList_madeCells_one]

/-- The law's copy of the expiries: nil, or a row of its own. -/
def ExOk (w : World) (B n : Nat) (h : Bool) (xo : Option Addr) (le ce : Nat) : Prop :=
  (h = false ∧ xo = none ∧ le = 0 ∧ ce = 0) ∨ (h = true ∧ ∃ xb, ∃ Z : Nat → Int, xo = some ⟨xb, 0, none⟩ ∧ le = n / 2 + 1 ∧ ce = n / 2 + 1 ∧ B ≤ xb ∧ w.rowIs xb 2 (n / 2 + 1) (fun j => .int .i64 (Z j)))

theorem getD_at (c : Array Value) : ∀ j, j < c.size → c[j]? = some (c.getD j undef) := fun j hj => by simp [Array.getD, hj]

/-- The world behind the making of the collection and of the entry. -/
def stw (w : World) (k : Int) (el sc ex en : Value) : World :=
  (w.alloc (.cells #[.int .i64 k, .int .i64 0, .slice none 0 0, .int .i64 0, .slice none 0 0, .int .i64 0, .slice none 0 0, .slice none 0 0, .slice none 0 0, .slice none 0 0, .pointer none, .pointer none, .bool false, .int .u8 0, .int .u64 0, .nilFunc, .nilFunc, el, sc, ex, .int .u64 0, en, .int .i64 0, .pointer none, .pointer none] 42)).alloc
    (.cells #[.int .i64 0, .int .i64 0, .slice none 0 0, .int .i64 0, .slice none 0 0, .int .i64 0, .slice none 0 0, .slice none 0 0, .slice none 0 0, .slice none 0 0, .pointer none, .pointer none, .bool false] 38)

theorem start_st (w : World) (k : Int) (el sc ex en : Value) :
    Cn (stw w k el sc ex en) w.heap.size k el sc ex en 0 ∧ En (stw w k el sc ex en) (w.heap.size + 1) (.slice none 0 0) (.slice none 0 0) (.slice none 0 0) (.slice none 0 0) (.slice none 0 0) ∧ Below w.heap.size w (stw w k el sc ex en) := by
  have hz : ∀ o : Obj, (w.alloc o).heap.size = w.heap.size + 1 := fun o => by simp [go_sem]
  refine ⟨?_, ?_, ((Below.refl _ _).alloc (Nat.le_refl _) _).alloc (by rw [hz]; omega) _⟩
  · refine ⟨fun j => (#[.int .i64 k, .int .i64 0, .slice none 0 0, .int .i64 0, .slice none 0 0, .int .i64 0, .slice none 0 0, .slice none 0 0, .slice none 0 0, .slice none 0 0, .pointer none, .pointer none, .bool false, .int .u8 0, .int .u64 0, .nilFunc, .nilFunc, el, sc, ex, .int .u64 0, en, .int .i64 0, .pointer none, .pointer none] : Array Value).getD j undef, ?_, rfl, rfl, rfl, rfl, rfl, rfl⟩
    exact (World.rowIs_alloc w _ 42 _ (getD_at _)).alloc _
  · refine ⟨fun j => (#[.int .i64 0, .int .i64 0, .slice none 0 0, .int .i64 0, .slice none 0 0, .int .i64 0, .slice none 0 0, .slice none 0 0, .slice none 0 0, .slice none 0 0, .pointer none, .pointer none, .bool false] : Array Value).getD j undef, ?_, rfl, rfl, rfl, rfl, rfl⟩
    have := World.rowIs_alloc (w.alloc (.cells #[.int .i64 k, .int .i64 0, .slice none 0 0, .int .i64 0, .slice none 0 0, .int .i64 0, .slice none 0 0, .slice none 0 0, .slice none 0 0, .slice none 0 0, .pointer none, .pointer none, .bool false, .int .u8 0, .int .u64 0, .nilFunc, .nilFunc, el, sc, ex, .int .u64 0, en, .int .i64 0, .pointer none, .pointer none] 42)) (#[.int .i64 0, .int .i64 0, .slice none 0 0, .int .i64 0, .slice none 0 0, .int .i64 0, .slice none 0 0, .slice none 0 0, .slice none 0 0, .slice none 0 0, .pointer none, .pointer none, .bool false] : Array Value) 38 (fun j => (#[.int .i64 0, .int .i64 0, .slice none 0 0, .int .i64 0, .slice none 0 0, .int .i64 0, .slice none 0 0, .slice none 0 0, .slice none 0 0, .slice none 0 0, .pointer none, .pointer none, .bool false] : Array Value).getD j undef) (getD_at _)
    rw [hz] at this
    exact this

/-- A row that was appended to, read. -/
theorem ro_of_own {w : World} {B k : Nat} {e : TypeId} {u : Value} {v : Nat → Value} (h : w.ownsRow B e 1 u k (firsts v k)) : ∃ ea ec, u = .slice ea k ec ∧ Ro w w.heap.size ea k v := by
  by_cases h0 : k = 0
  · subst h0
    rcases h.2 with ⟨rfl, _⟩ | ⟨g, cap, cur, rfl, _⟩
    · exact ⟨_, _, rfl, Or.inl rfl⟩
    · exact ⟨_, _, rfl, Or.inl rfl⟩
  · obtain ⟨g, cap, rfl, _, hlt⟩ := h.form (by omega)
    refine ⟨_, _, rfl, Or.inr ⟨g, 0, rfl, hlt, fun i hi => ?_⟩⟩
    rw [Nat.zero_add, h.cellAt i (by omega), firsts_get _ _ _ hi]

theorem copy_pos {w : World} {sp : Option Addr} {sl k B : Nat} {v : Nat → Value} (g : Addr) (h : Ro w B sp sl v) (hk : k ≤ sl) :
    0 < (firsts v k).length → (some g) = some g ∧ ∃ ad, sp = some ad ∧ ∀ j u, (firsts v k)[j]? = some u → w.cell? (ad.add j) = some u := fun h0 => by
  rw [firsts_len] at h0
  rcases h with h | ⟨b, o, rfl, _, hc⟩
  · omega
  · refine ⟨rfl, _, rfl, fun j u hj => ?_⟩
    by_cases hjk : j < k
    · rw [firsts_get _ _ _ hjk] at hj
      rw [Go.WideShapes.add_plain, hc j (by omega)]; exact hj
    · rw [List.getElem?_eq_none (by rw [firsts_len]; omega)] at hj; cases hj
end Go.Proofs.Ybulkmym
