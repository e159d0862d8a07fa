/- LawS0662AMax: the plain law of the two slices 'keys', 'vals'; slices.Contains; held.Get on an empty Map. -/
import Derived.Test.YbulkmrmMono
namespace Go.Proofs.Ybulkmrm
open Go.RowKit Go.Maps Go.Deep

structure KV (f : Nat → Option Nat) (ks vs : List Nat) : Prop where
  len : ks.length = vs.length
  get : ∀ i, i < ks.length → f (ks.getD i 0) = some (vs.getD i 0)
  all : ∀ x, f x ≠ none → x ∈ ks
  nodup : ∀ i j, i < ks.length → j < ks.length → ks.getD i 0 = ks.getD j 0 → i = j

theorem kv_start : KV (fun _ => none) [] [] := ⟨rfl, fun i h => by simp at h, fun x h => absurd rfl h, fun i j h => by simp at h⟩

theorem kv_up {f : Nat → Option Nat} {ks vs : List Nat} (h : KV f ks vs) {i q : Nat} (hi : i < ks.length) (hq : vs.getD i 0 < q) : KV (tookF f (ks.getD i 0) q) ks (vs.set i q) := by
  have e : tookF f (ks.getD i 0) q = upd f (ks.getD i 0) q := by simp only [tookF, h.get i hi]; rw [if_pos hq]
  rw [e]
  refine ⟨by rw [List.length_set]; exact h.len, fun j hj => ?_, fun x hx => ?_, h.nodup⟩
  · by_cases hij : j = i
    · subst hij
      have : j < vs.length := by rw [← h.len]; exact hj
      simp [upd, List.getD, this]
    · have hne : ks.getD j 0 ≠ ks.getD i 0 := fun x => hij (h.nodup j i hj hi x)
      simp only [upd, if_neg hne]
      rw [h.get j hj]
      have : i ≠ j := fun x => hij x.symm
      simp [List.getD, this]
  · by_cases hx' : x = ks.getD i 0
    · rw [hx', List.getD_eq_getElem?_getD, List.getElem?_eq_getElem hi]
      exact List.getElem_mem _
    · simp only [upd, if_neg hx'] at hx
      exact h.all x hx

theorem kv_same {f : Nat → Option Nat} {ks vs : List Nat} (h : KV f ks vs) {i q : Nat} (hi : i < ks.length) (hq : ¬ vs.getD i 0 < q) : KV (tookF f (ks.getD i 0) q) ks vs := by
  have e : tookF f (ks.getD i 0) q = f := by simp only [tookF, h.get i hi]; rw [if_neg hq]
  rw [e]
  exact h

theorem kv_new {f : Nat → Option Nat} {ks vs : List Nat} (h : KV f ks vs) {p q : Nat} (hp : ∀ i, i < ks.length → ks.getD i 0 ≠ p) : KV (tookF f p q) (ks ++ [p]) (vs ++ [q]) := by
  have hn : f p = none := by
    cases hf : f p with
    | none => rfl
    | some y =>
      obtain ⟨i, hi, he⟩ := List.mem_iff_getElem.1 (h.all p (by rw [hf]; simp))
      exact absurd (by simpa [List.getD, hi] using he) (hp i hi)
  have e : tookF f p q = upd f p q := by simp only [tookF, hn]
  have gl : ∀ i, i < ks.length → (ks ++ [p]).getD i 0 = ks.getD i 0 := fun i hi => by simp [List.getD, List.getElem?_append, hi]
  have ge : (ks ++ [p]).getD ks.length 0 = p := by simp [List.getD]
  rw [e]
  refine ⟨by simp [h.len], fun j hj => ?_, fun x hx => ?_, fun i j hi hj hij => ?_⟩
  · simp at hj
    by_cases hlt : j < ks.length
    · rw [gl j hlt]
      simp only [upd, if_neg (hp j hlt)]
      rw [h.get j hlt]
      have : j < vs.length := by rw [← h.len]; exact hlt
      simp [List.getD, List.getElem?_append, this]
    · have : j = ks.length := by omega
      subst this
      rw [ge]
      simp [upd, List.getD, h.len]
  · by_cases hx' : x = p
    · simp [hx']
    · simp only [upd, if_neg hx'] at hx
      simp [h.all x hx]
  · simp at hi hj
    by_cases hi' : i < ks.length
    · by_cases hj' : j < ks.length
      · rw [gl i hi', gl j hj'] at hij
        exact h.nodup i j hi' hj' hij
      · have : j = ks.length := by omega
        subst this
        rw [gl i hi', ge] at hij
        exact absurd hij (hp i hi')
    · have : i = ks.length := by omega
      subst this
      by_cases hj' : j < ks.length
      · rw [gl j hj', ge] at hij
        exact absurd hij.symm (hp j hj')
      · omega

theorem kv_some {f : Nat → Option Nat} {ks vs : List Nat} (h : KV f ks vs) (x : Nat) : (f x).isSome = ks.contains x := by
  rw [Bool.eq_iff_iff]
  simp only [List.contains_iff_mem]
  constructor
  · intro hs
    exact h.all x (fun e => by rw [e] at hs; cases hs)
  · intro hm
    obtain ⟨i, hi, he⟩ := List.mem_iff_getElem.1 hm
    have := h.get i hi
    rw [List.getD_eq_getElem?_getD, List.getElem?_eq_getElem hi] at this
    simp only [Option.getD_some] at this
    rw [he] at this
    rw [this]; rfl

/-! ### slices.Index, slices.Contains -/
def inB (ks : List Nat) (x : Nat) : Bool := ks.contains x

def u64s (l : List Nat) : List Value := l.map fun x => .int .u64 (x : Nat)

set_option maxHeartbeats 400000 in
theorem index_some (g n cap x : Nat) (ks : List Nat) (w : World) (hn : ks.length = n) (hm : n ≤ 1024) (hc : ∀ i, i < n → w.cell? ⟨g, i, none⟩ = some (.int .u64 (ks.getD i 0))) :
    Calls Yba.prog 13 #[.slice (some ⟨g, 0, none⟩) n cap, .int .u64 x] w fun e w' => (∃ r : Int, e = .returned (.int .i64 r) ∧ decide (0 ≤ r) = inB ks x) ∧ w' = w := by
  have hc' := hide hc
  clear hc
  go_enter Yba.func13, Yba.ntmps13
  go_wp2
  go_loop [8] (fun i => ∃ k : Nat, k ≤ n ∧ i = .int .i64 k ∧ ∀ j, j < k → ks.getD j 0 ≠ x) (fun i => n - (intOf i).toNat)
  case atStart => exact ⟨0, by omega, rfl, fun j hj => by omega⟩
  case round =>
    obtain ⟨k, hk, rfl, hno⟩ := hrel
    have hno' := hide hno
    clear hno
    by_cases hlt : k < n
    · have q := unhide hc' k hlt
      by_cases he : ks.getD k 0 = x
      · have hb : ((x : Int) == ((ks.getD k 0 : Nat) : Int)) = true := by rw [he]; simp
        have hmem : inB ks x = true := by
          rw [inB, ← he, List.contains_iff_mem, List.getD_eq_getElem?_getD, List.getElem?_eq_getElem (by omega)]
          exact List.getElem_mem _
        have HM := hide hmem
        generalize ks.getD k 0 = y at *
        clear he hmem
        go_wp2
        go_ret
        exact ⟨⟨_, rfl, by rw [unhide HM]; simp⟩, rfl⟩
      · have hb : ((x : Int) == ((ks.getD k 0 : Nat) : Int)) = false := by simp only [beq_eq_false_iff_ne, ne_eq]; omega
        have hnx : ∀ j, j < k + 1 → ks.getD j 0 ≠ x := fun j hj => by
          by_cases h : j < k
          · exact unhide hno' j h
          · have : j = k := by omega
            subst this; exact he
        have HN := hide hnx
        clear hnx he
        generalize ks.getD k 0 = y at *
        go_wp2
        go_round
        case rel => exact ⟨k + 1, by omega, by go_num, unhide HN⟩
        case measure => simp [intOf]; omega
    · have : k = n := by omega
      subst this
      have hmem : inB ks x = false := by
        rw [inB, Bool.eq_false_iff]
        intro h
        obtain ⟨i, hi, he⟩ := List.mem_iff_getElem.1 (List.contains_iff_mem.1 h)
        exact unhide hno' i (by omega) (by simpa [List.getD, hi] using he)
      have HM := hide hmem
      clear hmem
      go_wp2
      go_ret
      exact ⟨⟨_, rfl, by rw [unhide HM]; simp⟩, rfl⟩

theorem contains_some (g n cap x : Nat) (ks : List Nat) (w : World) (hn : ks.length = n) (hm : n ≤ 1024) (hc : ∀ i, i < n → w.cell? ⟨g, i, none⟩ = some (.int .u64 (ks.getD i 0))) :
    Calls Yba.prog 8 #[.slice (some ⟨g, 0, none⟩) n cap, .int .u64 x] w fun e w' => e = .returned (.bool (inB ks x)) ∧ w' = w := by
  have h := hide (index_some g n cap x ks w hn hm hc)
  clear hc
  go_enter Yba.func8, Yba.ntmps8
  go_wp2_with fail
  refine (unhide h).mono ?_
  rintro e w' ⟨⟨r, rfl, hr⟩, rfl⟩
  have hr' := hide hr
  clear hr
  go_wp2_with fail
  go_ret
  exact ⟨by rw [← unhide hr']; rfl, rfl⟩

theorem contains_nil (a : Option Addr) (c x : Nat) (w : World) :
    Calls Yba.prog 8 #[.slice a 0 c, .int .u64 x] w fun e w' => e = .returned (.bool false) ∧ w' = w := by
  have h : Hid (Calls Yba.prog 13 #[.slice a 0 c, .int .u64 x] w fun e w' => e = .returned (.int .i64 (-1)) ∧ w' = w) := by
    show Calls Yba.prog 13 #[.slice a 0 c, .int .u64 x] w fun e w' => e = .returned (.int .i64 (-1)) ∧ w' = w
    go_enter Yba.func13, Yba.ntmps13
    go_wp2
    go_loop [8] (fun i => i = .int .i64 0) (fun _ => 0)
    case atStart => rfl
    case round =>
      subst hrel
      go_wp2
      go_ret
      exact ⟨rfl, rfl⟩
  go_enter Yba.func8, Yba.ntmps8
  go_wp2_with fail
  refine (unhide h).mono ?_
  rintro e w' ⟨rfl, rfl⟩
  go_wp2_with fail
  go_ret
  exact ⟨rfl, rfl⟩

theorem held_get (b x : Nat) (w : World) (hc : w.cell? ⟨b, 1, none⟩ = some (.slice none 0 0)) :
    Calls Yba.prog 9 #[.pointer (some ⟨b, 1, none⟩), .int .u64 x] w fun e w' => e = .returned (.tuple #[.agg #[.int .u64 0, .int .u64 0, .bool false, .int .i64 0, .int .i64 0], .bool false]) ∧ Below w.heap.size w w' := by
  have hb : b < w.heap.size := lt_of_cell hc
  go_enter Yba.func9, Yba.ntmps9
  go_wp2_with fail
  exact bodyPost_ret (v := .tuple #[.agg #[.int .u64 0, .int .u64 0, .bool false, .int .i64 0, .int .i64 0], .bool false]) (by simp [results, Yba.results9, go_sem]) rfl ⟨rfl, ((Below.refl _ _).alloc (Nat.le_refl _) _).alloc (by simp) _⟩
end Go.Proofs.Ybulkmrm
