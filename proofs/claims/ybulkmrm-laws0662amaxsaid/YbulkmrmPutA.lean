/- Put's grow in the words of the representation; the frame. -/
import Derived.Test.YbulkmrmRep
import Derived.Deep.LoopGhost
namespace Go.Proofs.Ybulkmrm
open Go.RowKit Go.Maps Go.Deep

/-- Of what was there nothing has turned but block b and what the Map owns. -/
structure Turned (w w' : World) (b : Nat) (S : Nat → Prop) : Prop where
  os : w'.os = w.os
  tape : w'.tape = w.tape
  output : w'.output = w.output
  size : w.heap.size ≤ w'.heap.size
  block : ∀ k, k < w.heap.size → k ≠ b → ¬ S k → w'.heap[k]? = w.heap[k]?

theorem Turned.refl (w : World) (b : Nat) (S : Nat → Prop) : Turned w w b S := ⟨rfl, rfl, rfl, Nat.le_refl _, fun _ _ _ _ => rfl⟩

/-- S' is S and blocks made since. -/
def Fresh (w w' : World) (S S' : Nat → Prop) : Prop := ∀ k, S' k → S k ∨ (w.heap.size ≤ k ∧ k < w'.heap.size)

theorem Turned.trans {w w' w'' : World} {b : Nat} {S S' : Nat → Prop} (h : Turned w w' b S) (hs : Fresh w w' S S') (h' : Turned w' w'' b S') : Turned w w'' b S :=
  ⟨h'.os.trans h.os, h'.tape.trans h.tape, h'.output.trans h.output, Nat.le_trans h.size h'.size, fun k hk hb hS => (h'.block k (Nat.lt_of_lt_of_le hk h.size) hb (fun x => by rcases hs k x with y | y <;> first | exact hS y | omega)).trans (h.block k hk hb hS)⟩

theorem Fresh.trans {w w' w'' : World} {S S' S'' : Nat → Prop} (h : Fresh w w' S S') (h' : Fresh w' w'' S' S'') (h1 : w.heap.size ≤ w'.heap.size) (h2 : w'.heap.size ≤ w''.heap.size) : Fresh w w'' S S'' := by
  intro k hk
  rcases h' k hk with y | y
  · rcases h k y with z | z
    · exact Or.inl z
    · exact Or.inr ⟨z.1, by omega⟩
  · exact Or.inr ⟨by omega, y.2⟩

theorem Turned.drewN {w w' : World} {b : Nat} {S : Nat → Prop} (h : Turned w w' b S) (n : Nat) : Turned w (w'.drewN n) b S := ⟨h.os, h.tape, h.output, h.size, h.block⟩

theorem PS.drewN {w : World} {b cnt : Nat} {f : Nat → Option Nat} {S : Nat → Prop} {pb L : Nat} {pl : Nat → Pl} {M : Value} {N : Int} {g : Nat → Option Nat} (h : PS w b cnt f S pb L pl M N g) (n : Nat) : PS (w.drewN n) b cnt f S pb L pl M N g :=
  ⟨h.hd, h.row, h.spb, h.more, h.arr, h.msp, h.val⟩

theorem Rep.drewN {w : World} {b cnt : Nat} {f : Nat → Option Nat} {S : Nat → Prop} (h : Rep w b cnt f S) (n : Nat) : Rep (w.drewN n) b cnt f S := by
  rcases h with h | ⟨pb, L, pl, M, N, g, h⟩
  · exact Or.inl h
  · exact Or.inr ⟨pb, L, pl, M, N, g, h.drewN n⟩

theorem More.kept {w w' : World} {S S' : Nat → Prop} {cnt : Nat} {M : Value} {g : Nat → Option Nat} (h : More w S cnt M g) (hS : ∀ k, S k → S' k) (hb : ∀ mb D, M = .map (some mb) → Own w mb cnt D → w'.heap[mb]? = w.heap[mb]?) : More w' S' cnt M g := by
  rcases h with h | ⟨mb, D, hM, hs, hown, hD⟩
  · exact Or.inl h
  · refine Or.inr ⟨mb, D, hM, hS _ hs, ?_, hD⟩
    have e := hb mb D hM hown
    obtain ⟨es, cl, h1, h2⟩ := hown
    exact ⟨es, cl, e.trans h1, h2⟩

theorem grow_ps {w : World} {b cnt : Nat} {f : Nat → Option Nat} {S : Nat → Prop} {pb L : Nat} {pl : Nat → Pl} {M : Value} {N : Int} {g : Nat → Option Nat} (h : PS w b cnt f S pb L pl M N g) (hL : L < 1024) :
    Calls Yba.prog 15 #[.pointer (some ⟨b, 4, none⟩)] w fun e w' => e = .returned (.tuple #[]) ∧ ∃ S', PS w' b cnt f S' w.heap.size (2 * L) (growing pl L L) M N g ∧ Turned w w' b S ∧ Fresh w w' S S' := by
  obtain ⟨e, he, h10⟩ := h.arr.pow
  have h9 : e ≤ 9 := by
    by_cases h' : e ≤ 9
    · exact h'
    · have : e = 10 := by omega
      subst this
      omega
  have hbl := h.hd.lt
  have hpl := h.row.lt
  have hbp := row_ne h.hd h.row (by decide)
  refine (grow_any b 4 pb L e pl w he h9 hbp (h.hd.cell (i := 4) (by omega)) (h.hd.frozen 4) h.row h.arr.fit h.arr.idr).mono ?_
  rintro e' w' ⟨rfl, hbel, hsz, hrow⟩
  have hblk : ∀ k, k < w.heap.size → k ≠ b → w'.heap[k]? = w.heap[k]? := fun k hk hkb => (hbel.block k hk).trans (Below.heap_setCell _ _ _ _ hkb)
  refine ⟨rfl, fun k => S k ∨ k = w.heap.size, ⟨?_, ?_, Or.inr rfl, ?_, (arr_grow h.arr hL).1, fun _ i hi => (arr_grow h.arr hL).2 i hi, fun k => (h.val k).trans (look_grow h.arr hL k).symm⟩, ⟨hbel.os, hbel.tape, hbel.output, by omega, fun k hk hkb _ => hblk k hk hkb⟩, ?_⟩
  · exact ((h.hd.set 4 (.slice (some ⟨w.heap.size, 0, none⟩) (2 * L) (2 * L))).congr (fun j _ => hdr_set4 _ _ _ _ j)).of_block (hbel.block b hbl)
  · exact hrow
  · exact h.more.kept (fun k hk => Or.inl hk) (fun mb D _ ho => hblk mb ho.lt (own_ne h.hd ho).symm)
  · rintro k (hk | hk)
    · exact Or.inl hk
    · exact Or.inr ⟨by omega, by omega⟩

/-! ### one cell of a place is written -/
theorem flat_setV (pl : Nat → Pl) (i v j : Nat) : (if j = i * 4 + 1 then .int .u64 v else flat pl j) = flat (setPl pl i { pl i with v := v }) j := by
  rw [flat_setPl]
  by_cases h3 : j = i * 4 + 3
  · subst h3; simp [flat3]
  by_cases h2 : j = i * 4 + 2
  · subst h2; simp [flat2]
  by_cases h1 : j = i * 4 + 1
  · subst h1; simp
  by_cases h0 : j = i * 4
  · subst h0; simp [flat0]
  simp [h3, h2, h1, h0]

theorem flat_setSp (pl : Nat → Pl) (i s j : Nat) : (if j = i * 4 + 3 then .int .i32 s else flat pl j) = flat (setPl pl i { pl i with sp := s }) j := by
  rw [flat_setPl]
  by_cases h3 : j = i * 4 + 3
  · subst h3; simp
  by_cases h2 : j = i * 4 + 2
  · subst h2; simp [flat2]
  by_cases h1 : j = i * 4 + 1
  · subst h1; simp [flat1]
  by_cases h0 : j = i * 4
  · subst h0; simp [flat0]
  simp [h3, h2, h1, h0]

theorem flat_setFree (pl : Nat → Pl) (i id v j : Nat) (hs : (pl i).sp = 0) :
    (if j = i * 4 + 2 then .bool true else if j = i * 4 + 1 then .int .u64 v else if j = i * 4 then .int .u64 id else flat pl j) = flat (setPl pl i { id := id, v := v, used := true, sp := 0 }) j := by
  rw [flat_setPl]
  by_cases h3 : j = i * 4 + 3
  · subst h3; simp [flat3, hs]
  by_cases h2 : j = i * 4 + 2
  · subst h2; simp
  by_cases h1 : j = i * 4 + 1
  · subst h1; simp
  by_cases h0 : j = i * 4
  · subst h0; simp
  simp [h3, h2, h1, h0]

theorem Turned.setCell {w w' : World} {b : Nat} {S S' : Nat → Prop} (h : Turned w w' b S) (hs : Fresh w w' S S') {a : Addr} (ha : a.block = b ∨ S' a.block) (u : Value) : Turned w (w'.setCell a u) b S :=
  ⟨h.os, h.tape, h.output, by simpa [World.setCell] using h.size, fun k hk hb hS => by
    rw [Below.heap_setCell _ _ _ _ (fun e => by
      rcases ha with x | x
      · exact hb (e.trans x)
      · rcases hs _ x with y | y
        · exact hS (e ▸ y)
        · omega)]
    exact h.block k hk hb hS⟩

theorem Turned.alloc {w w' : World} {b : Nat} {S : Nat → Prop} (h : Turned w w' b S) (o : Obj) : Turned w (w'.alloc o) b S :=
  ⟨h.os, h.tape, h.output, by have := h.size; simp; omega, fun k hk hb hS => by
    rw [Below.heap_alloc _ _ _ (Nat.lt_of_lt_of_le hk h.size)]
    exact h.block k hk hb hS⟩

theorem Turned.grown {w w' w'' : World} {b mb : Nat} {S S' : Nat → Prop} (h : Turned w w' b S) (hs : Fresh w w' S S') (hg : w'.grownBy w'' (some mb)) (hm : S' mb) : Turned w w'' b S :=
  ⟨hg.os.trans h.os, hg.tape.trans h.tape, hg.output.trans h.output, Nat.le_trans h.size hg.size, fun k hk hb hS => by
    rw [hg.block k (Nat.lt_of_lt_of_le hk h.size) (fun e => by
      have e' : k = mb := Option.some.inj e
      subst e'
      rcases hs _ hm with y | y
      · exact hS y
      · omega)]
    exact h.block k hk hb hS⟩

theorem Fresh.mono {w w' w'' : World} {S S' : Nat → Prop} (h : Fresh w w' S S') (hs : w'.heap.size ≤ w''.heap.size) : Fresh w w'' S S' := by
  intro k hk
  rcases h k hk with y | y
  · exact Or.inl y
  · exact Or.inr ⟨y.1, by omega⟩

theorem upd_eq {f f' : Nat → Option Nat} (id v : Nat) (h : ∀ k, f k = f' k) (k : Nat) : upd f id v k = upd f' id v k := by
  simp only [upd, h]

theorem nat_wf (c : Nat) : WideAt.IsKeyLit (key c) := by simp [WideAt.IsKeyLit, key]

theorem key_ne {a c : Nat} (h : a ≠ c) : key a ≠ key c := by
  simp only [key, ne_eq, Lit.int.injEq, true_and]
  omega

/-- The map behind 'm.more[id] = v'. -/
theorem more_put {D : DataW Unit} {g : Nat → Option Nat} (hD : ∀ k, k < 18446744073709551616 → Maps.has D (key k) = (g k).isSome ∧ D.atKey (key k) (.lit (.int .u64 0)) = .lit (.int .u64 ((g k).getD 0 : Nat))) (hm : IsMap D) (id v : Nat) :
    ∀ k, k < 18446744073709551616 → Maps.has (D.put (key id) (.lit (.int .u64 v))) (key k) = (upd g id v k).isSome ∧ (D.put (key id) (.lit (.int .u64 v))).atKey (key k) (.lit (.int .u64 0)) = .lit (.int .u64 ((upd g id v k).getD 0 : Nat)) := by
  intro k hk
  by_cases e : k = id
  · subst e
    rw [has_put_same hm (nat_wf _), atKey_put_same hm (nat_wf _)]
    simp [upd]
  · rw [has_put_other (key_ne e), atKey_put_other (key_ne e), (hD k hk).1, (hD k hk).2]
    simp [upd, e]

theorem More.mono {w : World} {S S' : Nat → Prop} {cnt cnt' : Nat} {M : Value} {g : Nat → Option Nat} (h : More w S cnt M g) (hS : ∀ k, S k → S' k) (hc : cnt ≤ cnt') : More w S' cnt' M g := by
  rcases h with h | ⟨mb, D, hM, hs, hown, hD⟩
  · exact Or.inl h
  · exact Or.inr ⟨mb, D, hM, hS _ hs, World.ownsMap.mono hown hc, hD⟩

theorem setV_sp (pl : Nat → Pl) (i v j : Nat) : (setPl pl i { pl i with v := v } j).sp = (pl j).sp := by
  unfold setPl
  split
  · rename_i h; subst h; rfl
  · rfl

theorem setFree_sp (pl : Nat → Pl) (i id v j : Nat) (hs : (pl i).sp = 0) : (setPl pl i { id := id, v := v, used := true, sp := 0 } j).sp = (pl j).sp := by
  unfold setPl
  split
  · rename_i h; subst h; exact hs.symm
  · rfl

/-- Behind 'm.more[id] = v' of an id that the map held. -/
theorem end_more {wr w1 : World} {b cnt id v : Nat} {f : Nat → Option Nat} {S : Nat → Prop} {pb L mb : Nat} {pl : Nat → Pl} {N : Int} {g : Nat → Option Nat} {D : DataW Unit} (hps : PS wr b cnt f S pb L pl (.map (some mb)) N g)
    (hSm : S mb) (hown : Own wr mb cnt D) (hD : ∀ k, k < 18446744073709551616 → Maps.has D (key k) = (g k).isSome ∧ D.atKey (key k) (.lit (.int .u64 0)) = .lit (.int .u64 ((g k).getD 0 : Nat)))
    (pm : Arr L cnt pl (upd g id v) ∧ ∀ k, look pl L (upd g id v) k = upd (look pl L g) id v k) (hown1 : Own w1 mb (cnt + 1) (D.put (key id) (.lit (.int .u64 v)))) (hg : wr.grownBy w1 (some mb)) :
    PS w1 b (cnt + 1) (upd f id v) S pb L pl (.map (some mb)) N (upd g id v) :=
  ⟨hps.hd.of_block (hg.block _ hps.hd.lt (fun e => own_ne hps.hd hown (Option.some.inj e))), hps.row.of_block (hg.block _ hps.row.lt (fun e => own_ne hps.row hown (Option.some.inj e))), hps.spb,
    Or.inr ⟨mb, _, rfl, hSm, hown1, more_put hD (World.ownsMap.isMap hown) id v⟩, pm.1.mono (Nat.le_succ _), (fun h => by cases h), fun k => (upd_eq id v hps.val k).trans (pm.2 k).symm⟩

/-- Behind 'm.more[id] = v; p.spilled++' of an id that neither held. -/
theorem end_spill {W w1 : World} {b cnt id v i : Nat} {f : Nat → Option Nat} {S : Nat → Prop} {pb L mb : Nat} {pl : Nat → Pl} {N : Int} {g : Nat → Option Nat} {D : DataW Unit}
    (hd : W.rowIs b 35 7 (hdr (.slice (some ⟨pb, 0, none⟩) L L) (.map (some mb)) (.int .i64 N))) (hrow : W.rowIs pb 96 (L * 4) (flat pl)) (hSp : S pb) (hval : ∀ k, f k = look pl L g k)
    (hSm : S mb) (hown : Own W mb cnt D) (hD : ∀ k, k < 18446744073709551616 → Maps.has D (key k) = (g k).isSome ∧ D.atKey (key k) (.lit (.int .u64 0)) = .lit (.int .u64 ((g k).getD 0 : Nat)))
    (pm : Arr L (cnt + 1) (setPl pl i { pl i with sp := (pl i).sp + 1 }) (upd g id v) ∧ ∀ k, look (setPl pl i { pl i with sp := (pl i).sp + 1 }) L (upd g id v) k = upd (look pl L g) id v k) (hown1 : Own w1 mb (cnt + 1) (D.put (key id) (.lit (.int .u64 v)))) (hg : W.grownBy w1 (some mb)) :
    PS (w1.setCell ⟨pb, i * 4 + 3, none⟩ (.int .i32 ((pl i).sp + 1))) b (cnt + 1) (upd f id v) S pb L (setPl pl i { pl i with sp := (pl i).sp + 1 }) (.map (some mb)) N (upd g id v) := by
  have hd1 := hd.of_block (hg.block _ hd.lt (fun e => own_ne hd hown (Option.some.inj e)))
  have hr1 := hrow.of_block (hg.block _ hrow.lt (fun e => own_ne hrow hown (Option.some.inj e)))
  refine ⟨hd1.setOther (row_ne hd hrow (by decide)) _, (hr1.set _ _).congr fun j _ => ?_, hSp, Or.inr ⟨mb, _, rfl, hSm, ?_, more_put hD (World.ownsMap.isMap hown) id v⟩, pm.1, (fun h => by cases h), fun k => (upd_eq id v hval k).trans (pm.2 k).symm⟩
  · exact flat_setSp pl i ((pl i).sp + 1) j
  · exact World.ownsMap.setCell hown1 (own_ne hr1 hown1).symm _

theorem end_free {wr : World} {b cnt id v i : Nat} {f : Nat → Option Nat} {S : Nat → Prop} {pb L : Nat} {pl : Nat → Pl} {M : Value} {N N' : Int} {g : Nat → Option Nat} (hps : PS wr b cnt f S pb L pl M N g) (hs : (pl i).sp = 0)
    (pm : Arr L cnt (setPl pl i { id := id, v := v, used := true, sp := 0 }) g ∧ ∀ k, look (setPl pl i { id := id, v := v, used := true, sp := 0 }) L g k = upd (look pl L g) id v k) :
    PS ((((wr.setCell ⟨b, 6, none⟩ (.int .i64 N')).setCell ⟨pb, i * 4, none⟩ (.int .u64 id)).setCell ⟨pb, i * 4 + 1, none⟩ (.int .u64 v)).setCell ⟨pb, i * 4 + 2, none⟩ (.bool true)) b (cnt + 1) (upd f id v) S pb L (setPl pl i { id := id, v := v, used := true, sp := 0 }) M N' g := by
  have hne := row_ne hps.hd hps.row (by decide)
  refine ⟨?_, ?_, hps.spb, ?_, pm.1.mono (Nat.le_succ _), fun hM j hj => ?_, fun k => (upd_eq id v hps.val k).trans (pm.2 k).symm⟩
  · exact ((((hps.hd.set 6 _).congr (fun j _ => hdr_set6 _ _ _ _ j)).setOther hne _).setOther hne _).setOther hne _
  · exact ((((hps.row.setOther hne.symm _).set _ _).set _ _).set _ _).congr fun j _ => flat_setFree pl i id v j hs
  · refine (hps.more.mono (fun _ h => h) (Nat.le_succ cnt)).kept (fun _ h => h) (fun mb D _ ho => ?_)
    have h1 := (own_ne hps.hd ho).symm
    have h2 := (own_ne hps.row ho).symm
    rw [Below.heap_setCell _ _ _ _ h2, Below.heap_setCell _ _ _ _ h2, Below.heap_setCell _ _ _ _ h2, Below.heap_setCell _ _ _ _ h1]
  · rw [setFree_sp _ _ _ _ _ hs]
    exact hps.msp hM j hj

theorem own_new (W : World) (n cnt : Nat) (h : W.heap.size = n) : Own (W.alloc (.map #[] 0)) n cnt (.map []) := by
  subst h
  exact World.ownsMap.mono (World.ownsMap_made W Yba.prog 23 (plainElem Yba.prog 23)) (Nat.zero_le _)

theorem empty_more (g : Nat → Option Nat) (hg : ∀ k, g k = none) (k : Nat) : Maps.has (.map [] : DataW Unit) (key k) = (g k).isSome ∧ (DataW.map [] : DataW Unit).atKey (key k) (.lit (.int .u64 0)) = .lit (.int .u64 ((g k).getD 0 : Nat)) := by
  rw [hg k]
  exact ⟨rfl, rfl⟩

/-- A place's count behind a store into the map. -/
theorem sp_behind {W w1 : World} {pb mb i L : Nat} {pl : Nat → Pl} (hr : W.rowIs pb 96 (L * 4) (flat pl)) (hi : i < L) (hn : pb ≠ mb) (hg : W.grownBy w1 (some mb)) :
    w1.cell? ⟨pb, i * 4 + 3, none⟩ = some (.int .i32 (pl i).sp) ∧ w1.frozen? ⟨pb, i * 4 + 3, none⟩ = false := by
  have h1 := hr.of_block (hg.block pb hr.lt (fun e => hn (Option.some.inj e)))
  exact ⟨by rw [h1.cell (by omega), flat3], h1.frozen _⟩
end Go.Proofs.Ybulkmrm
