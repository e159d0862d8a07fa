/- Put on an empty Map; Put and took by the representation. -/
import Derived.Test.YbulkmrmPut
namespace Go.Proofs.Ybulkmrm
open Go.RowKit Go.Maps Go.Deep

set_option maxRecDepth 100000 in
set_option maxHeartbeats 1000000 in
theorem put_nil (b cnt id v : Nat) (f : Nat → Option Nat) (S : Nat → Prop) (w : World) (N : Int)
    (hd : w.rowIs b 35 7 (hdr (.slice none 0 0) (.map none) (.int .i64 N))) (hf : ∀ k, f k = none) (hid : id < 18446744073709551616) :
    Calls Yba.prog 11 #[.pointer (some ⟨b, 4, none⟩), .int .u64 id, .int .u64 v] w fun e w' => e = .returned (.tuple #[]) ∧ ∃ S', Rep w' b (cnt + 1) (upd f id v) S' ∧ Turned w w' b S ∧ Fresh w w' S S' := by
  have hnil : ∀ (w : World) (a : Option Addr) (n c n' c' : Nat), (binOp .eql 30 (.slice a n c) (.slice none n' c')).run Yba.prog w = .ok (.bool a.isNone) w := fun w a n c n' c' => Lib.run_eql_slice_nil w _ _ a n c n' c' Yba.underlying30
  have hmk := fun W => run_mk W 16 (by omega)
  simp only [Int.cast_ofNat_Int] at hmk
  have hc4 := hd.cell (i := 4) (by omega)
  have hc6 := hd.cell (i := 6) (by omega)
  simp only [hdr, ↓reduceIte, Nat.reduceEqDiff] at hc4 hc6
  have hf4 := hd.frozen 4
  have hbl := hd.lt
  have hd1 := ((hd.set 4 (.slice (some ⟨w.heap.size, 0, none⟩) 16 16)).congr (fun j _ => hdr_set4 _ _ _ _ j)).alloc (.cells (zrow 16) 96)
  have hrow := row_zrow (w.setCell ⟨b, 4, none⟩ (.slice (some ⟨w.heap.size, 0, none⟩) 16 16)) 16
  rw [show (w.setCell ⟨b, 4, none⟩ (.slice (some ⟨w.heap.size, 0, none⟩) 16 16)).heap.size = w.heap.size by simp [World.setCell]] at hrow
  have hps : PS ((w.setCell ⟨b, 4, none⟩ (.slice (some ⟨w.heap.size, 0, none⟩) 16 16)).alloc (.cells (zrow 16) 96)) b cnt f (fun k => S k ∨ k = w.heap.size) w.heap.size 16 (fun _ => Pl.zero) (.map none) N (fun _ => none) :=
    ⟨hd1, hrow, Or.inr rfl, Or.inl ⟨rfl, fun _ => rfl⟩, arr_zero.mono (Nat.zero_le _), fun _ _ _ => rfl, fun k => (hf k).trans (look_zero _ _ _).symm⟩
  have htu : Turned w ((w.setCell ⟨b, 4, none⟩ (.slice (some ⟨w.heap.size, 0, none⟩) 16 16)).alloc (.cells (zrow 16) 96)) b S := ((Turned.refl w b S).setCell (S' := S) (fun k hk => Or.inl hk) (Or.inl rfl) _).alloc _
  have hfre : Fresh w ((w.setCell ⟨b, 4, none⟩ (.slice (some ⟨w.heap.size, 0, none⟩) 16 16)).alloc (.cells (zrow 16) 96)) S (fun k => S k ∨ k = w.heap.size) := by
    rintro k (hk | hk)
    · exact Or.inl hk
    · exact Or.inr ⟨by omega, by simp [World.setCell]; omega⟩
  have hat := hide (at_any b 4 w.heap.size 16 4 id _ rfl (by omega) hid (hd1.cell (i := 4) (by omega)))
  have hrest : Hid (∀ w2, PS w2 b cnt f (fun k => S k ∨ k = w.heap.size) w.heap.size 16 (fun _ => Pl.zero) (.map none) N (fun _ => none) → True) := fun _ _ => trivial
  have hps' := hide hps
  have htu' := hide htu
  have hfre' := hide hfre
  clear hps htu hfre hd1 hrow hrest
  go_enter Yba.func11, Yba.ntmps11
  go_wp2_with (go_at_call 12; go_must (refine (unhide hat).mono ?_; rintro e w' ⟨rfl, n, rfl⟩))
  generalize hW : (World.alloc (World.setCell w ⟨b, 4, none⟩ (.slice (some ⟨w.heap.size, 0, none⟩) 16 16)) (.cells (zrow 16) 96)) = W at *
  go_loopg [6] 0 (fun k p wr => wr = W.drewN n ∧ p = .pointer (some ⟨w.heap.size, (id % 16) * 4, none⟩))
  case atStart => exact ⟨rfl, rfl⟩
  case round =>
    obtain ⟨rfl, rfl⟩ := hrel
    clear hW
    have hps := (unhide hps').drewN n
    have hm : id % 16 < 16 := Nat.mod_lt _ (by omega)
    have hc4 := hps.hd.cell (i := 4) (by omega)
    have hc6 := hps.hd.cell (i := 6) (by omega)
    have hf6 := hps.hd.frozen 6
    simp only [hdr, ↓reduceIte, Nat.reduceEqDiff] at hc4 hc6
    have c0 := hps.row.cell (i := (id % 16) * 4) (by omega)
    have c1 := hps.row.cell (i := (id % 16) * 4 + 1) (by omega)
    have c2 := hps.row.cell (i := (id % 16) * 4 + 2) (by omega)
    have c3 := hps.row.cell (i := (id % 16) * 4 + 3) (by omega)
    rw [flat0] at c0
    rw [flat1] at c1
    rw [flat2] at c2
    rw [flat3] at c3
    simp only [Pl.zero] at c0 c1 c2 c3
    have f0 := hps.row.frozen ((id % 16) * 4)
    have f1 := hps.row.frozen ((id % 16) * 4 + 1)
    have f2 := hps.row.frozen ((id % 16) * 4 + 2)
    have hne := row_ne hps.hd hps.row (by decide)
    have pf := hide (put_free hps.arr id v hid rfl)
    generalize hgen : id % 16 = i at *
    have HG := hide hgen
    clear hgen
    go_wp2_with fail
    have htu := unhide htu'
    have hfre := unhide hfre'
    have htu2 := htu.drewN n
    have hfre2 : Fresh w (W.drewN n) S (fun k => S k ∨ k = w.heap.size) := hfre
    exact bodyPost_ret (results_none rfl _ _ _) rfl ⟨rfl, _, Or.inr ⟨w.heap.size, 16, _, .map none, _, _, end_free hps rfl (unhide pf)⟩, (((htu2.setCell hfre2 (Or.inl rfl) _).setCell (hfre2.mono (by simp [World.setCell])) (Or.inr hps.spb) _).setCell (hfre2.mono (by simp [World.setCell])) (Or.inr hps.spb) _).setCell (hfre2.mono (by simp [World.setCell])) (Or.inr hps.spb) _, hfre2.mono (by simp [World.setCell])⟩

theorem put_rep (b cnt id v : Nat) (f : Nat → Option Nat) (S : Nat → Prop) (w : World) (h : Rep w b cnt f S) (hid : id < 18446744073709551616) (hv : v < 18446744073709551616) (hcnt : cnt ≤ 2000) :
    Calls Yba.prog 11 #[.pointer (some ⟨b, 4, none⟩), .int .u64 id, .int .u64 v] w fun e w' => e = .returned (.tuple #[]) ∧ ∃ S', Rep w' b (cnt + 1) (upd f id v) S' ∧ Turned w w' b S ∧ Fresh w w' S S' := by
  rcases h with ⟨N, hd, hf⟩ | ⟨pb, L, pl, M, N, g, h⟩
  · exact put_nil b cnt id v f S w N hd hf hid
  · exact put_arr b cnt id v f S w pb L pl M N g h hid hv hcnt

/-- What 'took' leaves for a proc. -/
def tookF (f : Nat → Option Nat) (p place : Nat) : Nat → Option Nat :=
  match f p with
  | none => upd f p place
  | some k => if k < place then upd f p place else f

theorem Rep.mono {w : World} {b cnt cnt' : Nat} {f : Nat → Option Nat} {S : Nat → Prop} (h : Rep w b cnt f S) (hc : cnt ≤ cnt') : Rep w b cnt' f S := by
  rcases h with h | ⟨pb, L, pl, M, N, g, h⟩
  · exact Or.inl h
  · exact Or.inr ⟨pb, L, pl, M, N, g, h.hd, h.row, h.spb, h.more.mono (fun _ x => x) hc, h.arr.mono hc, h.msp, h.val⟩

set_option maxHeartbeats 400000 in
theorem took_rep (b cnt p place : Nat) (f : Nat → Option Nat) (S : Nat → Prop) (w : World) (h : Rep w b cnt f S) (hp : p < 18446744073709551616) (hv : place < 18446744073709551616) (hcnt : cnt ≤ 2000) :
    Calls Yba.prog 6 #[.pointer (some ⟨b, 0, none⟩), .int .u64 p, .int .u64 place] w fun e w' => e = .returned (.tuple #[]) ∧ ∃ S', Rep w' b (cnt + 1) (tookF f p place) S' ∧ Turned w w' b S ∧ Fresh w w' S S' := by
  have hget := hide (get_rep b cnt p f S w h hp)
  have hput := hide (fun (W : World) (hW : Rep W b cnt f S) => put_rep b cnt p place f S W hW hp hv hcnt)
  have h' := hide h
  unfold tookF
  cases hfp : f p with
  | none =>
    rw [hfp] at hget
    clear h hfp
    go_enter Yba.func6, Yba.ntmps6
    go_wp2_with fail
    refine (unhide hget).mono ?_
    rintro e w' ⟨rfl, n, rfl⟩
    go_wp2_with fail
    refine (unhide hput _ ((unhide h').drewN n)).mono ?_
    rintro e w' ⟨rfl, S', hr, ht, hf⟩
    go_wp2_with fail
    go_end0
    exact ⟨rfl, S', hr, (Turned.refl _ _ _).drewN n |>.trans (S' := S) (fun k hk => Or.inl hk) ht, hf⟩
  | some k =>
    rw [hfp] at hget
    clear h hfp
    by_cases hlt : k < place
    · go_enter Yba.func6, Yba.ntmps6
      go_wp2_with fail
      refine (unhide hget).mono ?_
      rintro e w' ⟨rfl, n, rfl⟩
      go_wp2_with fail
      refine (unhide hput _ ((unhide h').drewN n)).mono ?_
      rintro e w' ⟨rfl, S', hr, ht, hf⟩
      go_wp2_with fail
      go_end0
      exact ⟨rfl, S', hr, (Turned.refl _ _ _).drewN n |>.trans (S' := S) (fun k hk => Or.inl hk) ht, hf⟩
    · go_enter Yba.func6, Yba.ntmps6
      go_wp2_with fail
      refine (unhide hget).mono ?_
      rintro e w' ⟨rfl, n, rfl⟩
      go_wp2_with fail
      go_end0
      exact ⟨rfl, S, ((unhide h').mono (Nat.le_succ _)).drewN n, (Turned.refl _ _ _).drewN n, fun k hk => Or.inl hk⟩
end Go.Proofs.Ybulkmrm
