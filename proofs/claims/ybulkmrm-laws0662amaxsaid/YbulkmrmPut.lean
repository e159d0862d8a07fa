/- Put, walked. -/
import Derived.Test.YbulkmrmPutA
namespace Go.Proofs.Ybulkmrm
open Go.RowKit Go.Maps Go.Deep

set_option maxRecDepth 100000 in
set_option maxHeartbeats 1000000 in
theorem put_arr (b cnt id v : Nat) (f : Nat → Option Nat) (S : Nat → Prop) (w : World) (pb0 L0 : Nat) (pl0 : Nat → Pl) (M0 : Value) (N0 : Int) (g0 : Nat → Option Nat)
    (h0 : PS w b cnt f S pb0 L0 pl0 M0 N0 g0) (hid : id < 18446744073709551616) (hv : v < 18446744073709551616) (hcnt : cnt ≤ 2000) :
    Calls Yba.prog 11 #[.pointer (some ⟨b, 4, none⟩), .int .u64 id, .int .u64 v] w fun e w' => e = .returned (.tuple #[]) ∧ ∃ S', Rep w' b (cnt + 1) (upd f id v) S' ∧ Turned w w' b S ∧ Fresh w w' S S' := by
  have hnil : ∀ (w : World) (a : Option Addr) (n c n' c' : Nat), (binOp .eql 30 (.slice a n c) (.slice none n' c')).run Yba.prog w = .ok (.bool a.isNone) w := fun w a n c n' c' => Lib.run_eql_slice_nil w _ _ a n c n' c' Yba.underlying30
  have hc4 := h0.hd.cell (i := 4) (by omega)
  simp only [hdr, ↓reduceIte] at hc4
  obtain ⟨e0, he0, h10⟩ := h0.arr.pow
  have hat := at_any b 4 pb0 L0 e0 id w he0 h10 hid hc4
  have hat' := hide hat
  have h0' := hide h0
  clear hat he0 h0
  go_enter Yba.func11, Yba.ntmps11
  go_wp2_with (go_at_call 12; go_must (refine (unhide hat').mono ?_; rintro e w' ⟨rfl, n, rfl⟩))
  go_loopg [6] (1024 - L0) (fun k p wr => ∃ S' pb L pl M N g, PS wr b cnt f S' pb L pl M N g ∧ Turned w wr b S ∧ Fresh w wr S S' ∧ p = .pointer (some ⟨pb, (id % L) * 4, none⟩) ∧ 1024 - L ≤ k)
  case atStart => exact ⟨S, pb0, L0, pl0, M0, N0, g0, (unhide h0').drewN n, (Turned.refl _ _ _).drewN n, fun k hk => Or.inl hk, rfl, Nat.le_refl _⟩
  case round =>
    obtain ⟨S', pb, L, pl, M, N, g, hps, htu, hfre, rfl, hmeas⟩ := hrel
    clear hat' h0' hc4
    have hp := hps.arr.pos
    obtain ⟨e1, he1, h101⟩ := hps.arr.pow
    have hm : id % L < L := Nat.mod_lt _ hp
    have hc4 := hps.hd.cell (i := 4) (by omega)
    have hc5 := hps.hd.cell (i := 5) (by omega)
    have hc6 := hps.hd.cell (i := 6) (by omega)
    have hf4 := hps.hd.frozen 4
    have hf5 := hps.hd.frozen 5
    have hf6 := hps.hd.frozen 6
    simp only [hdr, ↓reduceIte, Nat.reduceEqDiff] at hc4 hc5 hc6
    have c0 := hps.row.cell (i := (id % L) * 4) (by omega)
    have c1 := hps.row.cell (i := (id % L) * 4 + 1) (by omega)
    have c2 := hps.row.cell (i := (id % L) * 4 + 2) (by omega)
    have c3 := hps.row.cell (i := (id % L) * 4 + 3) (by omega)
    rw [flat0] at c0
    rw [flat1] at c1
    rw [flat2] at c2
    rw [flat3] at c3
    have f0 := hps.row.frozen ((id % L) * 4)
    have f1 := hps.row.frozen ((id % L) * 4 + 1)
    have f2 := hps.row.frozen ((id % L) * 4 + 2)
    have f3 := hps.row.frozen ((id % L) * 4 + 3)
    have hne := row_ne hps.hd hps.row (by decide)
    have hkey : keyOf Yba.prog 23 (.int .u64 (id : Int)) = some (key id) := keyOf_int_mk Yba.underlying23 (wfu hid)
    have hk := hide hkey
    clear hkey
    by_cases hu : (pl (id % L)).used = true
    · by_cases hi : (pl (id % L)).id = id
      · have hb : ((((pl (id % L)).id : Nat) : Int) != (id : Int)) = false := by rw [hi]; simp
        have hb2 : ((((pl (id % L)).id : Nat) : Int) == (id : Int)) = true := by rw [hi]; simp
        have HU := hide hu
        have HI := hide hi
        have HE := hide he1
        clear hi he1
        obtain ⟨pa, pv⟩ := put_hit hps.arr id v hu (unhide HI)
        have HA := hide pa
        have HV := hide pv
        clear pa pv
        generalize hgen : id % L = i at *
        have HG := hide hgen
        clear hgen
        go_wp2_with fail
        refine bodyPost_ret (results_none rfl _ _ _) rfl ⟨rfl, S', Or.inr ⟨pb, L, _, M, N, g, ?_, ?_, hps.spb, ?_, (unhide HA).mono (Nat.le_succ _), ?_, fun k => (upd_eq id v hps.val k).trans (unhide HV k).symm⟩, htu.setCell hfre (Or.inr hps.spb) _, hfre.mono (by simp [World.setCell])⟩
        · exact hps.hd.setOther hne _
        · exact (hps.row.set _ _).congr fun j _ => flat_setV pl i v j
        · exact (hps.more.mono (fun _ h => h) (Nat.le_succ cnt)).kept (fun _ h => h) (fun mb D _ ho => Below.heap_setCell _ _ _ _ (own_ne hps.row ho).symm)
        · intro hM j hj
          rw [setV_sp]
          exact hps.msp hM j hj
      · have hb : ((((pl (id % L)).id : Nat) : Int) != (id : Int)) = true := by simp; omega
        have hb2 : ((((pl (id % L)).id : Nat) : Int) == (id : Int)) = false := by simp; omega
        by_cases hL : L < 1024
        · have hgr := hide (grow_ps hps hL)
          have hat := hide (fun (W : World) hW => at_any b 4 wr.heap.size (2 * L) (e1 + 1) id W (by rw [he1]; exact (Nat.pow_succ' ..).symm) (by
            by_cases h' : e1 ≤ 9
            · omega
            · have : e1 = 10 := by omega
              subst this
              omega) hid hW)
          clear he1 hi
          generalize hgen : id % L = i at *
          have HG := hide hgen
          clear hgen
          go_wp2_with fail
          refine (unhide hgr).mono ?_
          rintro e w2 ⟨rfl, S2, hps2, htu2, hfre2⟩
          have d4 := hps2.hd.cell (i := 4) (by omega)
          simp only [hdr, ↓reduceIte] at d4
          go_wp2_with fail
          refine (unhide hat _ d4).mono ?_
          rintro e w3 ⟨rfl, n3, rfl⟩
          go_wp2_with fail
          go_roundg (1024 - 2 * L)
          case measure => omega
          case rel =>
            exact ⟨S2, wr.heap.size, 2 * L, _, M, N, g, hps2.drewN _, (htu.trans hfre htu2).drewN _, (hfre.trans hfre2 htu.size htu2.size), rfl, Nat.le_refl _⟩
        · have hL2 : L = 1024 := by
            have : 2 ^ e1 ≤ 2 ^ 10 := Nat.pow_le_pow_right (by omega) h101
            omega
          have HL := hide hL2
          have hLi : ¬ (L : Int) < 1024 := by omega
          have HI := hide hi
          have HU := hide hu
          have HE := hide he1
          have hnilm : ∀ (w : World) (r : Option Nat), (binOp .eql 31 (.map r) (.map none)).run Yba.prog w = .ok (.bool r.isNone) w := fun w r => run_eql_map_nil w _ _ _ r Yba.underlying31
          have hcs := hps.arr.cnt _ hm
          have psp := hide (put_spill hps.arr hL2 id v hu hi)
          have pmo := hide (fun hs => put_more hps.arr id v hi hs)
          clear he1 hi hL hL2
          by_cases hs : 0 < (pl (id % L)).sp
          · rcases hps.more with ⟨hM, _⟩ | ⟨mb, D, hM, hSm, hown, hD⟩
            · have := hps.msp hM _ hm; omega
            subst hM
            have hown' := hide hown
            have hD' := hide hD
            have hmb := own_ne hps.row hown
            have hbm := own_ne hps.hd hown
            have hml := World.ownsMap.lt hown
            have hism := hide (World.ownsMap.isMap hown)
            clear hown hD
            cases hg : g id with
            | some y =>
              have hhas : Maps.has D (key id) = true := by rw [(unhide hD' id hid).1, hg]; rfl
              clear hg
              generalize hgen : id % L = i at *
              have HG := hide hgen
              clear hgen
              go_wp2_with (first
                | (at_lookup; go_must (refine wpList_lookup_own_ok_int _ rfl _ _ 31 rfl 23 23 .u64 klaw Yba.underlying31 Yba.underlying23 (zero23 _) mb _ D rfl (unhide hown') _ _ rfl (unhide hk) ?_; intro c hat hwc))
                | (at_mapUpdate; go_must (refine wpList_mapUpdate_own _ rfl _ _ _ 31 rfl 23 23 klaw Yba.underlying31 _ mb _ D rfl (unhide hown') (by unfold maxLen; omega) _ _ _ rfl rfl (unhide hk) _ [] (plainElem_int Yba.underlying23 (wfu hv)) ?_; intro w1 hown1 hgrow1)))
              exact bodyPost_ret (results_none rfl _ _ _) rfl ⟨rfl, S', Or.inr ⟨pb, L, _, _, N, _, end_more hps hSm (unhide hown') (unhide hD') (unhide pmo hs) hown1 hgrow1⟩, htu.grown hfre hgrow1 hSm, hfre.mono hgrow1.size⟩
            | none =>
              have hhas : Maps.has D (key id) = false := by rw [(unhide hD' id hid).1, hg]; rfl
              clear hg
              generalize hgen : id % L = i at *
              have HG := hide hgen
              clear hgen
              have hhd6 := hide ((hps.hd.set 6 (.int .i64 (wrap64 (N + 1)))).congr (fun j _ => hdr_set6 _ _ _ _ j))
              have hro6 := hide (hps.row.setOther (a := ⟨b, 6, none⟩) hne.symm (.int .i64 (wrap64 (N + 1))))
              go_wp2_with (first
                | (at_lookup; go_must (refine wpList_lookup_own_ok_int _ rfl _ _ 31 rfl 23 23 .u64 klaw Yba.underlying31 Yba.underlying23 (zero23 _) mb _ D rfl (unhide hown') _ _ rfl (unhide hk) ?_; intro c hat hwc))
                | (at_mapUpdate; go_must (refine wpList_mapUpdate_own _ rfl _ _ _ 31 rfl 23 23 klaw Yba.underlying31 _ mb _ D rfl (World.ownsMap.setCell (unhide hown') hbm.symm _) (by unfold maxLen; omega) _ _ _ rfl rfl (unhide hk) _ [] (plainElem_int Yba.underlying23 (wfu hv)) ?_; intro w1 hown1 hgrow1; obtain ⟨d3, g3⟩ := sp_behind (unhide hro6) hm hmb hgrow1)))
              go_end0
              exact ⟨rfl, S', Or.inr ⟨pb, L, _, _, _, _, end_spill (unhide hhd6) (unhide hro6) hps.spb hps.val hSm (World.ownsMap.setCell (unhide hown') hbm.symm _) (unhide hD') (unhide psp) hown1 hgrow1⟩, ((htu.setCell hfre (Or.inl rfl) _).grown (hfre.mono (by simp [World.setCell])) hgrow1 hSm).setCell (hfre.mono (by simpa [World.setCell] using hgrow1.size)) (Or.inr hps.spb) _, hfre.mono (by simpa [World.setCell] using hgrow1.size)⟩
          · rcases hps.more with ⟨hM, hg0⟩ | ⟨mb, D, hM, hSm, hown, hD⟩
            · subst hM
              have hmm := @run_makeMap Yba.prog
              have hg0' := hide hg0
              clear hg0
              have hbl := hps.hd.lt
              have hpl := hps.row.lt
              generalize hgen : id % L = i at *
              have HG := hide hgen
              clear hgen
              have hhd6 := hide ((((hps.hd.set 6 (.int .i64 (wrap64 (N + 1)))).congr (fun j _ => hdr_set6 _ _ _ _ j)).set 5 (.map (some wr.heap.size))).congr (fun j _ => hdr_set5 _ _ _ _ j))
              have hro6 := hide ((hps.row.setOther (a := ⟨b, 6, none⟩) hne.symm (.int .i64 (wrap64 (N + 1)))).setOther (a := ⟨b, 5, none⟩) hne.symm (.map (some wr.heap.size)))
              have hon := hide (own_new ((wr.setCell ⟨b, 6, none⟩ (.int .i64 (wrap64 (N + 1)))).setCell ⟨b, 5, none⟩ (.map (some wr.heap.size))) wr.heap.size cnt (by simp [World.setCell]))
              go_wp2_with (at_mapUpdate; go_must (refine wpList_mapUpdate_own _ rfl _ _ _ 31 rfl 23 23 klaw Yba.underlying31 _ wr.heap.size _ (.map []) rfl (unhide hon) (by unfold maxLen; omega) _ _ _ rfl rfl (unhide hk) _ [] (plainElem_int Yba.underlying23 (wfu hv)) ?_; intro w1 hown1 hgrow1; obtain ⟨d3, g3⟩ := sp_behind ((unhide hro6).alloc _) hm (by omega) hgrow1))
              go_end0
              have hz1 : wr.heap.size + 1 ≤ w1.heap.size := by simpa [World.setCell] using hgrow1.size
              have hf3 : Fresh w (((wr.setCell ⟨b, 6, none⟩ (.int .i64 (wrap64 (N + 1)))).setCell ⟨b, 5, none⟩ (.map (some wr.heap.size))).alloc (.map #[] 0)) S (fun k => S' k ∨ k = wr.heap.size) := by
                rintro k (hk | hk)
                · exact hfre.mono (by simp [World.setCell]) k hk
                · exact Or.inr ⟨by have := htu.size; omega, by simp [World.setCell]; omega⟩
              have ht3 : Turned w (((wr.setCell ⟨b, 6, none⟩ (.int .i64 (wrap64 (N + 1)))).setCell ⟨b, 5, none⟩ (.map (some wr.heap.size))).alloc (.map #[] 0)) b S :=
                ((htu.setCell hfre (Or.inl rfl) _).setCell (hfre.mono (by simp [World.setCell])) (Or.inl rfl) _).alloc _
              exact ⟨rfl, fun k => S' k ∨ k = wr.heap.size, Or.inr ⟨pb, L, _, _, _, _, end_spill ((unhide hhd6).alloc _) ((unhide hro6).alloc _) (Or.inl hps.spb) hps.val (Or.inr rfl) (unhide hon) (fun k _ => empty_more g (unhide hg0') k) (unhide psp) hown1 hgrow1⟩, (ht3.grown hf3 hgrow1 (Or.inr rfl)).setCell (hf3.mono hgrow1.size) (Or.inr (Or.inl hps.spb)) _, hf3.mono (by simpa [World.setCell] using hgrow1.size)⟩
            · subst hM
              have hown' := hide hown
              have hD' := hide hD
              have hmb := own_ne hps.row hown
              have hbm := own_ne hps.hd hown
              have hml := World.ownsMap.lt hown
              clear hown hD
              generalize hgen : id % L = i at *
              have HG := hide hgen
              clear hgen
              have hhd6 := hide ((hps.hd.set 6 (.int .i64 (wrap64 (N + 1)))).congr (fun j _ => hdr_set6 _ _ _ _ j))
              have hro6 := hide (hps.row.setOther (a := ⟨b, 6, none⟩) hne.symm (.int .i64 (wrap64 (N + 1))))
              go_wp2_with (at_mapUpdate; go_must (refine wpList_mapUpdate_own _ rfl _ _ _ 31 rfl 23 23 klaw Yba.underlying31 _ mb _ D rfl (World.ownsMap.setCell (unhide hown') hbm.symm _) (by unfold maxLen; omega) _ _ _ rfl rfl (unhide hk) _ [] (plainElem_int Yba.underlying23 (wfu hv)) ?_; intro w1 hown1 hgrow1; obtain ⟨d3, g3⟩ := sp_behind (unhide hro6) hm hmb hgrow1))
              go_end0
              exact ⟨rfl, S', Or.inr ⟨pb, L, _, _, _, _, end_spill (unhide hhd6) (unhide hro6) hps.spb hps.val hSm (World.ownsMap.setCell (unhide hown') hbm.symm _) (unhide hD') (unhide psp) hown1 hgrow1⟩, ((htu.setCell hfre (Or.inl rfl) _).grown (hfre.mono (by simp [World.setCell])) hgrow1 hSm).setCell (hfre.mono (by simpa [World.setCell] using hgrow1.size)) (Or.inr hps.spb) _, hfre.mono (by simpa [World.setCell] using hgrow1.size)⟩
    · have hu' : (pl (id % L)).used = false := by simpa using hu
      have hs0 := hps.arr.nsp _ hm hu'
      have pf := hide (put_free hps.arr id v hid hu')
      have HS := hide hs0
      rw [hs0] at c3
      have HE := hide he1
      clear hu hs0 he1
      generalize hgen : id % L = i at *
      have HG := hide hgen
      clear hgen
      go_wp2_with fail
      exact bodyPost_ret (results_none rfl _ _ _) rfl ⟨rfl, S', Or.inr ⟨pb, L, _, M, _, g, end_free hps (unhide HS) (unhide pf)⟩, (((htu.setCell hfre (Or.inl rfl) _).setCell (hfre.mono (by simp [World.setCell])) (Or.inr hps.spb) _).setCell (hfre.mono (by simp [World.setCell])) (Or.inr hps.spb) _).setCell (hfre.mono (by simp [World.setCell])) (Or.inr hps.spb) _, hfre.mono (by simp [World.setCell])⟩
end Go.Proofs.Ybulkmrm
