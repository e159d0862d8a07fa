/- LawS0665CRepeat, walked. -/
import Derived.Test.YbulkmtcDoorAg
import Derived.Deep.OwnRows
import Derived.Laws.Closers25b
namespace Go.Proofs.YbulkmtcDoor
open Go.RowKit Go.Lib

/-- The remainder as the walk leaves it, both signed. -/
theorem rem_i64 (u n : Nat) : ∃ r : Nat, r ≤ n ∧ Hid ((u : Int) % ((n : Int) + 1) = (r : Int)) :=
  ⟨u % (n + 1), Nat.le_of_lt_succ (Nat.mod_lt _ (Nat.succ_pos _)), show (u : Int) % ((n : Int) + 1) = ((u % (n + 1) : Nat) : Int) by simp⟩

theorem xor_u8 (x : UInt8) : ∃ v : UInt8, Hid (bits BinOp.xor .u8 ((x.toNat : Nat) : Int) 1 = ((v.toNat : Nat) : Int)) := by
  have h1 := bits_lo_u8 BinOp.xor ((x.toNat : Nat) : Int) 1
  have h2 := bits_hi_u8 BinOp.xor ((x.toNat : Nat) : Int) 1
  generalize bits BinOp.xor .u8 ((x.toNat : Nat) : Int) 1 = z at h1 h2
  refine ⟨UInt8.ofNat z.toNat, ?_⟩
  show z = _
  rw [UInt8.toNat_ofNat']
  omega

/-- A row of bytes is a slice. -/
theorem sl_of_row {w : World} {b l : Nat} {g : Nat → UInt8} (h : w.rowIs b 5 l (fun j => .int .u8 ((g j).toNat : Int))) (h0 : 0 < l) : Sl w (some ⟨b, 0, none⟩) l l g :=
  Or.inr ⟨b, 0, rfl, h.lt, h0, Nat.le_refl _, fun j hj => by rw [Nat.zero_add]; exact h.cell hj⟩

theorem u8_val {a b : Int} (h : a = b) : Value.int .u8 a = .int .u8 b := by rw [h]

set_option maxRecDepth 100000 in
set_option maxHeartbeats 1000000 in
theorem rp_walk (pb po n c reps fl iu : Nat) (f : Nat → UInt8) (w : World) (hn0 : 0 < n) (hn : n ≤ 64) (hr : reps < 256) (hfl : fl < 65536) (hf : Bytes w pb po n f) (hpb : pb < w.heap.size) (hT : Tab w) (hT1 : 1 < w.heap.size) :
    Calls Ybad.prog 4 #[.slice (some ⟨pb, po, none⟩) n c, .int .u8 reps, .int .u16 fl, .int .u64 iu] w fun e w' => e = .returned (.bool true) ∧ Below w.heap.size w w' := by
  have hf' := hide hf
  have hT' := hide hT
  have e0 : ((n : Int) == 0) = false := by simp; omega
  have e1 : decide ((64 : Int) < (n : Int)) = false := by simp; omega
  have e2 : ¬ n = 0 := by omega
  obtain ⟨l, hl⟩ : ∃ l, l = n * (reps % 10 + 1) := ⟨_, rfl⟩
  have hl1 : n ≤ l := by rw [hl]; exact Nat.le_mul_of_pos_right _ (by omega)
  have hl2 : l ≤ 640 := by rw [hl]; exact Nat.le_trans (Nat.mul_le_mul hn (show reps % 10 + 1 ≤ 10 by omega)) (by omega)
  have X1 : Hid (wrap64 ((n : Int) * ((reps : Int) % 10 + 1)) = (l : Int)) := w64 (by rw [hl]; simp) (by omega) (by omega)
  have hmk := hide (fun W => run_make_row' (P := Ybad.prog) 22 5 (.int .u8 0) 1 Ybad.underlying22 (by kernel_rfl) rfl .i64 .i64 l (by omega) (by omega) W)
  obtain ⟨fi, hfi, X3⟩ := rem_i64 fl l
  obtain ⟨m, hm⟩ : ∃ m, m = l - n := ⟨_, rfl⟩
  have hmle : m ≤ 640 := by omega
  obtain ⟨p, hp, X4⟩ := rem_in iu m (by omega)
  obtain ⟨i, hi⟩ : ∃ i, i = n + p := ⟨_, rfl⟩
  have hil : i ≤ l := by omega
  have X4' : Hid (wrap64 ((iu : Int) % ((l : Int) - (n : Int) + 1)) = (p : Int)) := show wrap64 ((iu : Int) % ((l : Int) - (n : Int) + 1)) = (p : Int) by rw [show (l : Int) - (n : Int) = (m : Int) by omega]; exact X4
  have Y2 : Hid (wrap64 ((n : Int) + (p : Int)) = (i : Int)) := w64 (by omega) (by omega) (by omega)
  have Y3 : Hid ((i : Int) - (n : Int) = (p : Int)) := show (i : Int) - (n : Int) = (p : Int) by omega
  have Y4 : Hid (wrap64 ((l : Int) - (i : Int)) = ((l - i : Nat) : Int)) := w64 (by omega) (by omega) (by omega)
  have H5 : Hid (∀ (W : World) (g : Nat → UInt8) (sb : Nat), sb = W.heap.size → Below w.heap.size w W → W.rowIs w.heap.size 5 l (fun j => .int .u8 ((g j).toNat : Int)) →
      Calls Ybad.prog 5 #[.pointer (some ⟨sb, 0, none⟩), .agg #[.bool true, .int .i64 (n : Int)], .int .i64 i, .int .i64 l] (sw W none 0 0 (some ⟨w.heap.size, 0, none⟩) l l) fun e w' => (∃ r : Nat, e = .returned (.int .i64 r) ∧ IsCS (fun k => g (p + k)) (fun k => g (i + k)) (min (l - p) (l - i)) r ∧ r ≤ l - i) ∧ Below w.heap.size w w' ∧ Sl w' (some ⟨w.heap.size, 0, none⟩) l l g) := by
    rintro W g sb rfl hB hR
    have hS := sw_below W none 0 0 (some ⟨w.heap.size, 0, none⟩) l l
    have hz := sw_size W none 0 0 (some ⟨w.heap.size, 0, none⟩) l l
    have hsz := hB.size
    have hsl := (sl_of_row hR (by omega)).below hS
    refine (mf_out W.heap.size (some ⟨w.heap.size, 0, none⟩) l l p i l n g _ (by omega) (by omega) (by omega) hil (Nat.le_refl _) hsl (sw_new W none 0 0 (some ⟨w.heap.size, 0, none⟩) l l) (by omega) ((hT.below hB hT1).below hS (by omega)) (by omega)).mono ?_
    rintro e w1 ⟨⟨r, rfl, hr⟩, hb1⟩
    exact ⟨⟨r, rfl, hr, Nat.le_trans hr.1 (Nat.min_le_right _ _)⟩, (hB.trans (hS.mono hsz)).trans (hb1.mono (by omega)), hsl.below hb1⟩
  have H6 := hide (fun X (g : Nat → UInt8) (hX : Sl X (some ⟨w.heap.size, 0, none⟩) l l g) => exp_any (some ⟨w.heap.size, 0, none⟩) (some ⟨w.heap.size, 0, none⟩) l l l l p i l g g X (by omega) (by omega) (by omega) hil (Nat.le_refl _) hX.isB hX.isB)
  clear hf hT hl hp hi hm hmle X4
  go_enter Ybad.func4, Ybad.ntmps4
  go_wp2_with (simp only [unhide X1, unhide hmk])
  go_loopg [12] l (fun gg i' wr => ∃ k : Nat, gg = l - k ∧ k ≤ l ∧ i' = .int .i64 k ∧ Below w.heap.size w wr ∧ wr.rowIs w.heap.size 5 l (fun j => .int .u8 (if j < k then ((f (j % n)).toNat : Int) else 0)))
  case atStart => exact ⟨0, by omega, by omega, rfl, (Below.refl _ _).alloc (Nat.le_refl _) _, (World.rowIs_made w (.int .u8 0) l 5).congr fun _ _ => by simp⟩
  case round =>
    obtain ⟨k, rfl, hk, rfl, hbel, hrow⟩ := hrel
    by_cases hkl : k < l
    · have d1 : decide ((k : Int) < (l : Int)) = true := by simp; omega
      obtain ⟨kk, hkk⟩ : ∃ kk, kk = k % n := ⟨_, rfl⟩
      have hkn : kk < n := by rw [hkk]; exact Nat.mod_lt _ hn0
      have X2 : Hid ((k : Int) % (n : Int) = (kk : Int)) := show (k : Int) % (n : Int) = (kk : Int) by rw [hkk]; simp
      have cb := (hbel.cell (p := ⟨pb, po + kk, none⟩) hpb).trans (unhide hf' kk hkn)
      have cr := hrow.cell hkl
      have fr := hrow.frozen k
      have HNX : Hid (Below w.heap.size w (wr.setCell ⟨w.heap.size, k, none⟩ (.int .u8 ((f kk).toNat : Int))) ∧ (wr.setCell ⟨w.heap.size, k, none⟩ (.int .u8 ((f kk).toNat : Int))).rowIs w.heap.size 5 l (fun j => .int .u8 (if j < k + 1 then ((f (j % n)).toNat : Int) else 0))) := by
        refine ⟨hbel.setCell (Nat.le_refl _) _, (hrow.set k _).congr fun j hj => ?_⟩
        by_cases hjk : j = k
        · subst hjk; simp [hkk]
        · simp only [if_neg hjk]
          refine u8_val ?_
          by_cases h : j < k
          · rw [if_pos h, if_pos (by omega)]
          · rw [if_neg h, if_neg (by omega)]
      clear hkk hbel hrow
      go_wp2_with (simp only [unhide X2])
      go_roundg (l - (k + 1))
      case measure => omega
      case rel => exact ⟨k + 1, rfl, by omega, by go_num, (unhide HNX).1, (unhide HNX).2⟩
    · have hkn : k = l := by omega
      subst hkn
      have d1 : decide ((k : Int) < (k : Int)) = false := by simp
      have hrow' : wr.rowIs w.heap.size 5 k (fun j => .int .u8 ((f (j % n)).toNat : Int)) := hrow.congr fun j hj => by rw [if_pos hj]
      clear hrow
      by_cases hfk : fi < k
      · have d2 : decide ((fi : Int) < (k : Int)) = true := by simp; omega
        obtain ⟨v, HV⟩ := xor_u8 (f (fi % n))
        have cr := hrow'.cell hfk
        have fr := hrow'.frozen fi
        have HBL := hide (hbel.setCell (p := ⟨w.heap.size, fi, none⟩) (Nat.le_refl _) (.int .u8 (v.toNat : Int)))
        have HRW : Hid ((wr.setCell ⟨w.heap.size, fi, none⟩ (.int .u8 (v.toNat : Int))).rowIs w.heap.size 5 k (fun j => .int .u8 (((fun j => if j = fi then v else f (j % n)) j).toNat : Int))) := by
          refine (hrow'.set fi _).congr fun j hj => ?_
          by_cases h : j = fi
          · simp [h]
          · simp [h]
        have HSZ : Hid (wr.heap.size = (wr.setCell ⟨w.heap.size, fi, none⟩ (.int .u8 (v.toNat : Int))).heap.size) := show wr.heap.size = (wr.setCell ⟨w.heap.size, fi, none⟩ (.int .u8 (v.toNat : Int))).heap.size by simp [go_sem]
        clear hbel hrow'
        go_wp2_with (simp only [unhide X3, unhide X4', unhide Y2, unhide HV])
        refine (unhide H5 _ _ _ (unhide HSZ) (unhide HBL) (unhide HRW)).mono ?_
        rintro e w1 ⟨⟨r, rfl, hr, hrl⟩, hb1, hs1⟩
        have hr' := hide hr
        have HB1 := hide hb1
        have HS1 := hide hs1
        have HRL := hide hrl
        clear hr hb1 hs1 hrl
        go_wp2_with (simp only [unhide Y3])
        refine (unhide H6 _ _ (unhide HS1)).mono ?_
        rintro e w2 ⟨⟨r2, rfl, hr2⟩, n2, rfl⟩
        obtain rfl : r = r2 := (unhide hr').unique hr2
        clear hr2
        go_wp2_with fail
        go_ret
        exact ⟨by have := unhide HRL; simp; omega, below_drewN (unhide HB1) n2⟩
      · have d2 : decide ((fi : Int) < (k : Int)) = false := by simp; omega
        have HBL := hide hbel
        have HRW := hide hrow'
        clear hbel hrow'
        go_wp2_with (simp only [unhide X3, unhide X4', unhide Y2])
        refine (unhide H5 _ _ _ rfl (unhide HBL) (unhide HRW)).mono ?_
        rintro e w1 ⟨⟨r, rfl, hr, hrl⟩, hb1, hs1⟩
        have hr' := hide hr
        have HB1 := hide hb1
        have HS1 := hide hs1
        have HRL := hide hrl
        clear hr hb1 hs1 hrl
        go_wp2_with (simp only [unhide Y3])
        refine (unhide H6 _ _ (unhide HS1)).mono ?_
        rintro e w2 ⟨⟨r2, rfl, hr2⟩, n2, rfl⟩
        obtain rfl : r = r2 := (unhide hr').unique hr2
        clear hr2
        go_wp2_with fail
        go_ret
        exact ⟨by have := unhide HRL; simp; omega, below_drewN (unhide HB1) n2⟩

set_option maxRecDepth 100000 in
theorem rp_none (a : Option Addr) (n c : Nat) (x y z : Value) (w : World) (m0 : n ≤ maxLen) (h : n = 0 ∨ 64 < n) :
    Calls Ybad.prog 4 #[.slice a n c, x, y, z] w fun e w' => e = .returned (.bool true) ∧ Below w.heap.size w w' := by
  unfold maxLen at m0
  by_cases h1 : n = 0
  · subst h1
    clear h
    go_enter Ybad.func4, Ybad.ntmps4
    go_wp2_with fail
    go_ret
    exact ⟨rfl, Below.refl _ _⟩
  · have h1' : ((n : Int) == 0) = false := by simp; omega
    have h2' : decide ((64 : Int) < (n : Int)) = true := by simp; omega
    clear h
    go_enter Ybad.func4, Ybad.ntmps4
    go_wp2_with fail
    go_ret
    exact ⟨rfl, Below.refl _ _⟩

theorem rp_any (a : Option Addr) (n c reps fl iu : Nat) (f : Nat → UInt8) (w : World) (m0 : n ≤ maxLen) (hr : reps < 256) (hfl : fl < 65536) (hf : Sl w a n c f) (hT : Tab w) (hT1 : 1 < w.heap.size) :
    Calls Ybad.prog 4 #[.slice a n c, .int .u8 reps, .int .u16 fl, .int .u64 iu] w fun e w' => e = .returned (.bool true) ∧ Below w.heap.size w w' := by
  by_cases h : n = 0 ∨ 64 < n
  · exact rp_none a n c _ _ _ w m0 h
  · rcases hf with hf | ⟨b, o, rfl, hb, _, _, hf⟩
    · omega
    · exact rp_walk b o n c reps fl iu f w (by omega) (by omega) hr hfl hf hb hT hT1
end Go.Proofs.YbulkmtcDoor
