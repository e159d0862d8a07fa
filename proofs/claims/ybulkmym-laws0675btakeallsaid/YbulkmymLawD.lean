/- LawS0675BTakeAll at a sorted set. -/
import Derived.Test.YbulkmymRow
import Derived.Deep.CutBlock
import Derived.Laws.Externs
namespace Go.Proofs.Ybulkmym
open Go.RowKit Go.Lib

@[go_sem] theorem bits_run (b : Nat) (w : World) : (callFunc 7 #[.float .f64 b]).run Yba.prog w = .ok (.value (.int .u64 b)) w := by
  rw [run_callFunc_extern Yba.func7 (by kernel_rfl) (by kernel_rfl) (by kernel_rfl) (e := Go.Extern.MathFloatBits.float64bits) (by kernel_rfl)]
  rfl

set_option maxRecDepth 100000 in
set_option maxHeartbeats 3200000 in
theorem law4 (s n c sl scap xl xcap : Nat) (a sp xp : Option Addr) (h : Bool) (A : Nat → Option Addr) (L C : Nat → Nat) (F : Nat → Nat) (Z : Nat → Int) (w : World) (hs8 : s < 256) (hs : (s : Int) % 6 = 4) (hn : n ≤ 256) (hsl : sl ≤ 256) (hxl : xl ≤ 256)
    (hE : Ro w w.heap.size a n (fun i => .slice (A i) (L i) (C i))) (hS : Ro w w.heap.size sp sl (fun i => .float .f64 (F i))) (hX : Ro w w.heap.size xp xl (fun i => .int .i64 (Z i))) (hEl : ∀ i, i < n → El w w.heap.size (A i) (L i)) :
    Calls Yba.prog 3 #[.int .u8 s, .slice a n c, .slice sp sl scap, .slice xp xl xcap, .bool h] w fun e w' => e = .returned (.bool true) ∧ Below w.heap.size w w' := by
  have HK := hide hs
  have HE := hide hE
  have HS := hide hS
  have HX := hide hX
  have HEl := hide hEl
  clear hs hE hS hX hEl
  have d1 : decide ((256 : Int) < (n : Int)) = false := by simp; omega
  have d2 : decide ((256 : Int) < (sl : Int)) = false := by simp; omega
  have d3 : decide ((256 : Int) < (xl : Int)) = false := by simp; omega
  have hmk := hide (fun W => run_make_row' (P := Yba.prog) 23 49 (.float .f64 0) 8 Yba.underlying23 Yba.info49 rfl .i64 .i64 n (by omega) (by omega) W)
  go_enter Yba.func3, Yba.ntmps3
  go_upto_region 7 with (simp only [unhide HK, unhide hmk])
  have hw1 : ∃ w1, w1 = (w.alloc (.cells #[.int .i64 0, .int .i64 1, .int .i64 2, .int .i64 3, .int .i64 4, .int .i64 5] 26)).alloc (.cells (madeCells #[.float .f64 0] n) 49) := ⟨_, rfl⟩
  obtain ⟨w1, hw1⟩ := hw1
  rw [← hw1]
  have hz1 : w1.heap.size = w.heap.size + 2 := by rw [hw1]; simp [go_sem]
  have HB1 : Hid (Below w.heap.size w w1) := show Below w.heap.size w w1 by rw [hw1]; exact ((Below.refl _ _).alloc (Nat.le_refl _) _).alloc (by simp [go_sem]) _
  have HR1 : Hid (w1.heap[w.heap.size + 1]? = some (.cells (List.replicate n (.float .f64 0)).toArray 49 (0, 0))) := by
    show w1.heap[w.heap.size + 1]? = some (.cells (List.replicate n (.float .f64 0)).toArray 49 (0, 0))
    rw [hw1, ← made_list]
    have e1 : (w.alloc (.cells #[.int .i64 0, .int .i64 1, .int .i64 2, .int .i64 3, .int .i64 4, .int .i64 5] 26)).heap.size = w.heap.size + 1 := by simp [go_sem]
    rw [← e1]
    exact heap_alloc_new _ _
  clear hw1 hmk
  obtain ⟨ks, hks⟩ : ∃ ks, ks = Nat.min sl n := ⟨_, rfl⟩
  have hks1 : ks ≤ n := by rw [hks]; exact Nat.min_le_right _ _
  have hks2 : ks ≤ sl := by rw [hks]; exact Nat.min_le_left _ _
  have HP : Hid (0 < (firsts (fun i => .float .f64 (F i)) ks).length → (some (⟨w.heap.size + 1, 0, none⟩ : Addr)) = some ⟨w.heap.size + 1, 0, none⟩ ∧ ∃ ad, sp = some ad ∧ ∀ j v, (firsts (fun i => .float .f64 (F i)) ks)[j]? = some v → w1.cell? (ad.add j) = some v) := fun h0 => by
    rw [firsts_len] at h0
    rcases (unhide HS).below (unhide HB1) with h | ⟨b, o, rfl, _, hc⟩
    · omega
    · refine ⟨rfl, _, rfl, fun j v hj => ?_⟩
      by_cases hjk : j < ks
      · rw [firsts_get _ _ _ hjk] at hj
        rw [Go.WideShapes.add_plain, hc j (by omega)]; exact hj
      · rw [List.getElem?_eq_none (by rw [firsts_len]; omega)] at hj; cases hj
  have HKS := hide hks
  clear hks
  have t1 : (Yba.prog.info? 49).map (·.size) = some 1 := by kernel_rfl
  have t2 : (firsts (fun i => .float .f64 (F i)) ks).length = Nat.min sl n := by rw [firsts_len]; exact unhide HKS
  have t3 : 0 + (firsts (fun i => .float .f64 (F i)) ks).length ≤ (List.replicate n (Value.float .f64 0)).length := by rw [firsts_len]; simp; omega
  have t4 : ∀ v ∈ firsts (fun i => .float .f64 (F i)) ks, v.oneCell' = true := by simp [firsts, Value.oneCell']
  have T := hide (And.intro t1 (And.intro t2 (And.intro t3 t4)))
  clear t1 t2 t3 t4
  go_upto_if 56 with ((refine wpList_copy_splice (by rfl) (.tmp 53) (.tmp 54) 23 23 (by rfl) 49 Yba.underlying23 (unhide T).1 (some ⟨w.heap.size + 1, 0, none⟩) sp n n sl scap (by rfl) (by rfl) (w.heap.size + 1) 0 (List.replicate n (.float .f64 0)) 49 (unhide HR1) (firsts (fun i => .float .f64 (F i)) ks) (unhide T).2.1 (unhide HP) (unhide T).2.2.1 (unhide T).2.2.2 w.heap.size w (unhide HB1) (by omega) ?_; intro w2 HR2 hB2))
  have HR3 : Hid (w2.rowIs (w.heap.size + 1) 49 n (fun j => .float .f64 (if j < ks then F j else 0))) := (row_of_splice hks1 (unhide HR2)).congr fun j _ => by split <;> rfl
  have HB2 := hide hB2
  clear hB2 HR2 HR1 HB1 HP T
  obtain ⟨nn, hnn⟩ : ∃ nn, nn = n / 2 + 1 := ⟨_, rfl⟩
  have XN : Hid ((n : Int) / 2 + 1 = (nn : Int)) := show (n : Int) / 2 + 1 = (nn : Int) by omega
  have hnn2 : nn ≤ 129 := by omega
  have hmk := hide (fun W => run_make_row' (P := Yba.prog) 24 2 (.int .i64 0) 8 Yba.underlying24 Yba.info2 rfl .i64 .i64 nn (by omega) (by omega) W)
  have HNN := hide hnn
  clear hnn
  go_cut [15] from 57 to 63 (fun e wx => (∃ xo le ce, e = .slice xo le ce ∧ ExOk wx (w.heap.size + 1) n h xo le ce) ∧ Below w.heap.size w wx ∧ wx.rowIs (w.heap.size + 1) 49 n (fun j => .float .f64 (if j < ks then F j else 0)))
  case first =>
    cases h
    · go_wp2_with fail
      go_meet
      exact ⟨⟨none, 0, 0, rfl, Or.inl ⟨rfl, rfl, rfl, rfl⟩⟩, unhide HB2, unhide HR3⟩
    · go_upto_region 11 with (simp only [unhide XN, unhide hmk])
      have hw3 : ∃ w3, w3 = w2.alloc (.cells (madeCells #[.int .i64 0] nn) 2) := ⟨_, rfl⟩
      obtain ⟨w3, hw3⟩ := hw3
      rw [← hw3]
      have l2 : w.heap.size + 1 < w2.heap.size := (unhide HR3).lt
      have HB3 : Hid (Below w.heap.size w w3) := show Below w.heap.size w w3 by rw [hw3]; exact (unhide HB2).alloc (by omega) _
      have HQ3 : Hid (w3.heap[w2.heap.size]? = some (.cells (List.replicate nn (.int .i64 0)).toArray 2 (0, 0))) := by
        show w3.heap[w2.heap.size]? = some (.cells (List.replicate nn (.int .i64 0)).toArray 2 (0, 0))
        rw [hw3, ← made_list]
        exact heap_alloc_new _ _
      have HB4 : Hid (Below w2.heap.size w2 w3) := show Below w2.heap.size w2 w3 by rw [hw3]; exact (Below.refl _ _).alloc (Nat.le_refl _) _
      clear hw3
      obtain ⟨kx, hkx⟩ : ∃ kx, kx = Nat.min xl nn := ⟨_, rfl⟩
      have hkx1 : kx ≤ nn := by rw [hkx]; exact Nat.min_le_right _ _
      have hkx2 : kx ≤ xl := by rw [hkx]; exact Nat.min_le_left _ _
      have HP := hide (copy_pos ⟨w2.heap.size, 0, none⟩ ((unhide HX).below (unhide HB3)) hkx2)
      have t1 : (Yba.prog.info? 2).map (·.size) = some 1 := by kernel_rfl
      have t2 : (firsts (fun i => .int .i64 (Z i)) kx).length = Nat.min xl nn := by rw [firsts_len]; exact hkx
      have t3 : 0 + (firsts (fun i => .int .i64 (Z i)) kx).length ≤ (List.replicate nn (Value.int .i64 0)).length := by rw [firsts_len]; simp; omega
      have t4 : ∀ v ∈ firsts (fun i => .int .i64 (Z i)) kx, v.oneCell' = true := by simp [firsts, Value.oneCell']
      have T := hide (And.intro t1 (And.intro t2 (And.intro t3 t4)))
      clear t1 t2 t3 t4 hkx
      go_wp2_with ((refine wpList_copy_splice (by rfl) (.tmp 61) (.tmp 62) 24 24 (by rfl) 2 Yba.underlying24 (unhide T).1 (some ⟨w2.heap.size, 0, none⟩) xp nn nn xl xcap (by rfl) (by rfl) w2.heap.size 0 (List.replicate nn (.int .i64 0)) 2 (unhide HQ3) (firsts (fun i => .int .i64 (Z i)) kx) (unhide T).2.1 (unhide HP) (unhide T).2.2.1 (unhide T).2.2.2 w2.heap.size w2 (unhide HB4) (Nat.le_refl _) ?_; intro w4 HR4 hB4))
      go_meet
      refine ⟨⟨some ⟨w2.heap.size, 0, none⟩, nn, nn, rfl, Or.inr ⟨rfl, w2.heap.size, fun j => if j < kx then Z j else 0, rfl, unhide HNN, unhide HNN, by omega, ?_⟩⟩, (unhide HB2).trans (hB4.mono (unhide HB2).size), (unhide HR3).of_block (hB4.block _ l2)⟩
      rw [← unhide HNN]
      exact (row_of_splice hkx1 (unhide HR4)).congr fun j _ => by dsimp only; split <;> rfl
  case rest =>
    obtain ⟨⟨xo, le, ce, rfl, hex⟩, hB, hrow⟩ := hcut
    have HEX := hide hex
    have HBc := hide hB
    have HRW := hide hrow
    clear hex hB hrow HR3 HB2 hmk XN HNN
    go_wp2_with fail
    have st := hide (start_st wc 4 (.slice a n c) (.slice (some ⟨w.heap.size + 1, 0, none⟩) n n) (.slice xo le ce) (.slice none 0 0))
    have hBc : w.heap.size ≤ wc.heap.size := (unhide HBc).size
    go_loopg [21, 22] n (fun gg pp jj wr => ∃ k : Nat, gg = n - k ∧ k ≤ n ∧ pp = .int .i64 0 ∧ jj = .int .i64 k ∧ Cn wr wc.heap.size 4 (.slice a n c) (.slice (some ⟨w.heap.size + 1, 0, none⟩) n n) (.slice xo le ce) (.slice none 0 0) k ∧ (∃ els scs, En wr (wc.heap.size + 1) (.slice none 0 0) els scs (.slice none 0 0) (.slice none 0 0) ∧ wr.ownsRow (wc.heap.size + 2) 34 1 els k (firsts (fun i => .slice (A i) (L i) (C i)) k) ∧ wr.ownsRow (wc.heap.size + 2) 49 1 scs k (firsts (fun j => .float .f64 (if j < ks then F j else 0)) k)) ∧ Below wc.heap.size wc wr)
    case atStart => exact ⟨0, by omega, by omega, rfl, rfl, (unhide st).1, ⟨_, _, (unhide st).2.1, World.ownsRow_nil _ _ _ _, World.ownsRow_nil _ _ _ _⟩, (unhide st).2.2⟩
    case round =>
      obtain ⟨k, rfl, hk, rfl, rfl, hC, ⟨els, scs, hEn, ho, hos⟩, hB⟩ := hrel
      have hsb : w.heap.size + 1 < wc.heap.size := (unhide HRW).lt
      clear st
      by_cases hkn : k < n
      · rcases unhide HE with h0 | ⟨ab, ao, rfl, hab, hc⟩
        · omega
        · have d1' : decide ((k : Int) < (n : Int)) = true := by simp; omega
          have ck : ∀ X, Below wc.heap.size wc X → X.cell? ⟨ab, ao + k, none⟩ = some (.slice (A k) (L k) (C k)) := fun X hX => (hX.cell (p := ⟨ab, ao + k, none⟩) (show ab < wc.heap.size by omega)).trans (((unhide HBc).cell (p := ⟨ab, ao + k, none⟩) hab).trans (hc k hkn))
          have sk : wr.cell? ⟨w.heap.size + 1, k, none⟩ = some (.float .f64 (if k < ks then F k else 0)) := (hB.cell (p := ⟨w.heap.size + 1, k, none⟩) hsb).trans ((unhide HRW).cell hkn)
          have H4 := hide (take_srt wc.heap.size ab ao n c k (L k) (C k) (w.heap.size + 1) k n n (A k) (if k < ks then F k else 0) _ _ _ els scs _ _ (firsts (fun i => .slice (A i) (L i) (C i)) k) (firsts (fun j => .float .f64 (if j < ks then F j else 0)) k) wr hC hEn ho hos (by omega) hkn hn hkn (by omega) hsb (ck wr hB) sk)
          have HB := hide hB
          have CK := hide ck
          clear hC hEn ho hos hB ck hc sk
          go_wp2_with fail
          refine (unhide H4).mono ?_
          rintro e w' ⟨rfl, hC', ⟨els', scs', hE', ho', hos'⟩, hB'⟩
          have HC2 := hide hC'
          have HE2 := hide hE'
          have HO2 := hide ho'
          have HS2 := hide hos'
          have HB2 : Hid (Below wc.heap.size wc w') := (unhide HB).trans hB'
          clear hC' hE' ho' hos' hB' H4
          have cc := unhide CK w' (unhide HB2)
          go_wp2_with fail
          go_quiet (fail)
          go_wp2_with fail
          go_quiet (fail)
          go_wp2_with fail
          go_roundg (n - (k + 1))
          case measure => omega
          case rel => exact ⟨k + 1, rfl, by omega, rfl, by go_num, (unhide HC2), ⟨els', scs', unhide HE2, by rw [firsts_succ]; exact unhide HO2, by rw [firsts_succ]; exact unhide HS2⟩, below_drewN (unhide HB2) _⟩
      · have hkn' : k = n := by omega
        subst hkn'
        have dk : decide ((k : Int) < (k : Int)) = false := by simp
        obtain ⟨_, _, _, _, _, c22, _⟩ := hC.cells
        obtain ⟨ea, ec, rfl, hro⟩ := ro_of_own ho
        obtain ⟨sa, sc', rfl, hrs⟩ := ro_of_own hos
        obtain ⟨e4, e6, e7, e8, e9, _⟩ := hEn.cells
        have hBw : Below w.heap.size w wr := (unhide HBc).trans (hB.mono hBc)
        have H6 := hide (beq_any ea a k ec c w.heap.size _ _ A L C wr hn hro ((unhide HE).below hBw) (fun i hi => (unhide HEl i hi).below hBw))
        have HBw := hide hBw
        have SK : Hid (∀ j, j < k → wr.cell? ⟨w.heap.size + 1, j, none⟩ = some (.float .f64 (if j < ks then F j else 0))) := fun j hj => (hB.cell (p := ⟨w.heap.size + 1, j, none⟩) hsb).trans ((unhide HRW).cell hj)
        have HRS := hide hrs
        clear hC hEn ho hos hB hBw hro hrs
        go_wp2_with fail
        refine (unhide H6).mono ?_
        rintro e w' ⟨rfl, m', rfl⟩
        go_wp2_with fail
        go_loopg [29] k (fun gg jj wx => ∃ j : Nat, gg = k - j ∧ j ≤ k ∧ jj = .int .i64 j ∧ ∃ m, wx = wr.drewN m)
        case atStart => exact ⟨0, by omega, by omega, rfl, _, rfl⟩
        case round =>
          obtain ⟨j, rfl, hj, rfl, m, rfl⟩ := hrel
          by_cases hjk : j < k
          · rcases unhide HRS with h0 | ⟨gb, go, rfl, _, hgc⟩
            · omega
            · have dj : decide ((j : Int) < (k : Int)) = true := by simp; omega
              have g1 : wr.cell? ⟨gb, go + j, none⟩ = some (.float .f64 (if j < ks then F j else 0)) := hgc j hjk
              have g2 := unhide SK j hjk
              clear hgc
              generalize (if j < ks then F j else 0) = fv at *
              go_wp2_with fail
              go_quiet (fail)
              go_wp2_with fail
              go_roundg (k - (j + 1))
              case measure => omega
              case rel => exact ⟨j + 1, rfl, by omega, by go_num, _, rfl⟩
          · have : j = k := by omega
            subst this
            go_wp2_with fail
            go_ret
            exact ⟨rfl, below_drewN (unhide HBw) _⟩
end Go.Proofs.Ybulkmym
