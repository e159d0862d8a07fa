/- LawS0675BTakeAll at a stream. -/
import Derived.Test.YbulkmymLawE
import Derived.Deep.CutBlock
namespace Go.Proofs.Ybulkmym
open Go.RowKit Go.Lib

theorem make_ents (n : Nat) (hn : n ≤ 256) (W : World) : (Instr.makeSlice 27 (.int .i64 (n : Int)) (.int .i64 (n : Int))).run Yba.prog W = .ok (.slice (some ⟨W.heap.size, 0, none⟩) n n) (W.alloc (.cells (madeCells #[.int .u64 0, .int .u64 0, .slice none 0 0] (n * 3)) 32)) := by
  obtain ⟨i, hi, hzz⟩ := Option.map_eq_some_iff.1 Yba.inf32
  simp only [Prod.mk.injEq] at hzz
  obtain ⟨hz, hs, hb⟩ := hzz
  have hr := run_make (P := Yba.prog) W 27 32 i _ Yba.underlying27 hi hz .i64 .i64 n n (by omega) (Int.le_refl _) (by rw [hb]; omega) (by omega)
  simp only [Int.toNat_natCast, hs] at hr
  exact hr

/-- The cells of the entries, the first j of them laid. -/
def entv (a : Option Addr) (c j q : Nat) : Value := if q % 3 = 2 then (if q / 3 < j then .slice a (q / 3) c else .slice none 0 0) else .int .u64 0

theorem ents_start (w : World) (n : Nat) (a : Option Addr) (c : Nat) : (w.alloc (.cells (madeCells #[.int .u64 0, .int .u64 0, .slice none 0 0] (n * 3)) 32)).rowIs w.heap.size 32 (n * 3) (entv a c 0) := by
  have h := World.rowIs_alloc w (madeCells #[.int .u64 0, .int .u64 0, .slice none 0 0] (n * 3)) 32 (entv a c 0) (fun j hj => by
    rw [size_madeCells] at hj
    rw [Array.getElem?_eq_getElem (by rw [size_madeCells]; exact hj)]
    simp only [madeCells, Array.getElem_map, Array.getElem_range]
    congr 1
    have h3 : j % 3 = 0 ∨ j % 3 = 1 ∨ j % 3 = 2 := by omega
    rcases h3 with h | h | h <;> simp [entv, h])
  rw [size_madeCells] at h
  exact h

theorem entv_step (a : Option Addr) (c j q : Nat) : (if q = j * 3 + 2 then .slice a j c else entv a c j q) = entv a c (j + 1) q := by
  unfold entv
  by_cases h : q = j * 3 + 2
  · subst h
    rw [if_pos rfl, if_pos (by omega), if_pos (by omega), show (j * 3 + 2) / 3 = j by omega]
  · rw [if_neg h]
    by_cases h2 : q % 3 = 2
    · rw [if_pos h2, if_pos h2]
      by_cases h3 : q / 3 < j
      · rw [if_pos h3, if_pos (by omega)]
      · rw [if_neg h3, if_neg (by omega)]
    · rw [if_neg h2, if_neg h2]

theorem entv_0 (a : Option Addr) (c n k : Nat) : entv a c n (k * 3) = .int .u64 0 := by
  unfold entv; rw [if_neg (by omega)]
theorem entv_1 (a : Option Addr) (c n k : Nat) : entv a c n (k * 3 + 1) = .int .u64 0 := by
  unfold entv; rw [if_neg (by omega)]
theorem entv_2 (a : Option Addr) (c n k : Nat) (h : k < n) : entv a c n (k * 3 + 2) = .slice a k c := by
  unfold entv; rw [if_pos (by omega), if_pos (by omega), show (k * 3 + 2) / 3 = k by omega]

/-- The cells of the first k entries, as a list. -/
def trip (a : Option Addr) (c : Nat) : Nat → List Value
  | 0 => []
  | k + 1 => trip a c k ++ [.int .u64 0, .int .u64 0, .slice a k c]

theorem trip_len (a : Option Addr) (c k : Nat) : (trip a c k).length = k * 3 := by
  induction k with
  | zero => rfl
  | succ k ih => rw [trip, List.length_append, ih]; simp; omega

theorem trip_get (a : Option Addr) (c k j : Nat) (h : j < k) : (trip a c k)[j * 3 + 2]? = some (.slice a j c) := by
  induction k with
  | zero => omega
  | succ k ih =>
    rw [trip]
    by_cases hj : j < k
    · rw [List.getElem?_append_left (by rw [trip_len]; omega)]; exact ih hj
    · obtain rfl : j = k := by omega
      rw [List.getElem?_append_right (by rw [trip_len]; omega), trip_len, show j * 3 + 2 - j * 3 = 2 by omega]
      rfl

theorem ents_of_own {w : World} {B k c : Nat} {a : Option Addr} {u : Value} (h : w.ownsRow B 32 3 u k (trip a c k)) :
    ∃ ga gc, u = .slice ga k gc ∧ (k = 0 ∨ ∃ g, ga = some ⟨g, 0, none⟩ ∧ ∀ j, j < k → w.cell? ⟨g, j * 3 + 2, none⟩ = some (.slice a j c)) := by
  by_cases h0 : k = 0
  · subst h0
    rcases h.2 with ⟨rfl, _⟩ | ⟨g, cap, cur, rfl, _⟩
    · exact ⟨_, _, rfl, Or.inl rfl⟩
    · exact ⟨_, _, rfl, Or.inl rfl⟩
  · obtain ⟨g, cap, rfl, _, _⟩ := h.form (by omega)
    refine ⟨_, _, rfl, Or.inr ⟨g, rfl, fun j hj => ?_⟩⟩
    rw [h.cellAt _ (by omega), trip_get _ _ _ _ hj]

set_option maxRecDepth 100000 in
set_option maxHeartbeats 3200000 in
theorem law5 (s n c sl scap xl xcap : Nat) (a sp xp : Option Addr) (h : Bool) (A : Nat → Option Addr) (L C : Nat → Nat) (F : Nat → Nat) (Z : Nat → Int) (w : World) (hs8 : s < 256) (hs : (s : Int) % 6 = 5) (hn : n ≤ 256) (hcn : n ≤ c) (hsl : sl ≤ 256) (hxl : xl ≤ 256)
    (hE : Ro w w.heap.size a n (fun i => .slice (A i) (L i) (C i))) (hS : Ro w w.heap.size sp sl (fun i => .float .f64 (F i))) (hX : Ro w w.heap.size xp xl (fun i => .int .i64 (Z i))) (hEl : ∀ i, i < n → El w w.heap.size (A i) (L i)) :
    Calls Yba.prog 3 #[.int .u8 s, .slice a n c, .slice sp sl scap, .slice xp xl xcap, .bool h] w fun e w' => e = .returned (.bool true) ∧ Below w.heap.size w w' := by
  have HK := hide hs
  have HE := hide hE
  have HS := hide hS
  have HX := hide hX
  have HEl := hide hEl
  clear hs hE hS hX hEl
  have d1 : decide ((256 : Int) < (n : Int)) = false := by simp; omega
  have d2 : decide ((256 : Int) < (sl : Int)) = false := by simp; omega
  have d3 : decide ((256 : Int) < (xl : Int)) = false := by simp; omega
  have hmk := hide (fun W => run_make_row' (P := Yba.prog) 23 49 (.float .f64 0) 8 Yba.underlying23 Yba.info49 rfl .i64 .i64 n (by omega) (by omega) W)
  go_enter Yba.func3, Yba.ntmps3
  go_upto_region 7 with (simp only [unhide HK, unhide hmk])
  have hw1 : ∃ w1, w1 = (w.alloc (.cells #[.int .i64 0, .int .i64 1, .int .i64 2, .int .i64 3, .int .i64 4, .int .i64 5] 26)).alloc (.cells (madeCells #[.float .f64 0] n) 49) := ⟨_, rfl⟩
  obtain ⟨w1, hw1⟩ := hw1
  rw [← hw1]
  have hz1 : w1.heap.size = w.heap.size + 2 := by rw [hw1]; simp [go_sem]
  have HB1 : Hid (Below w.heap.size w w1) := show Below w.heap.size w w1 by rw [hw1]; exact ((Below.refl _ _).alloc (Nat.le_refl _) _).alloc (by simp [go_sem]) _
  have HR1 : Hid (w1.heap[w.heap.size + 1]? = some (.cells (List.replicate n (.float .f64 0)).toArray 49 (0, 0))) := by
    show w1.heap[w.heap.size + 1]? = some (.cells (List.replicate n (.float .f64 0)).toArray 49 (0, 0))
    rw [hw1, ← made_list]
    have e1 : (w.alloc (.cells #[.int .i64 0, .int .i64 1, .int .i64 2, .int .i64 3, .int .i64 4, .int .i64 5] 26)).heap.size = w.heap.size + 1 := by simp [go_sem]
    rw [← e1]
    exact heap_alloc_new _ _
  clear hw1 hmk
  obtain ⟨ks, hks⟩ : ∃ ks, ks = Nat.min sl n := ⟨_, rfl⟩
  have hks1 : ks ≤ n := by rw [hks]; exact Nat.min_le_right _ _
  have hks2 : ks ≤ sl := by rw [hks]; exact Nat.min_le_left _ _
  have HP : Hid (0 < (firsts (fun i => .float .f64 (F i)) ks).length → (some (⟨w.heap.size + 1, 0, none⟩ : Addr)) = some ⟨w.heap.size + 1, 0, none⟩ ∧ ∃ ad, sp = some ad ∧ ∀ j v, (firsts (fun i => .float .f64 (F i)) ks)[j]? = some v → w1.cell? (ad.add j) = some v) := fun h0 => by
    rw [firsts_len] at h0
    rcases (unhide HS).below (unhide HB1) with h | ⟨b, o, rfl, _, hc⟩
    · omega
    · refine ⟨rfl, _, rfl, fun j v hj => ?_⟩
      by_cases hjk : j < ks
      · rw [firsts_get _ _ _ hjk] at hj
        rw [Go.WideShapes.add_plain, hc j (by omega)]; exact hj
      · rw [List.getElem?_eq_none (by rw [firsts_len]; omega)] at hj; cases hj
  have HKS := hide hks
  clear hks
  have t1 : (Yba.prog.info? 49).map (·.size) = some 1 := by kernel_rfl
  have t2 : (firsts (fun i => .float .f64 (F i)) ks).length = Nat.min sl n := by rw [firsts_len]; exact unhide HKS
  have t3 : 0 + (firsts (fun i => .float .f64 (F i)) ks).length ≤ (List.replicate n (Value.float .f64 0)).length := by rw [firsts_len]; simp; omega
  have t4 : ∀ v ∈ firsts (fun i => .float .f64 (F i)) ks, v.oneCell' = true := by simp [firsts, Value.oneCell']
  have T := hide (And.intro t1 (And.intro t2 (And.intro t3 t4)))
  clear t1 t2 t3 t4
  go_upto_if 56 with ((refine wpList_copy_splice (by rfl) (.tmp 53) (.tmp 54) 23 23 (by rfl) 49 Yba.underlying23 (unhide T).1 (some ⟨w.heap.size + 1, 0, none⟩) sp n n sl scap (by rfl) (by rfl) (w.heap.size + 1) 0 (List.replicate n (.float .f64 0)) 49 (unhide HR1) (firsts (fun i => .float .f64 (F i)) ks) (unhide T).2.1 (unhide HP) (unhide T).2.2.1 (unhide T).2.2.2 w.heap.size w (unhide HB1) (by omega) ?_; intro w2 HR2 hB2))
  have HR3 : Hid (w2.rowIs (w.heap.size + 1) 49 n (fun j => .float .f64 (if j < ks then F j else 0))) := (row_of_splice hks1 (unhide HR2)).congr fun j _ => by split <;> rfl
  have HB2 := hide hB2
  clear hB2 HR2 HR1 HB1 HP T
  obtain ⟨nn, hnn⟩ : ∃ nn, nn = n / 2 + 1 := ⟨_, rfl⟩
  have XN : Hid ((n : Int) / 2 + 1 = (nn : Int)) := show (n : Int) / 2 + 1 = (nn : Int) by omega
  have hnn2 : nn ≤ 129 := by omega
  have hmk := hide (fun W => run_make_row' (P := Yba.prog) 24 2 (.int .i64 0) 8 Yba.underlying24 Yba.info2 rfl .i64 .i64 nn (by omega) (by omega) W)
  have HNN := hide hnn
  clear hnn
  go_cut [15] from 57 to 63 (fun e wx => (∃ xo le ce, e = .slice xo le ce ∧ ExOk wx (w.heap.size + 1) n h xo le ce) ∧ Below w.heap.size w wx ∧ wx.rowIs (w.heap.size + 1) 49 n (fun j => .float .f64 (if j < ks then F j else 0)))
  case first =>
    cases h
    · go_wp2_with fail
      go_meet
      exact ⟨⟨none, 0, 0, rfl, Or.inl ⟨rfl, rfl, rfl, rfl⟩⟩, unhide HB2, unhide HR3⟩
    · go_upto_region 11 with (simp only [unhide XN, unhide hmk])
      have hw3 : ∃ w3, w3 = w2.alloc (.cells (madeCells #[.int .i64 0] nn) 2) := ⟨_, rfl⟩
      obtain ⟨w3, hw3⟩ := hw3
      rw [← hw3]
      have l2 : w.heap.size + 1 < w2.heap.size := (unhide HR3).lt
      have HB3 : Hid (Below w.heap.size w w3) := show Below w.heap.size w w3 by rw [hw3]; exact (unhide HB2).alloc (by omega) _
      have HQ3 : Hid (w3.heap[w2.heap.size]? = some (.cells (List.replicate nn (.int .i64 0)).toArray 2 (0, 0))) := by
        show w3.heap[w2.heap.size]? = some (.cells (List.replicate nn (.int .i64 0)).toArray 2 (0, 0))
        rw [hw3, ← made_list]
        exact heap_alloc_new _ _
      have HB4 : Hid (Below w2.heap.size w2 w3) := show Below w2.heap.size w2 w3 by rw [hw3]; exact (Below.refl _ _).alloc (Nat.le_refl _) _
      clear hw3
      obtain ⟨kx, hkx⟩ : ∃ kx, kx = Nat.min xl nn := ⟨_, rfl⟩
      have hkx1 : kx ≤ nn := by rw [hkx]; exact Nat.min_le_right _ _
      have hkx2 : kx ≤ xl := by rw [hkx]; exact Nat.min_le_left _ _
      have HP := hide (copy_pos ⟨w2.heap.size, 0, none⟩ ((unhide HX).below (unhide HB3)) hkx2)
      have t1 : (Yba.prog.info? 2).map (·.size) = some 1 := by kernel_rfl
      have t2 : (firsts (fun i => .int .i64 (Z i)) kx).length = Nat.min xl nn := by rw [firsts_len]; exact hkx
      have t3 : 0 + (firsts (fun i => .int .i64 (Z i)) kx).length ≤ (List.replicate nn (Value.int .i64 0)).length := by rw [firsts_len]; simp; omega
      have t4 : ∀ v ∈ firsts (fun i => .int .i64 (Z i)) kx, v.oneCell' = true := by simp [firsts, Value.oneCell']
      have T := hide (And.intro t1 (And.intro t2 (And.intro t3 t4)))
      clear t1 t2 t3 t4 hkx
      go_wp2_with ((refine wpList_copy_splice (by rfl) (.tmp 61) (.tmp 62) 24 24 (by rfl) 2 Yba.underlying24 (unhide T).1 (some ⟨w2.heap.size, 0, none⟩) xp nn nn xl xcap (by rfl) (by rfl) w2.heap.size 0 (List.replicate nn (.int .i64 0)) 2 (unhide HQ3) (firsts (fun i => .int .i64 (Z i)) kx) (unhide T).2.1 (unhide HP) (unhide T).2.2.1 (unhide T).2.2.2 w2.heap.size w2 (unhide HB4) (Nat.le_refl _) ?_; intro w4 HR4 hB4))
      go_meet
      refine ⟨⟨some ⟨w2.heap.size, 0, none⟩, nn, nn, rfl, Or.inr ⟨rfl, w2.heap.size, fun j => if j < kx then Z j else 0, rfl, unhide HNN, unhide HNN, by omega, ?_⟩⟩, (unhide HB2).trans (hB4.mono (unhide HB2).size), (unhide HR3).of_block (hB4.block _ l2)⟩
      rw [← unhide HNN]
      exact (row_of_splice hkx1 (unhide HR4)).congr fun j _ => by dsimp only; split <;> rfl
  case rest =>
    obtain ⟨⟨xo, le, ce, rfl, hex⟩, hB, hrow⟩ := hcut
    have HEX := hide hex
    have HBc := hide hB
    have HRW := hide hrow
    clear hex hB hrow HR3 HB2 hmk XN HNN
    have hmk5 := hide (make_ents n hn)
    go_wp2_with (simp only [unhide hmk5])
    go_loopg [17] n (fun gg jj wx => ∃ j : Nat, gg = n - j ∧ j ≤ n ∧ jj = .int .i64 j ∧ wx.rowIs wc.heap.size 32 (n * 3) (entv a c j) ∧ Below wc.heap.size wc wx)
    case atStart => exact ⟨0, by omega, by omega, rfl, ents_start wc n a c, (Below.refl _ _).alloc (Nat.le_refl _) _⟩
    case round =>
      obtain ⟨j, rfl, hj, rfl, hrow, hB⟩ := hrel
      by_cases hjn : j < n
      · rcases unhide HE with h0 | ⟨ab, ao, rfl, hab, hc⟩
        · omega
        · have d1' : decide ((j : Int) < (n : Int)) = true := by simp; omega
          have hjc : j ≤ c := by omega
          have c5 := hrow.cell (show j * 3 + 2 < n * 3 by omega)
          have f5 := hrow.frozen (j * 3 + 2)
          have HRO := hide hrow
          have HB5 := hide hB
          clear hrow hB hc
          go_wp2_with fail
          go_roundg (n - (j + 1))
          case measure => omega
          case rel =>
            refine ⟨j + 1, rfl, by omega, by go_num, ?_, (unhide HB5).setCell (p := ⟨wc.heap.size, j * 3 + 2, none⟩) (Nat.le_refl _) _⟩
            exact ((unhide HRO).set (j * 3 + 2) _).congr fun q _ => entv_step _ _ _ _
      · have hjn' : n = j := by omega
        subst hjn'
        have dk : decide ((n : Int) < (n : Int)) = false := by simp
        obtain ⟨wd, hwd⟩ : ∃ wd, wd = wr := ⟨_, rfl⟩
        subst hwd
        have hnb : wc.heap.size < wd.heap.size := hrow.lt
        have HRO := hide hrow
        have HBd : Hid (Below w.heap.size w wd) := (unhide HBc).trans (hB.mono (unhide HBc).size)
        clear hrow hB HBc
        go_wp2_with fail
        have st := hide (start_st wd 5 (.slice a n c) (.slice (some ⟨w.heap.size + 1, 0, none⟩) n n) (.slice xo le ce) (.slice (some ⟨wc.heap.size, 0, none⟩) n n))
        have hBd : w.heap.size ≤ wd.heap.size := (unhide HBd).size
        go_loopg [21, 22] n (fun gg pp jj wr => ∃ k : Nat, gg = n - k ∧ k ≤ n ∧ pp = .int .i64 (sumw L k) ∧ jj = .int .i64 k ∧ Cn wr wd.heap.size 5 (.slice a n c) (.slice (some ⟨w.heap.size + 1, 0, none⟩) n n) (.slice xo le ce) (.slice (some ⟨wc.heap.size, 0, none⟩) n n) k ∧ (∃ ens, En wr (wd.heap.size + 1) (.slice none 0 0) (.slice none 0 0) (.slice none 0 0) (.slice none 0 0) ens ∧ wr.ownsRow (wd.heap.size + 2) 32 3 ens k (trip a c k)) ∧ Below wd.heap.size wd wr)
        case atStart => exact ⟨0, by omega, by omega, rfl, rfl, (unhide st).1, ⟨_, (unhide st).2.1, World.ownsRow_nil _ _ _ _⟩, (unhide st).2.2⟩
        case round =>
          obtain ⟨k, rfl, hk, rfl, rfl, hC, ⟨ens, hEn, ho⟩, hB⟩ := hrel
          clear st
          by_cases hkn : k < n
          · rcases unhide HE with h0 | ⟨ab, ao, rfl, hab, hc⟩
            · omega
            · have d1' : decide ((k : Int) < (n : Int)) = true := by simp; omega
              have ck : ∀ X, Below wd.heap.size wd X → ∀ j, j < n → X.cell? ⟨ab, ao + j, none⟩ = some (.slice (A j) (L j) (C j)) := fun X hX j hj => (hX.cell (p := ⟨ab, ao + j, none⟩) (show ab < wd.heap.size by omega)).trans (((unhide HBd).cell (p := ⟨ab, ao + j, none⟩) hab).trans (hc j hj))
              have en : ∀ q, q < n * 3 → wr.cell? ⟨wc.heap.size, q, none⟩ = some (entv (some ⟨ab, ao, none⟩) c n q) := fun q hq => (hB.cell (p := ⟨wc.heap.size, q, none⟩) hnb).trans ((unhide HRO).cell hq)
              have en0 := (en (k * 3) (by omega)).trans (congrArg some (entv_0 _ _ n k))
              have en1 := (en (k * 3 + 1) (by omega)).trans (congrArg some (entv_1 _ _ n k))
              have en2 := (en (k * 3 + 2) (by omega)).trans (congrArg some (entv_2 _ _ n k hkn))
              have H4 := hide (take_stm wd.heap.size ab ao c k wc.heap.size n n k A L C _ _ _ _ _ _ _ ens (trip (some ⟨ab, ao, none⟩) c k) wr hC hEn ho (by omega) hkn hn hnb (by omega) en0 en1 en2 (fun j hj => ck wr hB j (by omega)))
              have HB := hide hB
              have CK := hide ck
              clear hC hEn ho hB ck hc en en0 en1 en2
              obtain ⟨S, hS⟩ : ∃ S, S = sumw L k := ⟨_, rfl⟩
              have HSS := hide hS
              rw [← hS] at H4
              rw [← hS]
              clear hS
              go_wp2_with fail
              refine (unhide H4).mono ?_
              rintro e w' ⟨rfl, hC', ⟨ens', hE', ho'⟩, hB'⟩
              have HC2 := hide hC'
              have HE2 := hide hE'
              have HO2 := hide ho'
              have HB2 : Hid (Below wd.heap.size wd w') := (unhide HB).trans hB'
              clear hC' hE' ho' hB' H4
              have cc := unhide CK w' (unhide HB2) k (by omega)
              go_wp2_with fail
              go_quiet (fail)
              go_wp2_with fail
              go_quiet (fail)
              go_wp2_with fail
              go_roundg (n - (k + 1))
              case measure => omega
              case rel => exact ⟨k + 1, rfl, by omega, by rw [unhide HSS]; rfl, by go_num, (unhide HC2), ⟨ens', unhide HE2, unhide HO2⟩, below_drewN (unhide HB2) _⟩
          · have hkn' : n = k := by omega
            subst hkn'
            obtain ⟨_, _, _, _, _, c22, _⟩ := hC.cells
            obtain ⟨ga, gc, rfl, hro⟩ := ents_of_own ho
            obtain ⟨e4, e6, e7, e8, e9, _⟩ := hEn.cells
            have hBw : Below w.heap.size w wr := (unhide HBd).trans (hB.mono hBd)
            have H6 := hide (fun j (hj : j ≤ n) X (hX : Below wr.heap.size wr X) => beq_any a a j c c w.heap.size _ _ A L C X (by omega) (((unhide HE).below (hBw.trans (hX.mono hBw.size))).shorter hj) (((unhide HE).below (hBw.trans (hX.mono hBw.size))).shorter hj) (fun i hi => (unhide HEl i (by omega)).below (hBw.trans (hX.mono hBw.size))))
            have HBw := hide hBw
            have HRE := hide hro
            clear hC hEn ho hB hBw hro
            go_wp2_with fail
            obtain ⟨we, hwe⟩ : ∃ we, we = wr := ⟨_, rfl⟩
            subst hwe
            go_loopg [28] n (fun gg jj wx => ∃ j : Nat, gg = n - j ∧ j ≤ n ∧ jj = .int .i64 j ∧ ∃ m, wx = we.drewN m)
            case atStart => exact ⟨0, by omega, by omega, rfl, 0, rfl⟩
            case round =>
              obtain ⟨j, rfl, hj, rfl, m, hm⟩ := hrel
              by_cases hjk : j < n
              · rcases unhide HRE with h0 | ⟨gb, rfl, hgc⟩
                · omega
                · rcases unhide HE with h0 | ⟨ab, ao, rfl, hab, hc⟩
                  · omega
                  · have dj : decide ((j : Int) < (n : Int)) = true := by simp; omega
                    have HM := hide hm
                    have g1 : wr.cell? ⟨gb, j * 3 + 2, none⟩ = some (.slice (some ⟨ab, ao, none⟩) j c) := by rw [hm]; exact hgc j hjk
                    have e9' : wr.cell? ⟨wd.heap.size + 1, 9, none⟩ = some (.slice (some ⟨gb, 0, none⟩) n gc) := by rw [hm]; exact e9
                    have HBz : Hid (Below we.heap.size we wr) := by rw [hm]; exact below_drewN (Below.refl _ _) _
                    have hjc : j ≤ c := by omega
                    have H7 := hide (unhide H6 j (by omega))
                    clear hgc hc hm e9
                    go_wp2_with fail
                    go_quiet (first | (go_at_call 6; refine Calls.quiet_of (unhide H7 _ ?_); exact below_drewN (unhide HBz) _))
                    go_wp2_with fail
                    go_roundg (n - (j + 1))
                    case measure => omega
                    case rel => exact ⟨j + 1, rfl, by omega, by go_num, _, by rw [unhide HM, World.drewN_drewN]⟩
              · have : n = j := by omega
                subst this
                subst hm
                go_wp2_with fail
                go_ret
                exact ⟨rfl, below_drewN (unhide HBw) _⟩
end Go.Proofs.Ybulkmym
