/- LawS0665CAgrees, walked. -/
import Derived.Test.YbulkmtcDoorMf
namespace Go.Proofs.YbulkmtcDoor
open Go.RowKit Go.Lib

set_option maxRecDepth 100000 in
theorem ag_long (a b : Option Addr) (lo co ln cn : Nat) (u v t : Value) (o : Bool) (w : World) (m0 : lo ≤ maxLen) (m1 : ln ≤ maxLen) (h : 1024 < lo ∨ 1024 < ln) :
    Calls Ybad.prog 3 #[.slice a lo co, .slice b ln cn, u, v, t, .bool o] w fun e w' => e = .returned (.bool true) ∧ Below w.heap.size w w' := by
  unfold maxLen at m0 m1
  by_cases h1 : 1024 < lo
  · have h1' : (1024 : Int) < (lo : Int) := by omega
    clear h
    go_enter Ybad.func3, Ybad.ntmps3
    go_wp2_with fail
    go_ret
    exact ⟨rfl, Below.refl _ _⟩
  · have h1' : ¬ (1024 : Int) < (lo : Int) := by omega
    have h2' : (1024 : Int) < (ln : Int) := by omega
    clear h
    go_enter Ybad.func3, Ybad.ntmps3
    go_wp2_with fail
    go_ret
    exact ⟨rfl, Below.refl _ _⟩

theorem Sl.below {w w' : World} {a : Option Addr} {len cap : Nat} {f : Nat → UInt8} (h : Sl w a len cap f) (hb : Below w.heap.size w w') : Sl w' a len cap f := by
  rcases h with h | ⟨b, o, rfl, hl, h0, hc, hf⟩
  · exact Or.inl h
  · exact Or.inr ⟨b, o, rfl, Nat.lt_of_lt_of_le hl hb.size, h0, hc, hf.below hb hl⟩

/-- The search's cells. -/
def sc (a : Option Addr) (lo co : Nat) (b : Option Addr) (ln cn : Nat) : Array Value :=
  #[.pointer none, .slice a lo co, .slice b ln cn, .pointer none, .pointer none, .pointer none, .int .i64 0, .slice none 0 0, .int .i64 0, .int .i64 0, .bool false, .slice none 0 0, .slice none 0 0, .int .i64 0, .int .i64 0, .int .i64 0]

/-- The world behind the search's making. -/
def sw (w : World) (a : Option Addr) (lo co : Nat) (b : Option Addr) (ln cn : Nat) : World := w.alloc (.cells (sc a lo co b ln cn) 33)

theorem sw_below (w : World) (a : Option Addr) (lo co : Nat) (b : Option Addr) (ln cn : Nat) : Below w.heap.size w (sw w a lo co b ln cn) := (Below.refl _ _).alloc (Nat.le_refl _) _
theorem sw_size (w : World) (a : Option Addr) (lo co : Nat) (b : Option Addr) (ln cn : Nat) : (sw w a lo co b ln cn).heap.size = w.heap.size + 1 := by simp [sw, go_sem]
theorem sw_old (w : World) (a : Option Addr) (lo co : Nat) (b : Option Addr) (ln cn : Nat) : (sw w a lo co b ln cn).cell? ⟨w.heap.size, 1, none⟩ = some (.slice a lo co) := by simp [sw, sc, go_sem]
theorem sw_new (w : World) (a : Option Addr) (lo co : Nat) (b : Option Addr) (ln cn : Nat) : (sw w a lo co b ln cn).cell? ⟨w.heap.size, 2, none⟩ = some (.slice b ln cn) := by simp [sw, sc, go_sem]

/-- The remainder as the walk leaves it. -/
theorem rem_in (u n : Nat) (hn : n ≤ 8192) : ∃ r : Nat, r ≤ n ∧ Hid (wrap64 ((u : Int) % ((n : Int) + 1)) = (r : Int)) := by
  refine ⟨u % (n + 1), Nat.le_of_lt_succ (Nat.mod_lt _ (Nat.succ_pos _)), ?_⟩
  have h : u % (n + 1) ≤ n := Nat.le_of_lt_succ (Nat.mod_lt _ (Nat.succ_pos _))
  generalize hr : u % (n + 1) = r at h
  have : (u : Int) % ((n : Int) + 1) = (r : Int) := by rw [← hr]; simp
  rw [this]
  exact IntWalk.wrap64_in _ (by omega)

theorem w64 {x n : Int} (h : x = n) (h1 : -9223372036854775808 ≤ n) (h2 : n ≤ 9223372036854775807) : Hid (wrap64 x = n) := by
  subst h; exact IntWalk.wrap64_in _ ⟨h1, h2⟩

set_option maxRecDepth 100000 in
set_option maxHeartbeats 1000000 in
theorem ag_out (a b : Option Addr) (lo co ln cn iu lu au : Nat) (g : Nat → UInt8) (w : World) (h0 : lo ≤ 1024) (h1 : ln ≤ 1024) (hg : Sl w b ln cn g) (hT : Tab w) (hT1 : 1 < w.heap.size) :
    Calls Ybad.prog 3 #[.slice a lo co, .slice b ln cn, .int .u64 iu, .int .u64 lu, .int .u64 au, .bool true] w fun e w' => e = .returned (.bool true) ∧ Below w.heap.size w w' := by
  have h1' : ¬ (1024 : Int) < (lo : Int) := by omega
  have h2' : ¬ (1024 : Int) < (ln : Int) := by omega
  obtain ⟨i, hi, X1⟩ := rem_in iu ln (by omega)
  obtain ⟨m, hm⟩ : ∃ m, m = ln - i := ⟨_, rfl⟩
  have hmle : m ≤ 1024 := by omega
  obtain ⟨d, hd, X3⟩ := rem_in lu m (by omega)
  obtain ⟨p, hp, X2⟩ := rem_in au ln (by omega)
  obtain ⟨lim, hlim⟩ : ∃ lim, lim = i + d := ⟨_, rfl⟩
  obtain ⟨q, hq⟩ : ∃ q, q = (i : Int) - (p : Int) := ⟨_, rfl⟩
  have Y1 : Hid (wrap64 ((ln : Int) - (i : Int)) = (m : Int)) := w64 (by omega) (by omega) (by omega)
  have Y2 : Hid (wrap64 ((i : Int) + (d : Int)) = (lim : Int)) := w64 (by omega) (by omega) (by omega)
  have Y3 : Hid (wrap64 ((i : Int) - (p : Int)) = q) := w64 (by omega) (by omega) (by omega)
  have hS := sw_below w a lo co b ln cn
  have hz := sw_size w a lo co b ln cn
  have H5 := hide (mf_out w.heap.size b ln cn p i lim q g (sw w a lo co b ln cn) (by omega) (by omega) hp (by omega) (by omega) (hg.below hS) (sw_new w a lo co b ln cn) (by omega) (hT.below hS hT1) (by omega))
  have H6 := hide (fun X (hX : Below w.heap.size w X) => exp_any b b ln cn ln cn p i lim g g X (by omega) (by omega) hp (by omega) (by omega) (hg.isB.below hX) (hg.isB.below hX))
  have HS := hide hS
  have HZ := hide hz
  clear hi hm hd hp hlim hq hg hT hS hz
  go_enter Ybad.func3, Ybad.ntmps3
  go_wp2_with (simp only [unhide X1, unhide X2, unhide X3, unhide Y1, unhide Y2, unhide Y3])
  refine (unhide H5).mono ?_
  rintro e w1 ⟨⟨r, rfl, hr⟩, hb1⟩
  have hr' := hide hr
  have HB : Hid (Below w.heap.size w w1) := (unhide HS).trans (hb1.mono (unhide HS).size)
  clear hr hb1
  go_wp2_with fail
  refine (unhide H6 w1 (unhide HB)).mono ?_
  rintro e w2 ⟨⟨r2, rfl, hr2⟩, n2, rfl⟩
  obtain rfl : r = r2 := (unhide hr').unique hr2
  clear hr2
  go_wp2_with fail
  go_ret
  exact ⟨by simp, below_drewN (unhide HB) n2⟩

set_option maxRecDepth 100000 in
set_option maxHeartbeats 1000000 in
theorem ag_in (a b : Option Addr) (lo co ln cn iu lu au : Nat) (f g : Nat → UInt8) (w : World) (h0 : lo ≤ 1024) (h1 : ln ≤ 1024) (hf : Sl w a lo co f) (hg : Sl w b ln cn g) (hT : Tab w) (hT1 : 1 < w.heap.size) :
    Calls Ybad.prog 3 #[.slice a lo co, .slice b ln cn, .int .u64 iu, .int .u64 lu, .int .u64 au, .bool false] w fun e w' => e = .returned (.bool true) ∧ Below w.heap.size w w' := by
  have h1' : ¬ (1024 : Int) < (lo : Int) := by omega
  have h2' : ¬ (1024 : Int) < (ln : Int) := by omega
  obtain ⟨i, hi, X1⟩ := rem_in iu ln (by omega)
  obtain ⟨m, hm⟩ : ∃ m, m = ln - i := ⟨_, rfl⟩
  have hmle : m ≤ 1024 := by omega
  obtain ⟨d, hd, X3⟩ := rem_in lu m (by omega)
  obtain ⟨p, hp, X2⟩ := rem_in au lo (by omega)
  obtain ⟨lim, hlim⟩ : ∃ lim, lim = i + d := ⟨_, rfl⟩
  have Y1 : Hid (wrap64 ((ln : Int) - (i : Int)) = (m : Int)) := w64 (by omega) (by omega) (by omega)
  have Y2 : Hid (wrap64 ((i : Int) + (d : Int)) = (lim : Int)) := w64 (by omega) (by omega) (by omega)
  have hS := sw_below w a lo co b ln cn
  have hz := sw_size w a lo co b ln cn
  have H5 := hide (mf_old w.heap.size a b lo co ln cn p i lim f g (sw w a lo co b ln cn) (by omega) hp (by omega) (by omega) (hf.below hS) (hg.below hS) (sw_old w a lo co b ln cn) (sw_new w a lo co b ln cn) (by omega) (hT.below hS hT1) (by omega))
  have H6 := hide (fun X (hX : Below w.heap.size w X) => exp_any a b lo co ln cn p i lim f g X (by omega) (by omega) hp (by omega) (by omega) (hf.isB.below hX) (hg.isB.below hX))
  have HS := hide hS
  have HZ := hide hz
  clear hi hm hd hp hlim hf hg hT hS hz
  go_enter Ybad.func3, Ybad.ntmps3
  go_wp2_with (simp only [unhide X1, unhide X2, unhide X3, unhide Y1, unhide Y2])
  refine (unhide H5).mono ?_
  rintro e w1 ⟨⟨r, rfl, hr⟩, hb1⟩
  have hr' := hide hr
  have HB : Hid (Below w.heap.size w w1) := (unhide HS).trans (hb1.mono (unhide HS).size)
  clear hr hb1
  go_wp2_with fail
  refine (unhide H6 w1 (unhide HB)).mono ?_
  rintro e w2 ⟨⟨r2, rfl, hr2⟩, n2, rfl⟩
  obtain rfl : r = r2 := (unhide hr').unique hr2
  clear hr2
  go_wp2_with fail
  go_ret
  exact ⟨by simp, below_drewN (unhide HB) n2⟩

theorem ag_any (a b : Option Addr) (lo co ln cn iu lu au : Nat) (o : Bool) (f g : Nat → UInt8) (w : World) (m0 : lo ≤ maxLen) (m1 : ln ≤ maxLen) (hf : Sl w a lo co f) (hg : Sl w b ln cn g) (hT : Tab w) (hT1 : 1 < w.heap.size) :
    Calls Ybad.prog 3 #[.slice a lo co, .slice b ln cn, .int .u64 iu, .int .u64 lu, .int .u64 au, .bool o] w fun e w' => e = .returned (.bool true) ∧ Below w.heap.size w w' := by
  by_cases h : 1024 < lo ∨ 1024 < ln
  · exact ag_long a b lo co ln cn _ _ _ o w m0 m1 h
  · cases o
    · exact ag_in a b lo co ln cn iu lu au f g w (by omega) (by omega) hf hg hT hT1
    · exact ag_out a b lo co ln cn iu lu au g w (by omega) (by omega) hg hT hT1
end Go.Proofs.YbulkmtcDoor
