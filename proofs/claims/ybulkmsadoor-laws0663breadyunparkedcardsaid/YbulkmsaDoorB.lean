/- time.Time: nsec, sec, addSec, Add on the zero Time, Equal of a Time and itself. -/
import Derived.Test.YbulkmsaDoorA
namespace Go.Proofs.YbulkmsaDoor
open Go.RowKit

theorem hide {p : Prop} (h : p) : Hid p := h
theorem unhide {p : Prop} (h : Hid p) : p := h

def nsecOf (wl : Int) : Int := wrap32 (bits BinOp.and .u64 wl 1073741823)

theorem nsec_any (b o : Nat) (wl : Int) (w : World) (hc : w.cell? ⟨b, o, none⟩ = some (.int .u64 wl)) :
    Calls Ybad.prog 8 #[.pointer (some ⟨b, o, none⟩)] w fun e w' => e = .returned (.int .i32 (nsecOf wl)) ∧ w' = w := by
  go_enter Ybad.func8, Ybad.ntmps8
  go_wp2
  go_ret
  exact ⟨rfl, rfl⟩

theorem sec_any (b o : Nat) (wl ex : Int) (w : World) (hc : w.cell? ⟨b, o, none⟩ = some (.int .u64 wl)) (hc1 : w.cell? ⟨b, o + 1, none⟩ = some (.int .i64 ex)) (hb : bits BinOp.and .u64 wl 9223372036854775808 = 0) :
    Calls Ybad.prog 15 #[.pointer (some ⟨b, o, none⟩)] w fun e w' => e = .returned (.int .i64 ex) ∧ w' = w := by
  go_enter Ybad.func15, Ybad.ntmps15
  go_wp2
  go_ret
  exact ⟨rfl, rfl⟩

set_option maxRecDepth 100000 in
theorem addSec_any (b o : Nat) (wl ex d : Int) (w : World) (hc : w.cell? ⟨b, o, none⟩ = some (.int .u64 wl)) (hc1 : w.cell? ⟨b, o + 1, none⟩ = some (.int .i64 ex)) (hb : bits BinOp.and .u64 wl 9223372036854775808 = 0) (hf : w.frozen? ⟨b, o + 1, none⟩ = false) :
    Calls Ybad.prog 9 #[.pointer (some ⟨b, o, none⟩), .int .i64 d] w fun e w' => e = .returned (.tuple #[]) ∧ ∃ ex' : Int, w' = w.setCell ⟨b, o + 1, none⟩ (.int .i64 ex') := by
  go_enter Ybad.func9, Ybad.ntmps9
  go_wp2
  all_goals
    go_end0
    exact ⟨rfl, _, rfl⟩

theorem or_zero (x : Int) (h0 : 0 ≤ x) (h1 : x < 1000000000) : bits BinOp.or .u64 (bits BinOp.andNot .u64 0 1073741823) x = x := by
  have e : bits BinOp.andNot .u64 0 1073741823 = 0 := by decide +kernel
  rw [e, u64_or 0 x (by omega) (by omega) h0 (by omega)]
  simp
  omega

theorem and_top (x : Int) (h0 : 0 ≤ x) (h1 : x < 1000000000) : bits BinOp.and .u64 x 9223372036854775808 = 0 := by
  rw [u64_and x _ h0 (by omega) (by omega) (by omega)]
  have e : x.toNat &&& (9223372036854775808 : Int).toNat = 0 := by
    apply Nat.eq_of_testBit_eq
    intro i
    rw [Nat.testBit_and, Nat.zero_testBit]
    have h2 : (9223372036854775808 : Int).toNat = 2 ^ 63 := by decide
    rw [h2, Nat.testBit_two_pow]
    by_cases hi : 63 = i
    · subst hi
      rw [Nat.testBit_lt_two_pow (x := x.toNat) (i := 63) (by omega)]
      rfl
    · simp [hi]
  rw [e]
  rfl

theorem and_self_u64 (x : Int) (h0 : 0 ≤ x) (h1 : x < 1000000000) : bits BinOp.and .u64 x x = x := by
  rw [u64_and x x h0 (by omega) h0 (by omega)]
  simp
  omega

set_option maxRecDepth 100000 in
set_option maxHeartbeats 1000000 in
theorem add_zero (d : Int) (w : World) :
    Calls Ybad.prog 4 #[.agg #[.int .u64 0, .int .i64 0, .pointer none], .int .i64 d] w fun e w' => ∃ wl ex : Int, (0 ≤ wl ∧ wl < 1000000000) ∧ e = .returned (.agg #[.int .u64 wl, .int .i64 ex, .pointer none]) ∧
      w' = (w.alloc (.cells #[.int .u64 wl, .int .i64 ex, .pointer none] 75)).alloc (.cells #[.int .u64 wl, .int .i64 ex, .pointer none] 75) := by
  have r1 : -1000000000 < d.tmod 1000000000 := Int.lt_tmod_of_pos d (by omega)
  have r2 : d.tmod 1000000000 < 1000000000 := Int.tmod_lt_of_pos d (by omega)
  have n0 : nsecOf 0 = 0 := by decide +kernel
  have hn := hide (fun W hW => nsec_any w.heap.size 0 0 W hW)
  rw [n0] at hn
  clear n0
  by_cases hneg : d.tmod 1000000000 < 0
  · have ho := or_zero (d.tmod 1000000000 + 1000000000) (by omega) (by omega)
    have ha := and_top (d.tmod 1000000000 + 1000000000) (by omega) (by omega)
    have hs := hide (fun dd W h1 h2 h3 => addSec_any w.heap.size 0 (d.tmod 1000000000 + 1000000000) 0 dd W h1 h2 ha h3)
    go_enter Ybad.func4, Ybad.ntmps4
    go_wp2_with (go_at_call 8; go_must (refine (unhide hn _ ?_).mono ?_; go_simp; rintro e w' ⟨rfl, rfl⟩))
    refine (unhide hs _ _ ?_ ?_ ?_).mono ?_
    · go_simp
    · go_simp
    · go_simp
    rintro e w' ⟨rfl, ex, rfl⟩
    go_wp2_with fail
    exact bodyPost_ret (v := .agg #[.int .u64 (d.tmod 1000000000 + 1000000000), .int .i64 ex, .pointer none]) (by simp [results, Ybad.results4, go_sem]) rfl ⟨_, _, by omega, rfl, rfl⟩
  · have ho := or_zero (d.tmod 1000000000) (by omega) (by omega)
    have ha := and_top (d.tmod 1000000000) (by omega) (by omega)
    have hs := hide (fun dd W h1 h2 h3 => addSec_any w.heap.size 0 (d.tmod 1000000000) 0 dd W h1 h2 ha h3)
    go_enter Ybad.func4, Ybad.ntmps4
    go_wp2_with (go_at_call 8; go_must (refine (unhide hn _ ?_).mono ?_; go_simp; rintro e w' ⟨rfl, rfl⟩))
    refine (unhide hs _ _ ?_ ?_ ?_).mono ?_
    · go_simp
    · go_simp
    · go_simp
    rintro e w' ⟨rfl, ex, rfl⟩
    go_wp2_with fail
    exact bodyPost_ret (v := .agg #[.int .u64 (d.tmod 1000000000), .int .i64 ex, .pointer none]) (by simp [results, Ybad.results4, go_sem]) rfl ⟨_, _, by omega, rfl, rfl⟩

set_option maxRecDepth 100000 in
set_option maxHeartbeats 1000000 in
theorem equal_same (wl ex : Int) (w : World) (h0 : 0 ≤ wl ∧ wl < 1000000000) :
    Calls Ybad.prog 6 #[.agg #[.int .u64 wl, .int .i64 ex, .pointer none], .agg #[.int .u64 wl, .int .i64 ex, .pointer none]] w fun e w' => e = .returned (.bool true) ∧
      w' = (w.alloc (.cells #[.int .u64 wl, .int .i64 ex, .pointer none] 75)).alloc (.cells #[.int .u64 wl, .int .i64 ex, .pointer none] 75) := by
  have hb := and_top wl h0.1 h0.2
  have hw := and_self_u64 wl h0.1 h0.2
  have s1 := hide (fun b W h1 h2 => sec_any b 0 wl ex W h1 h2 hb)
  have s2 := hide (fun b W h1 => nsec_any b 0 wl W h1)
  go_enter Ybad.func6, Ybad.ntmps6
  go_wp2_with (first
    | (go_at_call 15; go_must (refine (unhide s1 _ _ ?_ ?_).mono ?_; (go_simp); (go_simp); rintro e w' ⟨rfl, rfl⟩))
    | (go_at_call 8; go_must (refine (unhide s2 _ _ ?_).mono ?_; (go_simp); rintro e w' ⟨rfl, rfl⟩)))
  go_ret
  exact ⟨rfl, rfl⟩
end Go.Proofs.YbulkmsaDoor
