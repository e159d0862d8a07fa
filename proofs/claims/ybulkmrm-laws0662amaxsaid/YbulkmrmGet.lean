import Derived.Test.YbulkmrmAt
import Derived.Maps.OwnSet
namespace Go.Proofs.Ybulkmrm
open Go.RowKit Go.Maps

theorem hide {p : Prop} (h : p) : Hid p := h
theorem unhide {p : Prop} (h : Hid p) : p := h

theorem get_nil (b o id : Nat) (w : World)
    (hc : w.cell? ⟨b, o, none⟩ = some (.slice none 0 0)) :
    Calls Yba.prog 7 #[.pointer (some ⟨b, o, none⟩), .int .u64 id] w fun e w' => e = .returned (.tuple #[.int .u64 0, .bool false]) ∧ ∃ n, w' = w.drewN n := by
  go_enter Yba.func7, Yba.ntmps7
  go_wp2
  go_ret2
  exact ⟨rfl, 0, rfl⟩

theorem get_hit (b o pb L e id v : Nat) (w : World) (hL : L = 2 ^ e) (he : e ≤ 10) (hid : id < 18446744073709551616)
    (hc : w.cell? ⟨b, o, none⟩ = some (.slice (some ⟨pb, 0, none⟩) L L))
    (c0 : w.cell? ⟨pb, (id % L) * 4, none⟩ = some (.int .u64 id))
    (c1 : w.cell? ⟨pb, (id % L) * 4 + 1, none⟩ = some (.int .u64 v))
    (c2 : w.cell? ⟨pb, (id % L) * 4 + 2, none⟩ = some (.bool true)) :
    Calls Yba.prog 7 #[.pointer (some ⟨b, o, none⟩), .int .u64 id] w fun e w' => e = .returned (.tuple #[.int .u64 v, .bool true]) ∧ ∃ n, w' = w.drewN n := by
  have h := at_any b o pb L e id w hL he hid hc
  have hpos : 0 < 2 ^ e := Nat.pow_pos (by omega)
  have hLp : 0 < L := by omega
  generalize id % L = k at *
  have h' := hide h
  clear h hL hpos
  go_enter Yba.func7, Yba.ntmps7
  go_wp2_with (go_at_call 12; go_must (refine (unhide h').mono ?_; rintro e w' ⟨rfl, n, rfl⟩))
  go_ret2
  exact ⟨rfl, _, rfl⟩

theorem get_none (b o pb L e id id' : Nat) (u : Bool) (w : World) (hL : L = 2 ^ e) (he : e ≤ 10) (hid : id < 18446744073709551616)
    (hc : w.cell? ⟨b, o, none⟩ = some (.slice (some ⟨pb, 0, none⟩) L L))
    (c0 : w.cell? ⟨pb, (id % L) * 4, none⟩ = some (.int .u64 id'))
    (c2 : w.cell? ⟨pb, (id % L) * 4 + 2, none⟩ = some (.bool u))
    (c3 : w.cell? ⟨pb, (id % L) * 4 + 3, none⟩ = some (.int .i32 0))
    (hne : u = true → id' ≠ id) :
    Calls Yba.prog 7 #[.pointer (some ⟨b, o, none⟩), .int .u64 id] w fun e w' => e = .returned (.tuple #[.int .u64 0, .bool false]) ∧ ∃ n, w' = w.drewN n := by
  have h := at_any b o pb L e id w hL he hid hc
  have hpos : 0 < 2 ^ e := Nat.pow_pos (by omega)
  have hLp : 0 < L := by omega
  generalize id % L = k at *
  have h' := hide h
  clear h hL hpos
  cases u
  · clear hne
    go_enter Yba.func7, Yba.ntmps7
    go_wp2_with (go_at_call 12; go_must (refine (unhide h').mono ?_; rintro e w' ⟨rfl, n, rfl⟩))
    go_ret2
    exact ⟨rfl, _, rfl⟩
  · have hb : ((id' : Int) == (id : Int)) = false := by have := hne rfl; simp; omega
    clear hne
    go_enter Yba.func7, Yba.ntmps7
    go_wp2_with (go_at_call 12; go_must (refine (unhide h').mono ?_; rintro e w' ⟨rfl, n, rfl⟩))
    go_ret2
    exact ⟨rfl, _, rfl⟩

theorem klaw : Keyed Yba.prog 23 := int_keyed Yba.underlying23
theorem zero23 (w : World) : (zeroValue 23).run Yba.prog w = .ok (.int .u64 0) w := by kernel_rfl
theorem wfu {n : Nat} (h : n < 18446744073709551616) : (Lit.int .u64 (n : Int)).wf = true := by
  simp [Lit.wf, IntKind.min, IntKind.max, IntKind.bits, IntKind.signed]
  omega

abbrev Own (w : World) (mb n : Nat) (D : DataW Unit) : Prop := w.ownsMap Yba.prog 23 (plainElem Yba.prog 23) mb n D

theorem get_more (b o pb L e id id' sp mb n : Nat) (D : DataW Unit) (w : World) (hL : L = 2 ^ e) (he : e ≤ 10) (hid : id < 18446744073709551616)
    (hc : w.cell? ⟨b, o, none⟩ = some (.slice (some ⟨pb, 0, none⟩) L L))
    (hm : w.cell? ⟨b, o + 1, none⟩ = some (.map (some mb)))
    (c0 : w.cell? ⟨pb, (id % L) * 4, none⟩ = some (.int .u64 id'))
    (c2 : w.cell? ⟨pb, (id % L) * 4 + 2, none⟩ = some (.bool true))
    (c3 : w.cell? ⟨pb, (id % L) * 4 + 3, none⟩ = some (.int .i32 sp))
    (hne : id' ≠ id) (hsp : 0 < sp) (hown : Own w mb n D) :
    Calls Yba.prog 7 #[.pointer (some ⟨b, o, none⟩), .int .u64 id] w fun e w' => (∃ c : Int, e = .returned (.tuple #[.int .u64 c, .bool (Maps.has D (.int .u64 id))]) ∧ D.atKey (.int .u64 id) (.lit (.int .u64 0)) = .lit (.int .u64 c)) ∧ ∃ n, w' = w.drewN n := by
  have h := at_any b o pb L e id w hL he hid hc
  have hpos : 0 < 2 ^ e := Nat.pow_pos (by omega)
  have hLp : 0 < L := by omega
  have hkey : keyOf Yba.prog 23 (.int .u64 (id : Int)) = some (.int .u64 id) := keyOf_int_mk Yba.underlying23 (wfu hid)
  have hk := hide hkey
  have hown' := hide hown
  generalize id % L = k at *
  have h' := hide h
  have hb : ((id' : Int) == (id : Int)) = false := by simp; omega
  clear h hL hpos hkey hne hown
  go_enter Yba.func7, Yba.ntmps7
  go_wp2_with (first | (go_at_call 12; go_must (refine (unhide h').mono ?_; rintro e w' ⟨rfl, n, rfl⟩)) | (at_lookup; go_must (refine wpList_lookup_own_ok_int _ rfl _ _ 31 rfl 23 23 .u64 klaw Yba.underlying31 Yba.underlying23 (zero23 _) mb _ D rfl (unhide hown') _ _ rfl (unhide hk) ?_; intro c hat hwc)))
  go_ret2
  exact ⟨⟨_, rfl, hat⟩, _, rfl⟩
end Go.Proofs.Ybulkmrm
