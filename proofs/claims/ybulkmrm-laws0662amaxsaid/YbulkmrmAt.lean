import Derived.Test.YbulkmrmRows
import Derived.WalkKit
import Derived.WalkSpells
import Derived.BigQuiet
import Derived.Deep.QuietTactic
namespace Go.Proofs.Ybulkmrm
open Go.RowKit

theorem and_mask (id L e : Nat) (hL : L = 2 ^ e) (he : e ≤ 10) (hid : id < 18446744073709551616) :
    bits BinOp.and .u64 (id : Int) (IntKind.u64.wrap (IntKind.i64.wrap ((L : Int) - 1))) = ((id % L : Nat) : Int) := by
  have hpos : 0 < 2 ^ e := Nat.pow_pos (by omega)
  have h10 : 2 ^ e ≤ 2 ^ 10 := Nat.pow_le_pow_right (by omega) he
  have e1 : IntKind.u64.wrap (IntKind.i64.wrap ((L : Int) - 1)) = ((L - 1 : Nat) : Int) := by
    rw [IntKind.wrap_u64, IntKind.wrap_i64]
    omega
  have e2 := Nat.and_two_pow_sub_one_eq_mod id e
  rw [← hL] at e2
  rw [e1, bits_and_u64_nat id (L - 1) hid (by omega), e2]

theorem at_any (b o pb L e : Nat) (id : Nat) (w : World) (hL : L = 2 ^ e) (he : e ≤ 10)
    (hid : id < 18446744073709551616)
    (hc : w.cell? ⟨b, o, none⟩ = some (.slice (some ⟨pb, 0, none⟩) L L)) :
    Calls Yba.prog 12 #[.pointer (some ⟨b, o, none⟩), .int .u64 id] w fun e w' => e = .returned (.pointer (some ⟨pb, (id % L) * 4, none⟩)) ∧ ∃ n, w' = w.drewN n := by
  have hm := and_mask id L e hL he hid
  have hpos : 0 < 2 ^ e := Nat.pow_pos (by omega)
  have hlt : id % L < L := Nat.mod_lt _ (by omega)
  generalize id % L = k at *
  clear hL hpos
  go_enter Yba.func12, Yba.ntmps12
  go_wp2
  go_quiet (fail)
  go_wp2
  go_ret
  exact ⟨rfl, _, rfl⟩
end Go.Proofs.Ybulkmrm
