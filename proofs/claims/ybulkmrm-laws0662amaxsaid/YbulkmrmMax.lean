/- LawS0662AMax, walked. -/
import Derived.Test.YbulkmrmMI
namespace Go.Proofs.Ybulkmrm
open Go.RowKit Go.Maps Go.Deep

theorem info23 : (Yba.prog.info? 23).map (fun i => (i.zero, i.size, i.bytes)) = some (some (.int .u64 0), 1, 8) := by kernel_rfl

theorem key_range {ks : List Nat} {p : Nat} (h : ∀ x, x ∈ ks → x < 18446744073709551616) (hp : p < 18446744073709551616) : ∀ x, x ∈ ks ++ [p] → x < 18446744073709551616 := by
  intro x hx
  rcases List.mem_append.1 hx with y | y
  · exact h x y
  · rw [List.mem_singleton.1 y]; exact hp

set_option maxRecDepth 100000 in
set_option maxHeartbeats 2000000 in
theorem max_some (sb so len cap probe : Nat) (P Q : Nat → Nat) (w : World) (hl : len ≤ 1024) (hP : ∀ i, i < len → P i < 18446744073709551616) (hQ : ∀ i, i < len → Q i < 18446744073709551616) (hp : probe < 18446744073709551616)
    (hc0 : ∀ i, i < len → w.cell? ⟨sb, so + i * 2, none⟩ = some (.int .u64 (P i))) (hc1 : ∀ i, i < len → w.cell? ⟨sb, so + i * 2 + 1, none⟩ = some (.int .u64 (Q i))) (hsb : sb < w.heap.size) :
    Calls Yba.prog 3 #[.slice (some ⟨sb, so, none⟩) len cap, .int .u64 probe] w fun e w' => e = .returned (.bool true) ∧ Below w.heap.size w w' := by
  obtain ⟨i0, hi, hz0, hz1, hz2⟩ := info_parts info23
  have HI := hide hi
  have HZ0 := hide hz0
  have HZ1 := hide hz1
  have HZ2 := hide hz2
  have hc0' := hide hc0
  have hc1' := hide hc1
  have hP' := hide hP
  have hQ' := hide hQ
  clear hc0 hc1 hP hQ hi hz0 hz1 hz2
  go_enter Yba.func3, Yba.ntmps3
  go_wp2_with fail
  go_loopg [26, 6, 7] len (fun gg i kv vv wr => ∃ k n S ks vs, gg = len - k ∧ k ≤ len ∧ i = .int .i64 (k : Nat) ∧ n ≤ k ∧ MI w wr (runF P Q k) k n n S ks vs kv vv ∧ KV (runF P Q k) ks vs ∧ ∀ x, x ∈ ks → x < 18446744073709551616)
  case atStart => exact ⟨0, 0, fun _ => False, [], [], by omega, by omega, rfl, Nat.le_refl _, mi_start w, kv_start, fun x hx => by cases hx⟩
  case round =>
    obtain ⟨k, n, S, ks, vs, rfl, hk, rfl, hnk, hmi, hkv, hkr⟩ := hrel
    have hkr' := hide hkr
    clear hkr
    have hwl := hmi.lt
    by_cases hlt : k < len
    · have q0 : wr.cell? ⟨sb, so + k * 2, none⟩ = some (.int .u64 (P k)) := (hmi.bel.cell hsb).trans (unhide hc0' k hlt)
      have q1 : wr.cell? ⟨sb, so + k * 2 + 1, none⟩ = some (.int .u64 (Q k)) := (hmi.bel.cell hsb).trans (unhide hc1' k hlt)
      have htk := hide (took_rep w.heap.size k (P k) (Q k) (runF P Q k) S _ (hmi.rep.alloc (.cells #[.int .u64 (P k), .int .u64 (Q k)] 38)) (unhide hP' k hlt) (unhide hQ' k hlt) (by omega))
      have hkv' := hide hkv
      clear hkv
      have hks := row_len hmi.kr
      have hvs := row_len hmi.vr
      have hfin : Hid (∀ v1 v2 W S' ks' vs', MI w W (runF P Q (k + 1)) (k + 1) (n + 1) (n + 1) S' ks' vs' v1 v2 → True) := fun _ _ _ _ _ _ _ => trivial
      clear hfin
      by_cases hn0 : n = 0
      · subst hn0
        obtain ⟨ka, kc, rfl⟩ : ∃ ka kc, u6 = .slice ka 0 kc := by
          rcases row_shape hmi.kr with ⟨h, _⟩ | ⟨g, c, h⟩
          · exact ⟨_, _, h⟩
          · exact ⟨_, _, h⟩
        go_wp2_with fail
        refine (unhide htk).mono ?_
        rintro e w2 ⟨rfl, S2, hr2, ht2, hf2⟩
        have hmi2 := hide (hmi.took hr2 ht2 hf2)
        obtain ⟨s0, s1⟩ := hmi.step ht2
        have hsz2 : wr.heap.size < w2.heap.size := by have := ht2.size; simp at this; omega
        clear hr2 ht2 hf2 htk q0 q1
        have hkb : Hid (∀ g, (Value.slice ka 0 kc).ownBlock = some g → g < wr.heap.size) := fun g h => (hmi.kr.lt g h).2
        clear hmi
        generalize wr.heap.size = sbk at *
        have hno : Hid (∀ i, i < ks.length → ks.getD i 0 ≠ P k) := fun i hi => by rw [hks] at hi; omega
        go_wp2_with fail
        go_loopg [38, 10] 0 (fun _ i fd wi => i = .int .i64 0 ∧ fd = .bool false ∧ wi = w2)
        case atStart => exact ⟨rfl, rfl, rfl⟩
        case round =>
          obtain ⟨rfl, rfl, rfl⟩ := hrel
          have hl2 := (unhide hmi2).lt
          go_wp2_with (first
            | (at_builtin; refine wpList_append_own_at _ rfl _ _ 36 rfl (w.heap.size + 1) 23 i0 (.int .u64 0) 1 8 Yba.underlying36 (unhide HI) (unhide HZ0) (unhide HZ1) (unhide HZ2) rfl (by decide) _ _ _ rfl ((unhide hmi2).kr.alloc _) ⟨wr.heap.size, 0, none⟩ 1 1 [.int .u64 (P k)] rfl rfl (cell_one_new _ _ _) (by simp [Value.oneCell']) (by unfold maxLen; omega) (by omega) (by simp; omega) ?_; intro v1 w1 ho1 hg1 hn1 hl1; have hmk := hide ((unhide hmi2).appK ho1 hg1 hl1); have s1' := cell_app s1 hg1 (unhide hkb))
            | (at_builtin; go_must (refine wpList_append_own_at _ rfl _ _ 36 rfl (w.heap.size + 1) 23 i0 (.int .u64 0) 1 8 Yba.underlying36 (unhide HI) (unhide HZ0) (unhide HZ1) (unhide HZ2) rfl (by decide) _ _ _ rfl ((unhide hmk).vr.alloc _) ⟨w1.heap.size, 0, none⟩ 1 1 [.int .u64 (Q k)] rfl rfl (cell_one_new _ _ _) (by simp [Value.oneCell']) (by unfold maxLen; omega) (by omega) (by have := (unhide hmk).lt; simp; omega) ?_; intro v2 w3 ho2 hg2 hn2 hl3)))
          go_roundg (len - (k + 1))
          case measure => omega
          case rel => exact ⟨k + 1, 0 + 1, S2, _, _, rfl, by omega, by go_num, by omega, (unhide hmk).appV ho2 hg2 hl3, kv_new (unhide hkv') (unhide hno), key_range (unhide hkr') (unhide hP' k hlt)⟩
      · obtain ⟨kg, kc, rfl⟩ : ∃ kg kc, u6 = .slice (some ⟨kg, 0, none⟩) n kc := by
          rcases row_shape hmi.kr with ⟨_, h⟩ | ⟨g, c, h⟩
          · exact absurd h hn0
          · exact ⟨_, _, h⟩
        obtain ⟨vg, vc, rfl⟩ : ∃ vg vc, u7 = .slice (some ⟨vg, 0, none⟩) n vc := by
          rcases row_shape hmi.vr with ⟨_, h⟩ | ⟨g, c, h⟩
          · exact absurd h hn0
          · exact ⟨_, _, h⟩
        go_wp2_with fail
        refine (unhide htk).mono ?_
        rintro e w2 ⟨rfl, S2, hr2, ht2, hf2⟩
        have hmi2 := hide (hmi.took hr2 ht2 hf2)
        obtain ⟨s0, s1⟩ := hmi.step ht2
        have hkb : kg < wr.heap.size := (hmi.kr.lt kg rfl).2
        have hvb : vg < wr.heap.size := (hmi.vr.lt vg rfl).2
        clear hr2 ht2 hf2 htk q0 q1
        clear hmi
        generalize wr.heap.size = sbk at *
        go_wp2_with fail
        go_loopg [38, 10] n (fun gg i fd wi => ∃ j, gg = n - j ∧ j ≤ n ∧ i = .int .i64 (j : Nat) ∧ fd = .bool false ∧ MI w wi (runF P Q (k + 1)) (k + 1) n n S2 ks vs (.slice (some ⟨kg, 0, none⟩) n kc) (.slice (some ⟨vg, 0, none⟩) n vc) ∧ wi.cell? ⟨sbk, 0, none⟩ = some (.int .u64 (P k)) ∧ wi.cell? ⟨sbk, 1, none⟩ = some (.int .u64 (Q k)) ∧ ∀ t, t < j → ks.getD t 0 ≠ P k)
        case atStart => exact ⟨0, by omega, by omega, rfl, rfl, unhide hmi2, s0, s1, fun t ht => by omega⟩
        case round =>
          obtain ⟨j, rfl, hjn, rfl, rfl, hmi3, s0, s1, hno⟩ := hrel
          clear hmi2
          have hl3 := hmi3.lt
          have hmi3' := hide hmi3
          have hno' := hide hno
          clear hno
          by_cases hj : j < n
          · have ck := row_cell hmi3.kr j hj
            have cv := row_cell hmi3.vr j hj
            have fv := hmi3.vr.frozenAt j
            clear hmi3
            by_cases he : ks.getD j 0 = P k
            · have hkl : j < ks.length := by omega
              by_cases hq : vs.getD j 0 < Q k
              · have hup := hide (kv_up (unhide hkv') hkl hq)
                rw [he] at hup
                have hb : (((ks.getD j 0 : Nat) : Int) == ((P k : Nat) : Int)) = true := by rw [he]; simp
                have hq' : ((vs.getD j 0 : Nat) : Int) < ((Q k : Nat) : Int) := by omega
                clear he hq
                generalize ks.getD j 0 = x at *
                generalize vs.getD j 0 = y at *
                go_wp2_with fail
                go_quiet (fail)
                go_wp2_with fail
                go_quiet (fail)
                go_wp2_with fail
                go_roundg (len - (k + 1))
                case measure => omega
                case rel => exact ⟨k + 1, n, S2, ks, _, rfl, by omega, by go_num, by omega, ((unhide hmi3').drewN _).store j (Q k), unhide hup, unhide hkr'⟩
              · have hup := hide (kv_same (unhide hkv') hkl hq)
                rw [he] at hup
                have hb : (((ks.getD j 0 : Nat) : Int) == ((P k : Nat) : Int)) = true := by rw [he]; simp
                have hq' : ¬ ((vs.getD j 0 : Nat) : Int) < ((Q k : Nat) : Int) := by omega
                clear he hq
                generalize ks.getD j 0 = x at *
                generalize vs.getD j 0 = y at *
                go_wp2_with fail
                go_quiet (fail)
                go_wp2_with fail
                go_quiet (fail)
                go_wp2_with fail
                go_roundg (len - (k + 1))
                case measure => omega
                case rel => exact ⟨k + 1, n, S2, ks, _, rfl, by omega, by go_num, by omega, (unhide hmi3').drewN _, unhide hup, unhide hkr'⟩
            · have hb : (((ks.getD j 0 : Nat) : Int) == ((P k : Nat) : Int)) = false := by simp only [beq_eq_false_iff_ne, ne_eq]; omega
              have hnx : ∀ t, t < j + 1 → ks.getD t 0 ≠ P k := fun t ht => by
                by_cases h : t < j
                · exact unhide hno' t h
                · have : t = j := by omega
                  subst this; exact he
              have HN := hide hnx
              clear hnx he
              generalize ks.getD j 0 = x at *
              go_wp2_with fail
              go_quiet (fail)
              go_wp2_with fail
              go_roundg (n - (j + 1))
              case measure => omega
              case rel => exact ⟨j + 1, rfl, by omega, by go_num, rfl, (unhide hmi3').drewN _, s0, s1, unhide HN⟩
          · have : j = n := by omega
            subst this
            clear hmi3
            have hno : Hid (∀ i, i < ks.length → ks.getD i 0 ≠ P k) := fun i hi => unhide hno' i (by omega)
            have hkb' : Hid (∀ g, (Value.slice (some ⟨kg, 0, none⟩) j kc).ownBlock = some g → g < sbk) := fun g h => by rw [← Option.some.inj h]; exact hkb
            go_wp2_with (first
              | (at_builtin; refine wpList_append_own_at _ rfl _ _ 36 rfl (w.heap.size + 1) 23 i0 (.int .u64 0) 1 8 Yba.underlying36 (unhide HI) (unhide HZ0) (unhide HZ1) (unhide HZ2) rfl (by decide) _ _ _ rfl ((unhide hmi3').kr.alloc _) ⟨wr.heap.size, 0, none⟩ 1 1 [.int .u64 (P k)] rfl rfl (cell_one_new _ _ _) (by simp [Value.oneCell']) (by unfold maxLen; omega) (by omega) (by simp; omega) ?_; intro v1 w1 ho1 hg1 hn1 hl1; have hmk := hide ((unhide hmi3').appK ho1 hg1 hl1); have s1' := cell_app s1 hg1 (unhide hkb'))
              | (at_builtin; go_must (refine wpList_append_own_at _ rfl _ _ 36 rfl (w.heap.size + 1) 23 i0 (.int .u64 0) 1 8 Yba.underlying36 (unhide HI) (unhide HZ0) (unhide HZ1) (unhide HZ2) rfl (by decide) _ _ _ rfl ((unhide hmk).vr.alloc _) ⟨w1.heap.size, 0, none⟩ 1 1 [.int .u64 (Q k)] rfl rfl (cell_one_new _ _ _) (by simp [Value.oneCell']) (by unfold maxLen; omega) (by omega) (by have := (unhide hmk).lt; simp; omega) ?_; intro v2 w3 ho2 hg2 hn2 hl3)))
            go_roundg (len - (k + 1))
            case measure => omega
            case rel => exact ⟨k + 1, j + 1, S2, _, _, rfl, by omega, by go_num, by omega, (unhide hmk).appV ho2 hg2 hl3, kv_new (unhide hkv') (unhide hno), key_range (unhide hkr') (unhide hP' k hlt)⟩
    · have : k = len := by omega
      subst this
      generalize HF : runF P Q k = f at hmi hkv
      clear HF
      have hks := row_len hmi.kr
      have hvs := row_len hmi.vr
      have hkv' := hide hkv
      by_cases hn0 : n = 0
      · subst hn0
        obtain rfl : ks = [] := List.eq_nil_of_length_eq_zero hks
        obtain ⟨ka, kc, rfl⟩ : ∃ ka kc, u6 = .slice ka 0 kc := by
          rcases row_shape hmi.kr with ⟨h, _⟩ | ⟨g, c, h⟩
          · exact ⟨_, _, h⟩
          · exact ⟨_, _, h⟩
        have hfp : f probe = none := by
          have := kv_some hkv probe
          cases hf : f probe with
          | none => rfl
          | some y => rw [hf] at this; simp at this
        have hg := hide (get_rep w.heap.size k probe f S wr hmi.rep hp)
        rw [hfp] at hg
        clear hfp hkv
        go_wp2_with fail
        go_loopg [76] 0 (fun _ i wi => i = .int .i64 0 ∧ wi = wr)
        case atStart => exact ⟨rfl, rfl⟩
        case round =>
          obtain ⟨rfl, rfl⟩ := hrel
          go_wp2_with fail
          refine (unhide hg).mono ?_
          rintro e w1 ⟨rfl, n1, rfl⟩
          go_wp2_with fail
          refine (contains_nil _ _ _ _).mono ?_
          rintro e w1 ⟨rfl, rfl⟩
          have hh := hmi.rep.held
          go_wp2_with fail
          refine (held_get w.heap.size probe (wr.drewN n1) hh).mono ?_
          rintro e w2 ⟨rfl, hb2⟩
          go_wp2_with fail
          go_ret
          exact ⟨rfl, ((below_drewN hmi.bel n1).trans (hb2.mono (by simp; omega))).alloc (by have := hb2.size; simp at this; omega) _⟩
      · obtain ⟨kg, kc, rfl⟩ : ∃ kg kc, u6 = .slice (some ⟨kg, 0, none⟩) n kc := by
          rcases row_shape hmi.kr with ⟨_, h⟩ | ⟨g, c, h⟩
          · exact absurd h hn0
          · exact ⟨_, _, h⟩
        obtain ⟨vg, vc, rfl⟩ : ∃ vg vc, u7 = .slice (some ⟨vg, 0, none⟩) n vc := by
          rcases row_shape hmi.vr with ⟨_, h⟩ | ⟨g, c, h⟩
          · exact absurd h hn0
          · exact ⟨_, _, h⟩
        clear hkv
        go_wp2_with fail
        go_loopg [76] n (fun gg i wi => ∃ j, gg = n - j ∧ j ≤ n ∧ i = .int .i64 (j : Nat) ∧ MI w wi f k n n S ks vs (.slice (some ⟨kg, 0, none⟩) n kc) (.slice (some ⟨vg, 0, none⟩) n vc))
        case atStart => exact ⟨0, by omega, by omega, rfl, hmi⟩
        case round =>
          obtain ⟨j, rfl, hjn, rfl, hmi3⟩ := hrel
          clear hmi
          have hl3 := hmi3.lt
          by_cases hj : j < n
          · have ck := row_cell hmi3.kr j hj
            have cv := row_cell hmi3.vr j hj
            have hkb : ks.getD j 0 < 18446744073709551616 := unhide hkr' _ (by rw [List.getD_eq_getElem?_getD, List.getElem?_eq_getElem (by omega)]; exact List.getElem_mem _)
            have hgt := hide (fun m => get_rep w.heap.size k (ks.getD j 0) f S (wr.drewN m) (hmi3.rep.drewN m) hkb)
            rw [(unhide hkv').get j (by omega)] at hgt
            generalize ks.getD j 0 = x at *
            generalize vs.getD j 0 = y at *
            go_wp2_with fail
            go_quiet ((go_at_call 7; exact Calls.quiet_of (unhide hgt _)))
            go_wp2_with fail
            go_roundg (n - (j + 1))
            case measure => omega
            case rel => exact ⟨j + 1, rfl, by omega, by go_num, hmi3.drewN _⟩
          · have : j = n := by omega
            subst this
            have hg := hide (get_rep w.heap.size k probe f S wr hmi3.rep hp)
            have hct := hide (fun m => contains_some kg j kc probe ks (wr.drewN m) hks (by omega) (fun i hi => row_cell hmi3.kr i hi))
            have hin : inB ks probe = (f probe).isSome := (kv_some (unhide hkv') probe).symm
            rw [hin] at hct
            clear hin
            have hh := hmi3.rep.held
            go_wp2_with fail
            refine (unhide hg).mono ?_
            rintro e w1 ⟨rfl, n1, rfl⟩
            go_wp2_with fail
            refine (unhide hct _).mono ?_
            rintro e w1 ⟨rfl, rfl⟩
            go_wp2_with fail
            refine (held_get w.heap.size probe (wr.drewN n1) hh).mono ?_
            rintro e w2 ⟨rfl, hb2⟩
            go_wp2_with fail
            go_ret
            exact ⟨rfl, ((below_drewN hmi3.bel n1).trans (hb2.mono (by simp; omega))).alloc (by have := hb2.size; simp at this; omega) _⟩
end Go.Proofs.Ybulkmrm
