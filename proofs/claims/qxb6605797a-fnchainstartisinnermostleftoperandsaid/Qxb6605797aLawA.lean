import Derived.Test.Qxb6605797aRights
import Derived.Lib.Builder
namespace Go.Proofs.Qxb6605797a.Chn
open Go.RowKit
set_option linter.unusedVariables false

theorem info48 : (Try.prog.info? 48).map (fun i => i.size) = some 2 := by kernel_rfl
theorem neq_same (a : Addr) (w : World) : (binOp .neq 25 (.pointer (some a)) (.pointer (some a))).run Try.prog w = .ok (.bool false) w := by
  obtain ⟨j, hj, _⟩ := Option.map_eq_some_iff.1 info48
  exact Lib.run_neq_ptr_same w a Try.underlying25 hj

theorem nodes_cell {w w2 : World} {line col : Int} {len : Nat} {B : Nat → Nat} {lr : Value} (S : St w line col len len B lr w2) {i : Nat} (hi : i ≤ len) : w2.cell? ⟨w.heap.size, i, none⟩ = some (ptr (B i)) := by
  rw [S.own.cellAt i (by omega)]
  unfold nodesL
  rw [List.getElem?_map, List.getElem?_range (by omega)]
  rfl

theorem law3_tail {w w2 w3 : World} {line col : Int} {len g : Nat} {B : Nat → Nat} {lr : Value} (S : St w line col len len B lr w2) (hrow : w3.rowIs g 25 (len + 1) (fun i => ptr (B i))) (hb3 : Below w2.heap.size w2 w3) :
    (∀ k, k < len + 1 → ∀ wr, Below w3.heap.size w3 wr → wr.cell? ⟨g, k, none⟩ = some (ptr (B k)) ∧ wr.cell? ⟨w.heap.size, k, none⟩ = some (ptr (B k))) ∧
    (∀ wr, Below w3.heap.size w3 wr → lr = .pointer none ∨ ∃ R Lr, lr = ptr R ∧ Spine wr (fun _ => R) 0 Lr) := by
  have hlt : w.heap.size < w2.heap.size := S.lt
  have hlt3 := hb3.size
  refine ⟨fun k hk wr hb => ⟨(hb.cell (p := ⟨g, k, none⟩) hrow.lt).trans (hrow.cell hk), ?_⟩, fun wr hb => ?_⟩
  · exact (hb.cell (p := ⟨w.heap.size, k, none⟩) (by show w.heap.size < _; omega)).trans ((hb3.cell (p := ⟨w.heap.size, k, none⟩) hlt).trans (nodes_cell S (by omega)))
  · rcases S.rt with h | ⟨R, Lr, e, hR, hL, c0, ⟨y, c1⟩, _⟩
    · exact .inl h
    · have s2 : Spine w2 (fun _ => R) 0 Lr := ⟨c0, fun i hi => absurd hi (by omega), fun i _ => ⟨y, c1⟩⟩
      exact .inr ⟨R, Lr, e, (s2.below (Nat.le_refl _) hb3).below (Nat.le_refl _) hb⟩

set_option maxHeartbeats 800000 in
theorem law3_some (x : Addr) (len cap : Nat) (z : Nat → Bool) (line col : Int) (w : World) (hm : len ≤ maxLen) (hr : ∀ i, i < len → w.cell? (x.add i) = some (.bool (z i))) :
    Calls Try.prog 3 #[.slice (some x) len cap, .int .i64 line, .int .i64 col] w fun e w' => e = .returned (.bool true) ∧ Below w.heap.size w w' := by
  have hby := bytes5_any (some x) len cap line col w hm
  unfold maxLen at hm
  by_cases hbig : 65536 < (len : Int)
  · go_enter Try.func3, Try.ntmps3
    go_wp2_with (go_at_call 5; refine hby.mono ?_; rintro e w' ⟨⟨b, rfl⟩, hw⟩; rw [hw]; clear hw)
    all_goals (go_ret; exact ⟨rfl, Below.refl _ _⟩)
  · have hl : len ≤ 65536 := by omega
    have hmk := run_make_row' (P := Try.prog) 22 4 (.bool false) 1 Try.underlying22 info4 rfl .i64 .i64 len (by omega) (by omega)
    have hneq := fun w => run_neq_slice_nil_any (P := Try.prog) w 22 4 (some x) len cap 0 0 Try.underlying22
    have hbd : decide (65536 < (len : Int)) = false := by simpa using hbig
    have HC : Hid (∀ i, i < len → w.cell? (x.add i) = some (.bool (z i))) := hr
    clear hr
    go_enter Try.func3, Try.ntmps3
    go_wp2_with (first
      | (go_at_call 5; refine hby.mono ?_; rintro e w' ⟨⟨b, rfl⟩, hw⟩; rw [hw]; clear hw)
      | (refine wpList_copy_splice rfl (.tmp 26) (.tmp 27) 22 22 rfl 4 Try.underlying22 size4 _ _ _ _ _ _ rfl rfl w.heap.size 0 (List.replicate len (.bool false)) 4 (made_list len w) (boolsL z len) ?k1 ?k2 ?k3 ?k4 w.heap.size w ?k5 (Nat.le_refl _) ?_))
    · go_ret
      exact ⟨rfl, Below.refl _ _⟩
    case k1 => simp [length_boolsL]
    case k2 =>
      intro _ j v hv
      obtain ⟨hj, rfl⟩ := boolsL_get hv
      have hc := HC.out j hj
      rw [World.cell?_alloc_lt w _ _ (World.block_lt_of_cell? w _ hc)]
      exact hc
    case k3 => simp [length_boolsL]
    case k4 =>
      intro v hv
      obtain ⟨j, hj⟩ := List.getElem?_of_mem hv
      obtain ⟨_, rfl⟩ := boolsL_get hj
      rfl
    case k5 => exact (Below.refl _ _).alloc (Nat.le_refl _) _
    · intro wc hcp hbc
      have C6 := spine_any (some ⟨w.heap.size, 0, none⟩) len len z line col wc hl (copied hcp)
      clear hcp hmk hneq
      go_wp2_with (first
        | (go_at_call 6; refine C6.mono ?_; rintro e w2 ⟨B, lr, rfl, S⟩; have cn := nodes_cell S (Nat.le_refl len); clear C6)
        | (go_at_call 7; refine (zchain_any B len (wc.heap.size + 1) w2 S.sp (by omega)).mono ?_; rintro e w3 ⟨g, rfl, hg, hrow, hb3⟩; clear cn))
      have T := law3_tail S hrow hb3
      have HB : Hid _ := hbc.trans (S.bel.mono hbc.size)
      have hns := neq_same
      clear hrow S hbc
      go_loopw [11] (fun i wr => ∃ k : Nat, k ≤ len + 1 ∧ i = .int .i64 k ∧ Below w3.heap.size w3 wr) (fun i _ => len + 1 - (intOf i).toNat)
      case atStart => exact ⟨0, Nat.zero_le _, rfl, Below.refl _ _⟩
      case round =>
        obtain ⟨k, hk, rfl, hb4⟩ := hrel
        by_cases hlt : k < len + 1
        · obtain ⟨c1, c2⟩ := T.1 k hlt wr hb4
          have b1 : (k : Int) < len + 1 := by omega
          have HB4 : Hid _ := hb4
          clear T hb4
          go_wp2
          go_region
          all_goals
            go_wp2
            go_roundw
            case rel => exact ⟨k + 1, by omega, by go_num, HB4.out.drew⟩
            case measure => simp [intOf]; omega
        · rcases T.2 wr hb4 with rfl | ⟨R, Lr, rfl, spR⟩
          · clear T
            go_wp2
            go_ret
            exact ⟨rfl, HB.out.trans ((hb3.mono HB.out.size).trans (hb4.mono (Nat.le_trans HB.out.size hb3.size)))⟩
          · clear T
            go_wp2_with (go_at_call 7; refine (zchain_any (fun _ => R) 0 Lr _ spR (by omega)).mono ?_; rintro e w5 ⟨g5, rfl, hg5, hrow5, hb5⟩; have c5 := hrow5.cell (i := 0) (by omega); clear hrow5)
            go_ret
            exact ⟨rfl, (HB.out.trans ((hb3.mono HB.out.size).trans (hb4.mono (Nat.le_trans HB.out.size hb3.size)))).trans (hb5.mono (Nat.le_trans (Nat.le_trans HB.out.size hb3.size) hb4.size))⟩

set_option maxHeartbeats 800000 in
theorem law3_none (len cap : Nat) (h0 : Hid (len = 0)) (hl : len ≤ 65536) (line col : Int) (w : World) :
    Calls Try.prog 3 #[.slice none len cap, .int .i64 line, .int .i64 col] w fun e w' => e = .returned (.bool true) ∧ Below w.heap.size w w' := by
  have hby := bytes5_any none len cap line col w (by unfold maxLen; omega)
  have hneq := fun w => run_neq_slice_nil_any (P := Try.prog) w 22 4 none len cap 0 0 Try.underlying22
  have hbd : decide (65536 < (len : Int)) = false := by simp; omega
  have C6 := spine_any none len cap (fun _ => false) line col w hl (fun i hi => absurd hi (by have := h0.out; omega))
  go_enter Try.func3, Try.ntmps3
  go_wp2_with (first
    | (go_at_call 5; refine hby.mono ?_; rintro e w' ⟨⟨b, rfl⟩, hw⟩; rw [hw]; clear hw)
    | (go_at_call 6; refine C6.mono ?_; rintro e w2 ⟨B, lr, rfl, S⟩; have cn := nodes_cell S (Nat.le_refl len); clear C6)
    | (go_at_call 7; refine (zchain_any B len (w.heap.size + 1) w2 S.sp (by omega)).mono ?_; rintro e w3 ⟨g, rfl, hg, hrow, hb3⟩; clear cn))
  · go_ret
    exact ⟨rfl, Below.refl _ _⟩
  · clear hby
    have T := law3_tail S hrow hb3
    have HB : Hid _ := S.bel
    have hns := neq_same
    clear hrow S
    go_loopw [11] (fun i wr => ∃ k : Nat, k ≤ len + 1 ∧ i = .int .i64 k ∧ Below w3.heap.size w3 wr) (fun i _ => len + 1 - (intOf i).toNat)
    case atStart => exact ⟨0, Nat.zero_le _, rfl, Below.refl _ _⟩
    case round =>
      obtain ⟨k, hk, rfl, hb4⟩ := hrel
      by_cases hlt : k < len + 1
      · obtain ⟨c1, c2⟩ := T.1 k hlt wr hb4
        have b1 : (k : Int) < len + 1 := by omega
        have HB4 : Hid _ := hb4
        clear T hb4
        go_wp2
        go_region
        all_goals
          go_wp2
          go_roundw
          case rel => exact ⟨k + 1, by omega, by go_num, HB4.out.drew⟩
          case measure => simp [intOf]; omega
      · rcases T.2 wr hb4 with rfl | ⟨R, Lr, rfl, spR⟩
        · clear T
          go_wp2
          go_ret
          exact ⟨rfl, HB.out.trans ((hb3.mono HB.out.size).trans (hb4.mono (Nat.le_trans HB.out.size hb3.size)))⟩
        · clear T
          go_wp2_with (go_at_call 7; refine (zchain_any (fun _ => R) 0 Lr _ spR (by omega)).mono ?_; rintro e w5 ⟨g5, rfl, hg5, hrow5, hb5⟩; have c5 := hrow5.cell (i := 0) (by omega); clear hrow5)
          go_ret
          exact ⟨rfl, (HB.out.trans ((hb3.mono HB.out.size).trans (hb4.mono (Nat.le_trans HB.out.size hb3.size)))).trans (hb5.mono (Nat.le_trans (Nat.le_trans HB.out.size hb3.size) hb4.size))⟩
end Go.Proofs.Qxb6605797a.Chn
