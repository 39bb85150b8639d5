import Derived.Test.Qxb6605797aLawA
namespace Go.Proofs.Qxb6605797a.Chn
open Go.RowKit
set_option linter.unusedVariables false

/-- what stands in every later world -/
structure Later (G len L : Nat) (line col : Int) (B : Nat → Nat) (lr : Value) (wr : World) : Prop where
  nd : ∀ k, k ≤ len → wr.cell? ⟨G, k, none⟩ = some (ptr (B k))
  sp : Spine wr B len L
  l0 : wr.cell? ⟨L, 0, none⟩ = some (.int .i64 line)
  l1 : wr.cell? ⟨L, 1, none⟩ = some (.int .i64 col)
  rt : lr = .pointer none ∨ ∃ R Lr, lr = ptr R ∧ Spine wr (fun _ => R) 0 Lr ∧ wr.cell? ⟨Lr, 0, none⟩ = some (.int .i64 (wrap64 (line + 2))) ∧ wr.cell? ⟨Lr, 1, none⟩ = some (.int .i64 (wrap64 (col + 2)))

theorem later {w w2 wr : World} {line col : Int} {len : Nat} {B : Nat → Nat} {lr : Value} (S : St w line col len len B lr w2) (hb : Below w2.heap.size w2 wr) : Later w.heap.size len (w.heap.size + 1) line col B lr wr := by
  have c : ∀ {b o : Nat} {v : Value}, w2.cell? ⟨b, o, none⟩ = some v → wr.cell? ⟨b, o, none⟩ = some v :=
    fun {b o v} h => (hb.cell (p := ⟨b, o, none⟩) (World.block_lt_of_cell? w2 _ h)).trans h
  refine ⟨fun k hk => c (nodes_cell S hk), S.sp.below (Nat.le_refl _) hb, c S.l0, c S.l1, ?_⟩
  rcases S.rt with h | ⟨R, Lr, e, hR, hL, c0, ⟨y, c1⟩, d0, d1⟩
  · exact .inl h
  · have s2 : Spine w2 (fun _ => R) 0 Lr := ⟨c0, fun i hi => absurd hi (by omega), fun i _ => ⟨y, c1⟩⟩
    exact .inr ⟨R, Lr, e, s2.below (Nat.le_refl _) hb, c d0, c d1⟩

set_option maxHeartbeats 1000000 in
theorem law4_none (len cap : Nat) (h0 : Hid (len = 0)) (hl : len ≤ 65536) (line col : Int) (w : World) :
    Calls Try.prog 4 #[.slice none len cap, .int .i64 line, .int .i64 col] w fun e w' => e = .returned (.bool true) ∧ Below w.heap.size w w' := by
  have hby := bytes8_any none len cap line col w (by unfold maxLen; omega)
  have hneq := fun w => run_neq_slice_nil_any (P := Try.prog) w 22 4 none len cap 0 0 Try.underlying22
  have hbd : decide (65536 < (len : Int)) = false := by simp; omega
  have C6 := spine_any none len cap (fun _ => false) line col w hl (fun i hi => absurd hi (by have := h0.out; omega))
  go_enter Try.func4, Try.ntmps4
  go_wp2_with (first
    | (go_at_call 8; refine hby.mono ?_; rintro e w' ⟨⟨b, rfl⟩, hw⟩; rw [hw]; clear hw)
    | (go_at_call 6; refine C6.mono ?_; rintro e w2 ⟨B, lr, rfl, S⟩; have cn := nodes_cell S (Nat.le_refl len); clear C6 hneq hby))
  · go_ret
    exact ⟨rfl, Below.refl _ _⟩
  · refine (zpos_any B len _ line col w2 S.sp S.l0 S.l1 (by omega)).mono ?_
    rintro e w3 ⟨rfl, hb3⟩
    have L3 := later S hb3
    have cm := L3.nd (len / 2) (by omega)
    clear cn
    go_wp2_with fail
    refine (zpos_any B (len / 2) _ line col w3 (L3.sp.upto (by omega)) L3.l0 L3.l1 (by omega)).mono ?_
    rintro e w4 ⟨rfl, hb4⟩
    have hb24 : Below w2.heap.size w2 w4 := hb3.trans (hb4.mono hb3.size)
    have L4 := later S hb24
    have cm4 := L4.nd (len / 2) (by omega)
    clear cm L3 hb3 hb4
    go_wp2_with fail
    refine (zchain_any B (len / 2) _ w4 (L4.sp.upto (by omega)) (by omega)).mono ?_
    rintro e w5 ⟨g, rfl, hg, hrow, hb5⟩
    have hb25 : Below w2.heap.size w2 w5 := hb24.trans (hb5.mono hb24.size)
    have SL : Hid (∀ wr, Below w5.heap.size w5 wr → Later w.heap.size len (w.heap.size + 1) line col B lr wr ∧ Below w2.heap.size w2 wr) := fun wr hb => ⟨later S (hb25.trans (hb.mono hb25.size)), hb25.trans (hb.mono hb25.size)⟩
    have HB : Hid (Below w.heap.size w w2) := S.bel
    have HR : Hid (∀ k, k < len / 2 + 1 → ∀ wr, Below w5.heap.size w5 wr → wr.cell? ⟨g, k, none⟩ = some (ptr (B k))) := fun k hk wr hb => (hb.cell (p := ⟨g, k, none⟩) hrow.lt).trans (hrow.cell hk)
    have hns := neq_same
    clear cm4 L4 hb24 hrow hb5 hb25 S
    go_wp2_with fail
    go_loopw [15] (fun i wr => ∃ k : Nat, k ≤ len / 2 + 1 ∧ i = .int .i64 k ∧ Below w5.heap.size w5 wr) (fun i _ => len / 2 + 1 - (intOf i).toNat)
    case atStart => exact ⟨0, Nat.zero_le _, rfl, Below.refl _ _⟩
    case round =>
      obtain ⟨k, hk, rfl, hb6⟩ := hrel
      by_cases hlt : k < len / 2 + 1
      · have c1 := HR.out k hlt wr hb6
        have c2 := (SL.out wr hb6).1.nd k (by omega)
        have b1 : (k : Int) < ((len / 2 : Nat) : Int) + 1 := by omega
        have b2 : (k : Int) < (len : Int) + 1 := by omega
        have HB6 : Hid _ := hb6
        clear hb6
        go_wp2
        go_region
        all_goals
          go_wp2
          go_roundw
          case rel => exact ⟨k + 1, by omega, by go_num, HB6.out.drew⟩
          case measure => simp [intOf]; omega
      · obtain ⟨L6, hb26⟩ := SL.out wr hb6
        rcases L6.rt with rfl | ⟨R, Lr, rfl, spR, d0, d1⟩
        · clear L6 hb6
          go_wp2
          go_ret
          exact ⟨rfl, HB.out.trans (hb26.mono HB.out.size)⟩
        · have HB7 : Hid (Below w.heap.size w wr) := HB.out.trans (hb26.mono HB.out.size)
          clear L6 hb6 hb26
          go_wp2_with (go_at_call 9; refine (zpos_any (fun _ => R) 0 Lr _ _ _ spR d0 d1 (by omega)).mono ?_; rintro e w7 ⟨rfl, hb7⟩; clear spR d0 d1)
          go_ret
          exact ⟨rfl, HB7.out.trans (hb7.mono HB7.out.size)⟩

set_option maxHeartbeats 1000000 in
theorem law4_some (x : Addr) (len cap : Nat) (z : Nat → Bool) (line col : Int) (w : World) (hm : len ≤ maxLen) (hr : ∀ i, i < len → w.cell? (x.add i) = some (.bool (z i))) :
    Calls Try.prog 4 #[.slice (some x) len cap, .int .i64 line, .int .i64 col] w fun e w' => e = .returned (.bool true) ∧ Below w.heap.size w w' := by
  have hby := bytes8_any (some x) len cap line col w hm
  unfold maxLen at hm
  by_cases hbig : 65536 < (len : Int)
  · go_enter Try.func4, Try.ntmps4
    go_wp2_with (go_at_call 8; refine hby.mono ?_; rintro e w' ⟨⟨b, rfl⟩, hw⟩; rw [hw]; clear hw)
    all_goals (go_ret; exact ⟨rfl, Below.refl _ _⟩)
  · have hl : len ≤ 65536 := by omega
    have hmk := run_make_row' (P := Try.prog) 22 4 (.bool false) 1 Try.underlying22 info4 rfl .i64 .i64 len (by omega) (by omega)
    have hneq := fun w => run_neq_slice_nil_any (P := Try.prog) w 22 4 (some x) len cap 0 0 Try.underlying22
    have hbd : decide (65536 < (len : Int)) = false := by simpa using hbig
    have HC : Hid (∀ i, i < len → w.cell? (x.add i) = some (.bool (z i))) := hr
    clear hr
    go_enter Try.func4, Try.ntmps4
    go_wp2_with (first
      | (go_at_call 8; refine hby.mono ?_; rintro e w' ⟨⟨b, rfl⟩, hw⟩; rw [hw]; clear hw)
      | (refine wpList_copy_splice rfl (.tmp 29) (.tmp 30) 22 22 rfl 4 Try.underlying22 size4 _ _ _ _ _ _ rfl rfl w.heap.size 0 (List.replicate len (.bool false)) 4 (made_list len w) (boolsL z len) ?k1 ?k2 ?k3 ?k4 w.heap.size w ?k5 (Nat.le_refl _) ?_))
    · go_ret
      exact ⟨rfl, Below.refl _ _⟩
    case k1 => simp [length_boolsL]
    case k2 =>
      intro _ j v hv
      obtain ⟨hj, rfl⟩ := boolsL_get hv
      have hc := HC.out j hj
      rw [World.cell?_alloc_lt w _ _ (World.block_lt_of_cell? w _ hc)]
      exact hc
    case k3 => simp [length_boolsL]
    case k4 =>
      intro v hv
      obtain ⟨j, hj⟩ := List.getElem?_of_mem hv
      obtain ⟨_, rfl⟩ := boolsL_get hj
      rfl
    case k5 => exact (Below.refl _ _).alloc (Nat.le_refl _) _
    · intro wc hcp hbc
      have C6 := spine_any (some ⟨w.heap.size, 0, none⟩) len len z line col wc hl (copied hcp)
      clear hcp hmk hneq hby
      go_wp2_with (go_at_call 6; refine C6.mono ?_; rintro e w2 ⟨B, lr, rfl, S⟩; have cn := nodes_cell S (Nat.le_refl len); clear C6)
      refine (zpos_any B len _ line col w2 S.sp S.l0 S.l1 (by omega)).mono ?_
      rintro e w3 ⟨rfl, hb3⟩
      have L3 := later S hb3
      have cm := L3.nd (len / 2) (by omega)
      clear cn
      go_wp2_with fail
      refine (zpos_any B (len / 2) _ line col w3 (L3.sp.upto (by omega)) L3.l0 L3.l1 (by omega)).mono ?_
      rintro e w4 ⟨rfl, hb4⟩
      have hb24 : Below w2.heap.size w2 w4 := hb3.trans (hb4.mono hb3.size)
      have L4 := later S hb24
      have cm4 := L4.nd (len / 2) (by omega)
      clear cm L3 hb3 hb4
      go_wp2_with fail
      refine (zchain_any B (len / 2) _ w4 (L4.sp.upto (by omega)) (by omega)).mono ?_
      rintro e w5 ⟨g, rfl, hg, hrow, hb5⟩
      have hb25 : Below w2.heap.size w2 w5 := hb24.trans (hb5.mono hb24.size)
      have SL : Hid (∀ wr, Below w5.heap.size w5 wr → Later wc.heap.size len (wc.heap.size + 1) line col B lr wr ∧ Below w2.heap.size w2 wr) := fun wr hb => ⟨later S (hb25.trans (hb.mono hb25.size)), hb25.trans (hb.mono hb25.size)⟩
      have HB : Hid (Below w.heap.size w w2) := hbc.trans (S.bel.mono hbc.size)
      have HR : Hid (∀ k, k < len / 2 + 1 → ∀ wr, Below w5.heap.size w5 wr → wr.cell? ⟨g, k, none⟩ = some (ptr (B k))) := fun k hk wr hb => (hb.cell (p := ⟨g, k, none⟩) hrow.lt).trans (hrow.cell hk)
      have hns := neq_same
      clear cm4 L4 hb24 hrow hb5 hb25 S
      go_wp2_with fail
      go_loopw [15] (fun i wr => ∃ k : Nat, k ≤ len / 2 + 1 ∧ i = .int .i64 k ∧ Below w5.heap.size w5 wr) (fun i _ => len / 2 + 1 - (intOf i).toNat)
      case atStart => exact ⟨0, Nat.zero_le _, rfl, Below.refl _ _⟩
      case round =>
        obtain ⟨k, hk, rfl, hb6⟩ := hrel
        by_cases hlt : k < len / 2 + 1
        · have c1 := HR.out k hlt wr hb6
          have c2 := (SL.out wr hb6).1.nd k (by omega)
          have b1 : (k : Int) < ((len / 2 : Nat) : Int) + 1 := by omega
          have b2 : (k : Int) < (len : Int) + 1 := by omega
          have HB6 : Hid _ := hb6
          clear hb6
          go_wp2
          go_region
          all_goals
            go_wp2
            go_roundw
            case rel => exact ⟨k + 1, by omega, by go_num, HB6.out.drew⟩
            case measure => simp [intOf]; omega
        · obtain ⟨L6, hb26⟩ := SL.out wr hb6
          rcases L6.rt with rfl | ⟨R, Lr, rfl, spR, d0, d1⟩
          · clear L6 hb6
            go_wp2
            go_ret
            exact ⟨rfl, HB.out.trans (hb26.mono HB.out.size)⟩
          · have HB7 : Hid (Below w.heap.size w wr) := HB.out.trans (hb26.mono HB.out.size)
            clear L6 hb6 hb26
            go_wp2_with (go_at_call 9; refine (zpos_any (fun _ => R) 0 Lr _ _ _ spR d0 d1 (by omega)).mono ?_; rintro e w7 ⟨rfl, hb7⟩; clear spR d0 d1)
            go_ret
            exact ⟨rfl, HB7.out.trans (hb7.mono HB7.out.size)⟩
end Go.Proofs.Qxb6605797a.Chn
