import Derived.Test.Qxb6605973aCount
namespace Go.Proofs.Qxb6605973a.Rlk
open Go.RowKit Go.WideMaps Go.Maps
set_option linter.unusedVariables false

/-- the copied strings, in every later world -/
def Held (J : Nat) (w2 : World) (ra : Option Addr) (len : Nat) (S : Nat → ByteArray) : Prop :=
  ∀ i, i < len → ∃ b, ra = some ⟨b, 0, none⟩ ∧ ∀ wr, Below J w2 wr → wr.cell? ⟨b, i, none⟩ = some (.string (S i))
theorem held_of {w w1 : World} {ra : Option Addr} {len : Nat} {S : Nat → ByteArray} (h : Copied w w1 ra len S) (o : Obj) : Held w1.heap.size (w1.alloc o) ra len S := by
  intro i hi
  obtain ⟨b, e, hc⟩ := h.1 i hi
  have hb : b < w1.heap.size := World.block_lt_of_cell? w1 _ hc
  exact ⟨b, e, fun wr hbel => (hbel.cell (p := ⟨b, i, none⟩) hb).trans ((World.cell?_alloc_past _ _ _ hb).trans hc)⟩

set_option maxRecDepth 100000 in
set_option maxHeartbeats 2000000 in
theorem law4_walk (ra : Option Addr) (len cap : Nat) (S : Nat → ByteArray) (w : World) (hm : len ≤ maxLen) (hS : ∀ i, i < len → (S i).size ≤ maxLen) (hn : ra = none → len = 0) (hr : Strs w ra len S) :
    Calls Try.prog 4 #[.slice ra len cap] w fun e w' => e = .returned (.bool true) ∧ Below w.heap.size w w' := by
  have hby := bytes9_any ra len cap S w hm hS hr
  unfold maxLen at hm
  by_cases hbig : 4096 < (len : Int)
  · go_enter Try.func4, Try.ntmps4
    go_wp2_with (go_at_call 9; refine hby.mono ?_; rintro e w' ⟨⟨b, rfl⟩, hw⟩; rw [hw]; clear hw)
    all_goals (go_ret; exact ⟨rfl, Below.refl _ _⟩)
  have hl : len ≤ 4096 := by omega
  have hbd : decide (4096 < (len : Int)) = false := by simpa using hbig
  have C10 := clone_any ra len cap S w (by omega) hn hr
  have HS : Hid (∀ i, i < len → (S i).size ≤ maxLen) := hS
  have HR : Hid (Strs w ra len S) := hr
  clear hS hr hn
  go_enter Try.func4, Try.ntmps4
  go_wp2_with (go_at_call 9; refine hby.mono ?_; rintro e w' ⟨⟨b, rfl⟩, hw⟩; rw [hw]; clear hw)
  · go_ret; exact ⟨rfl, Below.refl _ _⟩
  clear hby
  go_loop [3, 4] (fun z i => ∃ (k : Nat) (t : Int), k ≤ len ∧ i = .int .i64 k ∧ z = .int .i64 t ∧ 0 ≤ t ∧ t ≤ 1048576) (fun _ i => len - (intOf i).toNat)
  case atStart => exact ⟨0, _, Nat.zero_le _, rfl, rfl, by omega, by omega⟩
  case round =>
    obtain ⟨k, t, hk, rfl, rfl, h0, h1⟩ := hrel
    by_cases hlt : k < len
    · obtain ⟨b, o, rfl, hc⟩ := HR.out k hlt
      have hsz := HS.out k hlt
      unfold maxLen at hsz
      have b1 : (k : Int) < len := by omega
      clear HS HR C10
      go_wp2
      · go_ret; exact ⟨rfl, Below.refl _ _⟩
      · go_ret; exact ⟨rfl, Below.refl _ _⟩
      · go_round
        case rel => exact ⟨k + 1, _, by omega, by go_num, rfl, by omega, by omega⟩
        case measure => simp [intOf]; omega
    · clear HR h0 h1 hk
      go_wp2_with (first
        | (go_at_call 10; refine C10.mono ?_; rintro e w1 ⟨ra', cap', rfl, HC⟩; clear C10)
        | (go_at_call 11; refine (new_any w1).mono ?_; rintro e w2 ⟨rfl, hw2⟩; have I0 : Inv 0 w1.heap.size (.map none) (fun _ => 0) (cnt S 0) (cnt S 0) (dst S 0) 0 w2 := hw2 ▸ inv_new w1; have HH : Hid (Held w1.heap.size w2 ra' len S) := hw2 ▸ held_of HC _; have HB : Hid (Below w.heap.size w w2) := hw2 ▸ HC.2.alloc HC.2.size _; have HJ : Hid (w.heap.size ≤ w1.heap.size) := HC.2.size; clear hw2 HC))
      clear hlt
      go_loopw [6] (fun i wr => ∃ (k : Nat) (nm : Value) (L : Key → Nat), k ≤ len ∧ i = .int .i64 k ∧ Inv 0 w1.heap.size nm L (cnt S k) (cnt S k) (dst S k) k wr ∧ Frm w1.heap.size w2 wr)
        (fun i _ => len - (intOf i).toNat)
      case atStart => exact ⟨0, _, _, Nat.zero_le _, rfl, I0, Frm.refl _ _⟩
      case round =>
        obtain ⟨k, nm, L, hk, rfl, I, F⟩ := hrel
        clear I0
        by_cases hlt : k < len
        · obtain ⟨b, rfl, cc⟩ := HH.out k hlt
          have ck := cc wr F.bel
          have b1 : (k : Int) < len := by omega
          have H12 : Calls Try.prog 12 #[ptr w1.heap.size, .string (S k)] wr fun e w' => e = .returned (.tuple #[]) ∧ (∃ nm' L', Inv 0 w1.heap.size nm' L' (cnt S (k + 1)) (cnt S (k + 1)) (dst S (k + 1)) (k + 1) w') ∧ Frm w1.heap.size wr w' :=
            hold_any I (S k) (HS.out k hlt) (by have := cnt_le S (S k).data.toList k; omega) (by have := cnt_le S (S k).data.toList k; omega) (by unfold maxLen; omega)
          have HF : Hid (Frm w1.heap.size w2 wr) := F
          clear cc HH I F
          go_wp2_with (go_at_call 12; refine H12.mono ?_; rintro e w3 ⟨rfl, HI, HF3⟩; clear H12)
          go_roundw
          case rel =>
            obtain ⟨nm', L', I'⟩ := HI
            exact ⟨k + 1, nm', L', by omega, by go_num, I', HF.out.trans HF3⟩
          case measure => simp [intOf]; omega
        · obtain rfl : len = k := by omega
          obtain ⟨v, hv⟩ : ∃ v, nm = .map v := by
            rcases I.map with ⟨e, _⟩ | ⟨bm, D, e, _⟩
            · exact ⟨_, e⟩
            · exact ⟨_, e⟩
          rw [hv] at I
          clear hv hlt
          have HF : Hid (Frm w1.heap.size w2 wr) := F
          have c3 := I.c3
          clear F
          go_wp2_with (go_at_call 13; refine (names_any _ v _ c3).mono ?_; rintro e w3 ⟨rfl, hw3⟩; rw [hw3]; clear hw3 c3)
          obtain ⟨w3, hw3⟩ : ∃ w3, w3 = wr := ⟨_, rfl⟩
          rw [← hw3] at I HF ⊢
          clear hw3
          have HI : Hid (Inv 0 w1.heap.size (.map v) L (cnt S len) (cnt S len) (dst S len) len w3) := I
          have HL : Hid (∀ i, i < len → ∃ b, ra' = some ⟨b, 0, none⟩ ∧ ∀ wr, Below w3.heap.size w3 wr → wr.cell? ⟨b, i, none⟩ = some (.string (S i))) := fun i hi => by
            obtain ⟨b, e, cc⟩ := HH.out i hi
            exact ⟨b, e, fun wr hb => cc wr (HF.out.bel.trans (hb.mono (by have := I.row.lt; omega)))⟩
          have HE : Hid (Below w.heap.size w w3) := HB.out.trans (HF.out.bel.mono HJ.out)
          clear HH HB HF HJ I
          go_loopw [8, 9] (fun d i wr => ∃ k : Nat, k ≤ len ∧ i = .int .i64 k ∧ d = .int .i64 (dst S k) ∧ Below w3.heap.size w3 wr) (fun _ i _ => len - (intOf i).toNat)
          case atStart => exact ⟨0, Nat.zero_le _, rfl, rfl, Below.refl _ _⟩
          case round =>
            obtain ⟨k, hk, rfl, rfl, hb⟩ := hrel
            have hd := dst_le S k
            by_cases hlt : k < len
            · obtain ⟨b, rfl, ck⟩ := HL.out k hlt
              have CK : Hid (∀ wr, Below w3.heap.size w3 wr → wr.cell? ⟨b, k, none⟩ = some (.string (S k))) := ck
              clear ck
              have b1 : (k : Int) < len := by omega
              go_wp2
              go_loopw [10, 11, 12] (fun c f j wr => ∃ (m : Nat) (fb : Bool), m ≤ len ∧ j = .int .i64 m ∧ c = .int .i64 (cnt S m (key S k)) ∧ f = .bool fb ∧ Hid (fb = frst S k m) ∧ Below w3.heap.size w3 wr)
                (fun _ _ j _ => len - (intOf j).toNat)
              case atStart => exact ⟨0, true, Nat.zero_le _, rfl, rfl, rfl, (frst_zero S k).symm, hb⟩
              case round =>
                clear hb
                obtain ⟨m, fb, hm2, rfl, rfl, rfl, HF, hb⟩ := hrel
                have hcl := cnt_le S (key S k) m
                by_cases hlm : m < len
                · have cm : wr.cell? ⟨b, m, none⟩ = some (.string (S m)) := by
                    obtain ⟨b', e, cc⟩ := HL.out m hlm
                    cases e
                    exact cc wr hb
                  have ck := CK.out wr hb
                  have b2 : (m : Int) < len := by omega
                  have HB : Hid (Below w3.heap.size w3 wr) := hb
                  clear hb
                  by_cases hq : key S m = key S k
                  · have ht : ((S m).toList == (S k).toList) = true := key_eq.2 hq
                    have hc1 := cnt_hit S m (key S k) hq
                    have HC : Hid (cnt S (m + 1) (key S k) = cnt S m (key S k) + 1) := hc1
                    have HQ : Hid (key S m = key S k) := hq
                    clear hc1 hq
                    by_cases hmk : m < k
                    · have b3 : (m : Int) < k := by omega
                      go_wp2
                      go_region
                      all_goals
                        go_wp2
                        go_roundw
                        case rel => exact ⟨m + 1, false, by omega, by go_num, by rw [HC.out]; go_num, rfl, (frst_hit HQ.out hmk).symm, HB.out.drew⟩
                        case measure => simp [intOf]; omega
                    · have b3 : ¬ (m : Int) < k := by omega
                      go_wp2
                      go_region
                      all_goals
                        go_wp2
                        go_roundw
                        case rel => exact ⟨m + 1, fb, by omega, by go_num, by rw [HC.out]; go_num, rfl, HF.out.trans (frst_past hmk).symm, HB.out.drew⟩
                        case measure => simp [intOf]; omega
                  · have ht : ((S m).toList == (S k).toList) = false := by
                      rw [Bool.eq_false_iff]; exact fun h => hq (key_eq.1 h)
                    have HC : Hid (cnt S (m + 1) (key S k) = cnt S m (key S k)) := cnt_miss S m (key S k) hq
                    have HQ : Hid (key S m ≠ key S k) := hq
                    clear hq
                    go_wp2
                    go_region
                    all_goals
                      go_wp2
                      go_roundw
                      case rel => exact ⟨m + 1, fb, by omega, by go_num, by rw [HC.out], rfl, HF.out.trans (frst_miss HQ.out).symm, HB.out.drew⟩
                      case measure => simp [intOf]; omega
                · obtain rfl : len = m := by omega
                  have ck := CK.out wr hb
                  have IW := HI.out.below hb
                  have hps : 0 < cnt S len (key S k) := cnt_pos S hlt
                  obtain ⟨bm, hbm⟩ := IW.is_map hps
                  have hv : v = some bm := by simpa using hbm
                  subst hv
                  have hlo : (Instr.lookup 40 (.map (some bm)) (.string (S k)) false).run Try.prog wr = .ok (ptr (L (key S k))) wr := IW.look (HS.out k hlt) hps
                  have c6 := IW.c6 hps
                  have HB : Hid (Below w3.heap.size w3 wr) := hb
                  clear hb IW hbm HL HI HS HE CK hlm
                  cases fb
                  · have HD : Hid (dst S (k + 1) = dst S k) := dst_again hk HF.out.symm
                    clear HF
                    go_wp2_with (go_at_call 14; refine (users_any _ _ _ c6).mono ?_; rintro e w5 ⟨rfl, hw5⟩; rw [hw5]; clear hw5)
                    go_roundw
                    case rel => exact ⟨k + 1, by omega, by go_num, by rw [HD.out], HB.out⟩
                    case measure => simp [intOf]; omega
                  · have HD : Hid (dst S (k + 1) = dst S k + 1) := dst_first hk HF.out.symm
                    clear HF
                    go_wp2_with (go_at_call 14; refine (users_any _ _ _ c6).mono ?_; rintro e w5 ⟨rfl, hw5⟩; rw [hw5]; clear hw5)
                    go_roundw
                    case rel => exact ⟨k + 1, by omega, by go_num, by rw [HD.out]; go_num, HB.out⟩
                    case measure => simp [intOf]; omega
            · obtain rfl : len = k := by omega
              have IW := HI.out.below hb
              have HB : Hid (Below w3.heap.size w3 wr) := hb
              clear hb HL HI HS
              go_wp2_with (refine wpList_len_inv IW rfl (.tmp 104) rfl rfl ?_)
              go_ret
              exact ⟨by simp, HE.out.trans (HB.out.mono HE.out.size)⟩
end Go.Proofs.Qxb6605973a.Rlk
