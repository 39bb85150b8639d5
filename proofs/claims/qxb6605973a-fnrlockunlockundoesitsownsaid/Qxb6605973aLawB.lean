import Derived.Test.Qxb6605973aCountB
namespace Go.Proofs.Qxb6605973a.Rlk
open Go.RowKit Go.WideMaps Go.Maps
set_option linter.unusedVariables false
theorem ret_bool {a b : Bool} (h : a = b) : Ending.returned (.bool a) = .returned (.bool b) := by rw [h]

/-- the copied strings, in every later world -/
def HeldO (J : Nat) (w2 : World) (ra : Option Addr) (len : Nat) (S : Nat → ByteArray) (T : Nat → Bool) : Prop :=
  ∀ i, i < len → ∃ b, ra = some ⟨b, 0, none⟩ ∧ ∀ wr, Below J w2 wr → wr.cell? ⟨b, i * 2, none⟩ = some (.string (S i)) ∧ wr.cell? ⟨b, i * 2 + 1, none⟩ = some (.bool (T i))
theorem heldO_of {w w1 : World} {ra : Option Addr} {len : Nat} {S : Nat → ByteArray} {T : Nat → Bool} (h : CopiedO w w1 ra len S T) (o : Obj) : HeldO w1.heap.size (w1.alloc o) ra len S T := by
  intro i hi
  obtain ⟨b, e, hc, hd⟩ := h.1 i hi
  have hb : b < w1.heap.size := World.block_lt_of_cell? w1 _ hc
  exact ⟨b, e, fun wr hbel => ⟨(hbel.cell (p := ⟨b, i * 2, none⟩) hb).trans ((World.cell?_alloc_past _ _ _ hb).trans hc), (hbel.cell (p := ⟨b, i * 2 + 1, none⟩) hb).trans ((World.cell?_alloc_past _ _ _ hb).trans hd)⟩⟩

set_option maxRecDepth 100000 in
set_option maxHeartbeats 2000000 in
theorem law5_walk (ra : Option Addr) (len cap : Nat) (S : Nat → ByteArray) (T : Nat → Bool) (w : World) (hm : len ≤ maxLen) (hS : ∀ i, i < len → (S i).size ≤ maxLen) (hn : ra = none → len = 0) (hr : Opss w ra len S T) :
    Calls Try.prog 5 #[.slice ra len cap] w fun e w' => e = .returned (.bool true) ∧ Below w.heap.size w w' := by
  have hby := bytes15_any ra len cap S T w hm hS hr
  unfold maxLen at hm
  by_cases hbig : 4096 < (len : Int)
  · go_enter Try.func5, Try.ntmps5
    go_wp2_with (go_at_call 15; refine hby.mono ?_; rintro e w' ⟨⟨b, rfl⟩, hw⟩; rw [hw]; clear hw)
    all_goals (go_ret; exact ⟨rfl, Below.refl _ _⟩)
  have hl : len ≤ 4096 := by omega
  have hbd : decide (4096 < (len : Int)) = false := by simpa using hbig
  have C10 := cloneO_any ra len cap S T w (by omega) hn hr
  have HS : Hid (∀ i, i < len → (S i).size ≤ maxLen) := hS
  have HR : Hid (Opss w ra len S T) := hr
  clear hS hr hn
  go_enter Try.func5, Try.ntmps5
  go_wp2_with (go_at_call 15; refine hby.mono ?_; rintro e w' ⟨⟨b, rfl⟩, hw⟩; rw [hw]; clear hw)
  · go_ret; exact ⟨rfl, Below.refl _ _⟩
  clear hby
  go_loop [3, 4] (fun z i => ∃ (k : Nat) (t : Int), k ≤ len ∧ i = .int .i64 k ∧ z = .int .i64 t ∧ 0 ≤ t ∧ t ≤ 1048576) (fun _ i => len - (intOf i).toNat)
  case atStart => exact ⟨0, _, Nat.zero_le _, rfl, rfl, by omega, by omega⟩
  case round =>
    obtain ⟨k, t, hk, rfl, rfl, h0, h1⟩ := hrel
    by_cases hlt : k < len
    · obtain ⟨b, o, rfl, hc, _⟩ := HR.out k hlt
      have hsz := HS.out k hlt
      unfold maxLen at hsz
      have b1 : (k : Int) < len := by omega
      clear HS HR C10
      go_wp2
      · go_ret; exact ⟨rfl, Below.refl _ _⟩
      · go_ret; exact ⟨rfl, Below.refl _ _⟩
      · go_round
        case rel => exact ⟨k + 1, _, by omega, by go_num, rfl, by omega, by omega⟩
        case measure => simp [intOf]; omega
    · clear HR h0 h1 hk
      go_wp2_with (first
        | (go_at_call 16; refine C10.mono ?_; rintro e w1 ⟨ra', cap', rfl, HC⟩; clear C10)
        | (go_at_call 11; refine (new_any w1).mono ?_; rintro e w2 ⟨rfl, hw2⟩; have I0 : Inv 0 w1.heap.size (.map none) (fun _ => 0) (cntH S T 0) (cntH S T 0) (dstH S T 0) 0 w2 := hw2 ▸ inv_new w1; have HH : Hid (HeldO w1.heap.size w2 ra' len S T) := hw2 ▸ heldO_of HC _; have HB : Hid (Below w.heap.size w w2) := hw2 ▸ HC.2.alloc HC.2.size _; have HJ : Hid (w.heap.size ≤ w1.heap.size) := HC.2.size; clear hw2 HC))
      clear hlt
      go_loopw [6] (fun i wr => ∃ (k : Nat) (nm : Value) (L : Key → Nat), k ≤ len ∧ i = .int .i64 k ∧ Inv 0 w1.heap.size nm L (cntH S T k) (cntH S T k) (dstH S T k) k wr ∧ Frm w1.heap.size w2 wr)
        (fun i _ => len - (intOf i).toNat)
      case atStart => exact ⟨0, _, _, Nat.zero_le _, rfl, I0, Frm.refl _ _⟩
      case round =>
        obtain ⟨k, nm, L, hk, rfl, I, F⟩ := hrel
        clear I0
        by_cases hlt : k < len
        · obtain ⟨b, rfl, cc⟩ := HH.out k hlt
          obtain ⟨ck, dk⟩ := cc wr F.bel
          have b1 : (k : Int) < len := by omega
          have hq1 := cntH_le (S := S) (T := T) (S k).data.toList k
          have hq2 := cnt_le S (S k).data.toList k
          have HF : Hid (Frm w1.heap.size w2 wr) := F
          cases hT : T k
          · have H17 := trip_any I (S k) (HS.out k hlt) (by omega) (Nat.le_refl _) (by unfold maxLen; omega)
            rw [← cntH_trip hT, ← dstH_trip hT] at H17
            rw [hT] at dk
            clear cc HH I F hT hq1 hq2
            go_wp2_with (go_at_call 17; refine H17.mono ?_; rintro e w3 ⟨rfl, HI, HF3⟩; clear H17)
            go_roundw
            case rel =>
              obtain ⟨nm', L', I'⟩ := HI
              exact ⟨k + 1, nm', L', by omega, by go_num, I', HF.out.trans HF3⟩
            case measure => simp [intOf]; omega
          · have H12 : Calls Try.prog 12 #[ptr w1.heap.size, .string (S k)] wr fun e w' => e = .returned (.tuple #[]) ∧ (∃ nm' L', Inv 0 w1.heap.size nm' L' (upd (cntH S T k) (key S k) (cntH S T k (key S k) + 1)) (upd (cntH S T k) (key S k) (cntH S T k (key S k) + 1)) (bump (cntH S T k (key S k)) (dstH S T k)) (k + 1) w') ∧ Frm w1.heap.size wr w' :=
              hold_any I (S k) (HS.out k hlt) (by omega) (by omega) (by unfold maxLen; omega)
            rw [← cntH_hold hT, ← dstH_hold hT] at H12
            rw [hT] at dk
            clear cc HH I F hT hq1 hq2
            go_wp2_with (go_at_call 12; refine H12.mono ?_; rintro e w3 ⟨rfl, HI, HF3⟩; clear H12)
            go_roundw
            case rel =>
              obtain ⟨nm', L', I'⟩ := HI
              exact ⟨k + 1, nm', L', by omega, by go_num, I', HF.out.trans HF3⟩
            case measure => simp [intOf]; omega
        · obtain rfl : len = k := by omega
          obtain ⟨v, hv⟩ : ∃ v, nm = .map v := by
            rcases I.map with ⟨e, _⟩ | ⟨bm, D, e, _⟩
            · exact ⟨_, e⟩
            · exact ⟨_, e⟩
          rw [hv] at I
          clear hv hlt
          have HF : Hid (Frm w1.heap.size w2 wr) := F
          have c3 := I.c3
          clear F
          go_wp2_with (go_at_call 13; refine (names_any _ v _ c3).mono ?_; rintro e w3 ⟨rfl, hw3⟩; rw [hw3]; clear hw3 c3)
          obtain ⟨w3, hw3⟩ : ∃ w3, w3 = wr := ⟨_, rfl⟩
          rw [← hw3] at I HF ⊢
          clear hw3
          have HI : Hid (Inv 0 w1.heap.size (.map v) L (cntH S T len) (cntH S T len) (dstH S T len) len w3) := I
          have HL : Hid (∀ i, i < len → ∃ b, ra' = some ⟨b, 0, none⟩ ∧ ∀ wr, Below w3.heap.size w3 wr → wr.cell? ⟨b, i * 2, none⟩ = some (.string (S i)) ∧ wr.cell? ⟨b, i * 2 + 1, none⟩ = some (.bool (T i))) := fun i hi => by
            obtain ⟨b, e, cc⟩ := HH.out i hi
            exact ⟨b, e, fun wr hb => cc wr (HF.out.bel.trans (hb.mono (by have := I.row.lt; omega)))⟩
          have HE : Hid (Below w.heap.size w w3) := HB.out.trans (HF.out.bel.mono HJ.out)
          clear HH HB HF HJ I
          go_loopw [8, 9] (fun d i wr => ∃ k : Nat, k ≤ len ∧ i = .int .i64 k ∧ d = .int .i64 (firsts S (keptB S T len) k) ∧ Below w3.heap.size w3 wr) (fun _ i _ => len - (intOf i).toNat)
          case atStart => exact ⟨0, Nat.zero_le _, rfl, rfl, Below.refl _ _⟩
          case round =>
            obtain ⟨k, hk, rfl, rfl, hb⟩ := hrel
            have hd := firsts_le (S := S) (keptB S T len) k
            by_cases hlt : k < len
            · obtain ⟨b, rfl, ck⟩ := HL.out k hlt
              have CK : Hid (∀ wr, Below w3.heap.size w3 wr → wr.cell? ⟨b, k * 2, none⟩ = some (.string (S k))) := fun wr h => (ck wr h).1
              clear ck
              have b1 : (k : Int) < len := by omega
              go_wp2
              go_loopw [10, 11, 12] (fun c f j wr => ∃ (m : Nat) (fb : Bool), m ≤ len ∧ j = .int .i64 m ∧ c = .int .i64 (cntH S T m (key S k)) ∧ f = .bool fb ∧ Hid (fb = frst S k m) ∧ Below w3.heap.size w3 wr)
                (fun _ _ j _ => len - (intOf j).toNat)
              case atStart => exact ⟨0, true, Nat.zero_le _, rfl, rfl, rfl, (frst_zero S k).symm, hb⟩
              case round =>
                clear hb
                obtain ⟨m, fb, hm2, rfl, rfl, rfl, HF, hb⟩ := hrel
                have hcl : cntH S T m (key S k) ≤ m := Nat.le_trans (cntH_le _ _) (cnt_le S (key S k) m)
                by_cases hlm : m < len
                · obtain ⟨cm, dm⟩ : wr.cell? ⟨b, m * 2, none⟩ = some (.string (S m)) ∧ wr.cell? ⟨b, m * 2 + 1, none⟩ = some (.bool (T m)) := by
                    obtain ⟨b', e, cc⟩ := HL.out m hlm
                    cases e
                    exact cc wr hb
                  have ck := CK.out wr hb
                  have b2 : (m : Int) < len := by omega
                  have HB : Hid (Below w3.heap.size w3 wr) := hb
                  clear hb
                  by_cases hq : key S m = key S k
                  · have ht : ((S m).toList == (S k).toList) = true := key_eq.2 hq
                    have HQ : Hid (key S m = key S k) := hq
                    cases hT : T m
                    · have HC : Hid (cntH S T (m + 1) (key S k) = cntH S T m (key S k)) := by rw [cntH_trip hT]; exact rfl
                      rw [hT] at dm
                      clear hq hT
                      by_cases hmk : m < k
                      · have b3 : (m : Int) < k := by omega
                        go_wp2
                        go_region
                        all_goals
                          go_wp2
                          go_roundw
                          case rel => exact ⟨m + 1, false, by omega, by go_num, by rw [HC.out], rfl, (frst_hit HQ.out hmk).symm, HB.out.drew⟩
                          case measure => simp [intOf]; omega
                      · have b3 : ¬ (m : Int) < k := by omega
                        go_wp2
                        go_region
                        all_goals
                          go_wp2
                          go_roundw
                          case rel => exact ⟨m + 1, fb, by omega, by go_num, by rw [HC.out], rfl, HF.out.trans (frst_past hmk).symm, HB.out.drew⟩
                          case measure => simp [intOf]; omega
                    · have HC : Hid (cntH S T (m + 1) (key S k) = cntH S T m (key S k) + 1) := cntH_hit hT hq
                      rw [hT] at dm
                      clear hq hT
                      by_cases hmk : m < k
                      · have b3 : (m : Int) < k := by omega
                        go_wp2
                        go_region
                        all_goals
                          go_wp2
                          go_roundw
                          case rel => exact ⟨m + 1, false, by omega, by go_num, by rw [HC.out]; go_num, rfl, (frst_hit HQ.out hmk).symm, HB.out.drew⟩
                          case measure => simp [intOf]; omega
                      · have b3 : ¬ (m : Int) < k := by omega
                        go_wp2
                        go_region
                        all_goals
                          go_wp2
                          go_roundw
                          case rel => exact ⟨m + 1, fb, by omega, by go_num, by rw [HC.out]; go_num, rfl, HF.out.trans (frst_past hmk).symm, HB.out.drew⟩
                          case measure => simp [intOf]; omega
                  · have ht : ((S m).toList == (S k).toList) = false := by
                      rw [Bool.eq_false_iff]; exact fun h => hq (key_eq.1 h)
                    have HC : Hid (cntH S T (m + 1) (key S k) = cntH S T m (key S k)) := cntH_miss hq
                    have HQ : Hid (key S m ≠ key S k) := hq
                    clear hq
                    go_wp2
                    go_region
                    all_goals
                      go_wp2
                      go_roundw
                      case rel => exact ⟨m + 1, fb, by omega, by go_num, by rw [HC.out], rfl, HF.out.trans (frst_miss HQ.out).symm, HB.out.drew⟩
                      case measure => simp [intOf]; omega
                · obtain rfl : len = m := by omega
                  have ck := CK.out wr hb
                  have IW := HI.out.below hb
                  have HB : Hid (Below w3.heap.size w3 wr) := hb
                  have HFe : Hid (fb = (cnt S k (key S k) == 0)) := HF.out.trans (frst_end hk)
                  by_cases hps : 0 < cntH S T len (key S k)
                  · obtain ⟨bm, hbm⟩ := IW.is_map hps
                    have hv : v = some bm := by simpa using hbm
                    subst hv
                    have hlo : (Instr.lookup 40 (.map (some bm)) (.string (S k)) false).run Try.prog wr = .ok (ptr (L (key S k))) wr := IW.look (HS.out k hlt) hps
                    have c6 := IW.c6 hps
                    have hne : ((cntH S T len (key S k) : Int) == 0) = false := by simp; omega
                    have HP : Hid (keptB S T len (key S k) = true) := by show keptB _ _ _ _ = true; unfold keptB; simpa using hps
                    clear hb IW hbm HL HI HS HE CK hlm HF
                    cases fb
                    · have HD : Hid (firsts S (keptB S T len) (k + 1) = firsts S (keptB S T len) k) := firsts_no (fun h => by have := HFe.out; rw [h.1] at this; cases this)
                      clear HFe HP
                      go_wp2_with (go_at_call 14; refine (users_any _ _ _ c6).mono ?_; rintro e w5 ⟨rfl, hw5⟩; rw [hw5]; clear hw5)
                      go_roundw
                      case rel => exact ⟨k + 1, by omega, by go_num, by rw [HD.out], HB.out⟩
                      case measure => simp [intOf]; omega
                    · have HD : Hid (firsts S (keptB S T len) (k + 1) = firsts S (keptB S T len) k + 1) := firsts_yes (beq_iff_eq.1 HFe.out.symm) HP.out
                      clear HFe HP
                      go_wp2_with (go_at_call 14; refine (users_any _ _ _ c6).mono ?_; rintro e w5 ⟨rfl, hw5⟩; rw [hw5]; clear hw5)
                      go_roundw
                      case rel => exact ⟨k + 1, by omega, by go_num, by rw [HD.out]; go_num, HB.out⟩
                      case measure => simp [intOf]; omega
                  · have hlo := IW.look_none (HS.out k hlt) (by show cntH S T len (key S k) = 0; omega)
                    have hne : ((cntH S T len (key S k) : Int) == 0) = true := by simp; omega
                    have HD : Hid (firsts S (keptB S T len) (k + 1) = firsts S (keptB S T len) k) := firsts_no (fun h => by have := h.2; unfold keptB at this; simp at this; omega)
                    clear hb IW HL HI HS HE CK hlm HF HFe
                    go_wp2
                    go_roundw
                    case rel => exact ⟨k + 1, by omega, by go_num, by rw [HD.out], HB.out⟩
                    case measure => simp [intOf]; omega
            · obtain rfl : len = k := by omega
              have IW := HI.out.below hb
              have HB : Hid (Below w3.heap.size w3 wr) := hb
              have HD : Hid (firsts S (keptB S T len) len = dstH S T len) := firsts_dst len
              clear hb HL HI HS
              go_wp2_with (refine wpList_len_inv IW rfl (.tmp 131) rfl rfl ?_)
              go_ret
              exact ⟨ret_bool (by rw [HD.out]; simp), HE.out.trans (HB.out.mono HE.out.size)⟩
end Go.Proofs.Qxb6605973a.Rlk
