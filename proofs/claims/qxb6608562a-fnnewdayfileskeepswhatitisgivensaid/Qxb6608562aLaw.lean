import Derived.Test.Qxb6608562aHolds
import Derived.LaidEqlPtr
import Derived.Maps.StringElems
namespace Go.Proofs.Qxb6608562a.Day
open Go.RowKit Go.WideMaps Go.Maps
set_option linter.unusedVariables false

theorem law9 : Keyed Try.prog 9 := string_keyed Try.underlying9
theorem zero9 (w : World) : (zeroValue 9).run Try.prog w = .ok (.string ByteArray.empty) w := by kernel_rfl
theorem info44 : (Try.prog.info? 44).map (fun i => decide (i.size = 0)) = some false := by kernel_rfl

/-- block b holds a DayFiles -/
def DfB (w : World) (b : Nat) (ft : ByteArray) (fa : Option Addr) (len cap : Nat) (s d : Int) (rc : ByteArray) (m : Nat) : Prop := w.heap[b]? = some (dfO ft fa len cap s d rc m)
section
variable {w : World} {b : Nat} {ft : ByteArray} {fa : Option Addr} {len cap : Nat} {s d : Int} {rc : ByteArray} {m : Nat}
theorem DfB.lt (h : DfB w b ft fa len cap s d rc m) : b < w.heap.size := (Array.getElem?_eq_some_iff.1 h).1
theorem DfB.df (h : DfB w b ft fa len cap s d rc m) : Df w b ft fa len cap s d rc m := by
  have e : w.heap[b]? = some (dfO ft fa len cap s d rc m) := h
  constructor <;> simp [World.cell?, e]
theorem DfB.below {w' : World} (h : DfB w b ft fa len cap s d rc m) (hb : Below w.heap.size w w') : DfB w' b ft fa len cap s d rc m := (hb.block b h.lt).trans h
theorem DfB.grown {w' : World} {q : Nat} (h : DfB w b ft fa len cap s d rc m) (hg : w.grownBy w' (some q)) (hne : b ≠ q) : DfB w' b ft fa len cap s d rc m := (hg.block b h.lt (by simpa using hne)).trans h
theorem ownsMap_below {w' : World} {N : Nat} {D : DataW Unit} (h : w.ownsMap Try.prog 9 (plainElem Try.prog 9) m N D) (hb : Below w.heap.size w w') : w'.ownsMap Try.prog 9 (plainElem Try.prog 9) m N D := by
  have hlt := h.lt
  obtain ⟨es, clock, hb', r'⟩ := h
  exact ⟨es, clock, (hb.block m hlt).trans hb', r'⟩

/-- a new DayFiles, its map empty -/
theorem made_any (ft rc : ByteArray) (fa : Option Addr) (len cap : Nat) (s d : Int) (w : World) :
    Calls Try.prog 7 #[.string ft, .slice fa len cap, dayA s d, .string rc] w fun e w' => ∃ b m, e = .returned (ptr b) ∧ DfB w' b ft fa len cap s d rc m ∧ w'.ownsMap Try.prog 9 (plainElem Try.prog 9) m 0 (.map [] : DataW Unit) ∧ w.heap.size ≤ b ∧ w.heap.size ≤ m ∧ m ≠ b ∧ Below w.heap.size w w' := by
  refine (new_any ft rc fa len cap s d w).mono ?_
  rintro e w' ⟨rfl, rfl⟩
  refine ⟨w.heap.size + 2, w.heap.size + 1, rfl, ?_, ?_, by omega, by omega, by omega, ((((Below.refl _ _).alloc (Nat.le_refl _) _).alloc (by simp) _).alloc (by simp; omega) _)⟩
  · have := heap_alloc_new ((w.alloc (dayO s d)).alloc (.map #[] 0)) (dfO ft fa len cap s d rc (w.heap.size + 1))
    simpa [DfB] using this
  · have := (World.ownsMap_made (H := Unit) (w.alloc (dayO s d)) Try.prog 9 (plainElem Try.prog 9)).alloc (dfO ft fa len cap s d rc (w.heap.size + 1))
    simpa using this
theorem eql_other {b' : Nat} {fa' : Option Addr} {len' cap' : Nat} {s' d' : Int} {ft' rc' : ByteArray} {m' : Nat} (h : DfB w b ft fa len cap s d rc m) (h' : DfB w b' ft' fa' len' cap' s' d' rc' m') (hne : b ≠ b') :
    (binOp .eql 27 (ptr b) (ptr b')).run Try.prog w = .ok (.bool false) w := by
  obtain ⟨j, hj, hz⟩ := Option.map_eq_some_iff.1 info44
  exact run_eql_ptr_other w Try.underlying27 hj (by simpa using hz) (fun e => hne (congrArg Addr.block e)) h h'
end

/-- the entered sender is found -/
theorem look_back {w : World} {m N : Nat} {a4 a5 : ByteArray} (h4 : a4.size ≤ maxLen) (h : w.ownsMap Try.prog 9 (plainElem Try.prog 9) m N ((.map [] : DataW Unit).put (.string a4.data.toList) (.lit (.string a5.data.toList)))) :
    (Instr.lookup 35 (.map (some m)) (.string a4) true).run Try.prog w = .ok (.tuple #[.string a5, .bool true]) w := by
  obtain ⟨v, ps, hrun, hv⟩ := h.look_ok law9 Try.underlying35 (zero9 w) (plainElem_string Try.underlying9 (show ByteArray.empty.size ≤ maxLen by decide)) (keyOf_string_mk Try.underlying9 h4)
  rw [Maps.atKey_put_same (k := .string a4.data.toList) Maps.isMap_empty trivial] at hv
  rw [Maps.has_put_same (k := .string a4.data.toList) Maps.isMap_empty trivial] at hrun
  obtain ⟨sv, rfl, e, _⟩ := plainElem_string_inv Try.underlying9 hv
  simp only [Prod.mk.injEq, DataW.lit.injEq, Lit.string.injEq] at e
  have e2 : a5 = sv := by
    cases a5; cases sv
    congr
    exact Array.toList_inj.1 e.1
  rw [e2]
  exact hrun
theorem size_one (a4 : ByteArray) (d : DataW Unit) : Maps.size ((.map [] : DataW Unit).put (.string a4.data.toList) d) = 1 := by
  rw [Maps.size_put Maps.tidy_empty]
  rfl

theorem Dict.below {w w' : World} {ra : Option Addr} {len : Nat} {S : Nat → ByteArray} {T Wd Dc : Nat → Int} (h : Dict w ra len S T Wd Dc) (hb : Below w.heap.size w w') : Dict w' ra len S T Wd Dc := by
  intro i hi
  obtain ⟨b, o, e, c0, c1, c2, c3⟩ := h i hi
  have hbz := World.block_lt_of_cell? w _ c0
  exact ⟨b, o, e, (hb.cell (p := ⟨b, o + i * 4, none⟩) hbz).trans c0, (hb.cell (p := ⟨b, o + i * 4 + 1, none⟩) hbz).trans c1, (hb.cell (p := ⟨b, o + i * 4 + 2, none⟩) hbz).trans c2, (hb.cell (p := ⟨b, o + i * 4 + 3, none⟩) hbz).trans c3⟩

set_option maxHeartbeats 2000000 in
theorem law_walk (a0 a3 a4 a5 : ByteArray) (ra : Option Addr) (len cap : Nat) (S : Nat → ByteArray) (T Wd Dc : Nat → Int) (n : Int) (w : World) (w0 : a0.size ≤ maxLen) (w3 : a3.size ≤ maxLen) (w4 : a4.size ≤ maxLen) (w5 : a5.size ≤ maxLen)
    (hm : len ≤ maxLen) (hS : ∀ i, i < len → (S i).size ≤ maxLen) (hr : Dict w ra len S T Wd Dc) (h1 : -9223372036854775808 ≤ n) (h2 : n ≤ 9223372036854775807) :
    Calls Try.prog 3 #[.string a0, .slice ra len cap, .int .i64 n, .string a3, .string a4, .string a5] w fun e w' => e = .returned (.bool true) ∧ Below w.heap.size w w' := by
  have A4 := bytes_any (cap := cap) a0 a3 a4 a5 n w0 w3 w4 w5 hm hS hr
  by_cases hbig : 16384 < (len : Int)
  · have A5 := big_yes (ra := ra) (cap := cap) (w := w) hm hbig
    unfold maxLen at w0 w3 w4 w5 hm
    go_enter Try.func3, Try.ntmps3
    go_wp2_with (first
      | (go_at_call 4; refine A4.mono ?_; rintro e w' ⟨⟨b, rfl⟩, hw⟩; rw [hw]; clear hw)
      | (go_at_call 5; refine A5.mono ?_; rintro e w' ⟨rfl, hw⟩; rw [hw]; clear hw))
    all_goals (go_ret; exact ⟨rfl, Below.refl _ _⟩)
  have hl : len ≤ 16384 := by omega
  have A5 := big_any (cap := cap) hl hS hr
  have A6 := fields_any (cap := cap) hl hr
  have HR : Hid (Dict w ra len S T Wd Dc) := hr
  have W4 : Hid (a4.size ≤ maxLen) := w4
  have W5 : Hid (a5.size ≤ maxLen) := w5
  have HN : Hid (-9223372036854775808 ≤ n ∧ n ≤ 9223372036854775807) := ⟨h1, h2⟩
  unfold maxLen at w0 w3 w4 w5 hm
  clear hr hS h1 h2
  go_enter Try.func3, Try.ntmps3
  go_wp2_with (first
    | (go_at_call 4; refine A4.mono ?_; rintro e w' ⟨⟨b, rfl⟩, hw⟩; rw [hw]; clear hw)
    | (go_at_call 5; refine A5.mono ?_; rintro e w' ⟨⟨b5, rfl⟩, hw⟩; rw [hw]; clear hw)
    | (go_at_call 6; refine A6.mono ?_; rintro e w1 ⟨rfl, hrow, hb1⟩))
  all_goals try (go_ret; exact ⟨rfl, Below.refl _ _⟩)
  clear A4 A5 A6
  refine (dayAt_any n w1 HN.out.1 HN.out.2).mono ?_
  rintro e w2 ⟨rfl, hb2⟩
  go_wp2_with fail
  refine (made_any a0 a3 (some ⟨w.heap.size, 0, none⟩) len len (nsN n) (dsN n) w2).mono ?_
  rintro e w3 ⟨b1, m1, rfl, D1, O1, hB1, hM1, hne1, hb3⟩
  go_wp2_with fail
  refine (dayAt_any n w3 HN.out.1 HN.out.2).mono ?_
  rintro e w4 ⟨rfl, hb4⟩
  go_wp2_with fail
  refine (made_any a0 a3 (some ⟨w.heap.size, 0, none⟩) len len (nsN n) (dsN n) w4).mono ?_
  rintro e w5 ⟨b2, m2, rfl, D2, O2, hB2, hM2, hne2, hb5⟩
  have hb35 : Below w3.heap.size w3 w5 := hb4.trans (hb5.mono hb4.size)
  have D1' := D1.below hb35
  have O1' := ownsMap_below O1 hb35
  have hlt1 := D1.lt
  have hlm1 := O1.lt
  have hs4 := hb4.size
  have hs3 := hb3.size
  have hs2 := hb2.size
  have hs1 := hb1.size
  have heq := eql_other D1' D2 (by omega)
  have H05 : Hid (Below w.heap.size w w5) := hb1.trans ((hb2.mono hs1).trans ((hb3.mono (by omega)).trans (hb35.mono (by omega))))
  have H15 : Below w1.heap.size w1 w5 := hb2.trans ((hb3.mono (by omega)).trans (hb35.mono (by omega)))
  have R5 := hrow.of_block (H15.block _ hrow.lt)
  have I1 : Hid (b1 ≠ m1 ∧ b2 ≠ m1 ∧ m2 ≠ m1 ∧ w.heap.size ≤ m1) := ⟨by omega, by omega, by omega, by omega⟩
  have A9 := holds_any (cap := cap) D1'.df hl (HR.out.below H05.out) R5 O1' rfl HN.out.1 HN.out.2
  clear D1 O1 hb1 hb2 hb3 hb4 hb5 hb35 H15 hrow hB1 hM1 hB2 hM2 hne1 hne2 hlt1 hlm1 hs1 hs2 hs3 hs4
  go_wp2_with fail
  refine A9.mono ?_
  rintro e w6 ⟨rfl, hb6⟩
  clear A9 heq
  go_wp2_with fail
  have D2' := D2.below hb6
  have O2' := ownsMap_below O2 hb6
  have H06 : Hid (Below w.heap.size w w6) := H05.out.trans (hb6.mono H05.out.size)
  have A9 := holds_any (cap := cap) D2'.df hl (HR.out.below H06.out) (R5.of_block (hb6.block _ R5.lt)) O2' rfl HN.out.1 HN.out.2
  refine A9.mono ?_
  rintro e w7 ⟨rfl, hb7⟩
  have D17 := (D1'.below hb6).below hb7
  have O17 := (ownsMap_below (ownsMap_below O1' hb6) hb7)
  have D27 := D2'.below hb7
  have O27 := ownsMap_below O2' hb7
  have H07 : Hid (Below w.heap.size w w7) := H06.out.trans (hb7.mono H06.out.size)
  clear A9 D1' O1' D2 O2 D2' O2' hb6 hb7 R5 H05 H06 HR
  have A10 := senders_any D17.df
  have hkey := keyOf_string_mk Try.underlying9 W4.out
  go_wp2_with fail
  refine A10.mono ?_
  rintro e w' ⟨rfl, hw⟩
  rw [hw]
  clear hw A10
  go_wp2_with (first
    | (at_mapUpdate; refine wpList_mapUpdate_own _ rfl _ _ _ 35 rfl 9 9 law9 Try.underlying35 _ m1 0 (.map []) rfl O17 (by decide) _ _ _ rfl rfl hkey _ [] (plainElem_string Try.underlying9 W5.out) ?_; intro w8 O18 hg8))
  have D18 := D17.grown hg8 I1.out.1
  have D28 := D27.grown hg8 I1.out.2.1
  have O28 := O27.kept hg8 (by simpa using I1.out.2.2.1)
  have hlo := look_back W4.out O18
  have hlen1 : ∀ ty, (Builtin.len_ #[35] ty #[.map (some m1)]).run Try.prog w8 = .ok (.int .i64 1) w8 := fun ty => by
    have := O18.len Try.underlying35 ty
    rwa [size_one] at this
  have hlen2 : ∀ ty, (Builtin.len_ #[35] ty #[.map (some m2)]).run Try.prog w8 = .ok (.int .i64 0) w8 := fun ty => O28.len Try.underlying35 ty
  have H08 : Hid (Below w.heap.size w w8) := H07.out.grown hg8 H07.out.size (fun k e => by cases e; exact I1.out.2.2.2)
  have B10 := senders_any D28.df
  have C10 := senders_any D18.df
  clear D17 D27 O17 O27 O18 O28 D18 D28 hg8 H07 hkey I1
  refine B10.mono ?_
  rintro e w' ⟨rfl, hw⟩
  rw [hw]
  clear hw B10
  go_wp2_with (go_at_call 10; refine C10.mono ?_; rintro e w' ⟨rfl, hw⟩; rw [hw]; clear hw C10)
  go_ret
  exact ⟨rfl, H08.out⟩
end Go.Proofs.Qxb6608562a.Day
