import Derived.Test.Qxb6605797aPos
namespace Go.Proofs.Qxb6605797a.Chn
open Go.RowKit
set_option linter.unusedVariables false

/-- the last right operand that is a Concat, or nil -/
def RightIs (G : Nat) (wr : World) (line col : Int) (lr : Value) : Prop :=
  lr = .pointer none ∨ ∃ R Lr, lr = ptr R ∧ G < R ∧ G < Lr ∧ wr.cell? ⟨R, 0, none⟩ = some (ilit Lr) ∧ (∃ y, wr.cell? ⟨R, 1, none⟩ = some y) ∧
    wr.cell? ⟨Lr, 0, none⟩ = some (.int .i64 (wrap64 (line + 2))) ∧ wr.cell? ⟨Lr, 1, none⟩ = some (.int .i64 (wrap64 (col + 2)))
/-- the nodes, innermost first -/
def nodesL (B : Nat → Nat) (n : Nat) : List Value := (List.range n).map (fun j => ptr (B j))
/-- the spine behind k rounds -/
structure St (w : World) (line col : Int) (len k : Nat) (B : Nat → Nat) (lr : Value) (wr : World) : Prop where
  sp : Spine wr B k (w.heap.size + 1)
  l0 : wr.cell? ⟨w.heap.size + 1, 0, none⟩ = some (.int .i64 line)
  l1 : wr.cell? ⟨w.heap.size + 1, 1, none⟩ = some (.int .i64 col)
  hi : ∀ i, i ≤ k → w.heap.size < B i
  own : wr.ownsRow w.heap.size 25 1 (.slice (some ⟨w.heap.size, 0, none⟩) (k + 1) (len + 1)) (k + 1) (nodesL B (k + 1))
  rt : RightIs w.heap.size wr line col lr
  bel : Below w.heap.size w wr

def longer (B : Nat → Nat) (k nb i : Nat) : Nat := if i ≤ k then B i else nb
theorem longer_old {B : Nat → Nat} {k nb i : Nat} (h : i ≤ k) : longer B k nb i = B i := if_pos h
theorem longer_new (B : Nat → Nat) (k nb : Nat) : longer B k nb (k + 1) = nb := if_neg (by omega)
theorem longer_list (B : Nat → Nat) (k nb : Nat) : nodesL B (k + 1) ++ [ptr nb] = nodesL (longer B k nb) (k + 1 + 1) := by
  unfold nodesL
  rw [List.range_succ (n := k + 1), List.map_append]
  congr 1
  · apply List.map_congr_left
    intro j hj
    rw [longer_old (by have := List.mem_range.1 hj; omega)]
  · simp [longer_new]

/-- what lay there and is not the row of nodes reads as before -/
structure Keeps (G : Nat) (wr w1 : World) : Prop where
  blk : ∀ q, q < wr.heap.size → q ≠ G → w1.heap[q]? = wr.heap[q]?
theorem Keeps.cell {G : Nat} {wr w1 : World} (h : Keeps G wr w1) {q o : Nat} {v : Value} (hq : G < q) (hc : wr.cell? ⟨q, o, none⟩ = some v) : w1.cell? ⟨q, o, none⟩ = some v :=
  (World.cell?_of_block (a := ⟨q, o, none⟩) (h.blk q (World.block_lt_of_cell? wr _ hc) (by omega))).trans hc
theorem Keeps.right {G : Nat} {wr w1 : World} {line col : Int} {lr : Value} (h : Keeps G wr w1) (hr : RightIs G wr line col lr) : RightIs G w1 line col lr := by
  rcases hr with h0 | ⟨R, Lr, e, hR, hL, c0, ⟨y, c1⟩, d0, d1⟩
  · exact .inl h0
  · exact .inr ⟨R, Lr, e, hR, hL, h.cell hR c0, ⟨y, h.cell hR c1⟩, h.cell hL d0, h.cell hL d1⟩

theorem St.grow {w : World} {line col : Int} {len k nb : Nat} {B : Nat → Nat} {lr lr' : Value} {wr w1 : World} {y : Value} (h : St w line col len k B lr wr) (hk : Keeps w.heap.size wr w1)
    (hnb : w.heap.size < nb) (c0 : w1.cell? ⟨nb, 0, none⟩ = some (ico (B k))) (c1 : w1.cell? ⟨nb, 1, none⟩ = some y)
    (hown : w1.ownsRow w.heap.size 25 1 (.slice (some ⟨w.heap.size, 0, none⟩) (k + 1 + 1) (len + 1)) (k + 1 + 1) (nodesL B (k + 1) ++ [ptr nb]))
    (hrt : RightIs w.heap.size w1 line col lr') (hb : Below w.heap.size w w1) : St w line col len (k + 1) (longer B k nb) lr' w1 := by
  refine ⟨⟨?_, ?_, ?_⟩, hk.cell (by omega) h.l0, hk.cell (by omega) h.l1, ?_, ?_, hrt, hb⟩
  · rw [longer_old (Nat.zero_le _)]; exact hk.cell (h.hi 0 (Nat.zero_le _)) h.sp.x0
  · intro i hi
    by_cases e : i < k
    · rw [longer_old (by omega), longer_old (by omega)]; exact hk.cell (h.hi (i + 1) (by omega)) (h.sp.xs i e)
    · obtain rfl : i = k := by omega
      rw [longer_new, longer_old (Nat.le_refl _)]; exact c0
  · intro i hi
    by_cases e : i ≤ k
    · rw [longer_old e]
      obtain ⟨y, hy⟩ := h.sp.ys i e
      exact ⟨y, hk.cell (h.hi i e) hy⟩
    · obtain rfl : i = k + 1 := by omega
      rw [longer_new]; exact ⟨_, c1⟩
  · intro i hi
    by_cases e : i ≤ k
    · rw [longer_old e]; exact h.hi i e
    · obtain rfl : i = k + 1 := by omega
      rw [longer_new]; exact hnb
  · rw [← longer_list]; exact hown

theorem St.lt {w : World} {line col : Int} {len k : Nat} {B : Nat → Nat} {lr : Value} {wr : World} (h : St w line col len k B lr wr) : w.heap.size < wr.heap.size := by
  obtain ⟨f, hf, _⟩ := row_of_own h.own
  exact hf.lt

/-- a right operand that is a Concat -/
theorem st_con {w : World} {line col : Int} {len k : Nat} {B : Nat → Nat} {lr : Value} {wr w1 : World} {o : Obj} (h : St w line col len k B lr wr)
    (hg : (((((wr.alloc (litO (wrap64 (line + 2)) (wrap64 (col + 2)))).alloc (litO (wrap64 (line + 3)) (wrap64 (col + 3)))).alloc (conO (ilit wr.heap.size) (ilit (wr.heap.size + 1)))).alloc (conO (ico (B k)) (ico (wr.heap.size + 2)))).alloc o).grownBy w1 (some w.heap.size))
    (hown : w1.ownsRow w.heap.size 25 1 (.slice (some ⟨w.heap.size, 0, none⟩) (k + 1 + 1) (len + 1)) (k + 1 + 1) (nodesL B (k + 1) ++ [ptr (wr.heap.size + 3)])) :
    St w line col len (k + 1) (longer B k (wr.heap.size + 3)) (ptr (wr.heap.size + 2)) w1 := by
  have hlt : w.heap.size < wr.heap.size := h.lt
  have hbl : Below wr.heap.size wr (((((wr.alloc (litO (wrap64 (line + 2)) (wrap64 (col + 2)))).alloc (litO (wrap64 (line + 3)) (wrap64 (col + 3)))).alloc (conO (ilit wr.heap.size) (ilit (wr.heap.size + 1)))).alloc (conO (ico (B k)) (ico (wr.heap.size + 2)))).alloc o) :=
    (((((Below.refl _ _).alloc (Nat.le_refl _) _).alloc (by simp) _).alloc (by simp; omega) _).alloc (by simp; omega) _).alloc (by simp; omega) _
  have K : Keeps w.heap.size wr w1 := ⟨fun q hq hne => (hg.block q (by have := hbl.size; omega) (by simpa using hne)).trans (hbl.block q hq)⟩
  have cl : ∀ (q j : Nat) (v : Value), w.heap.size < q → (((((wr.alloc (litO (wrap64 (line + 2)) (wrap64 (col + 2)))).alloc (litO (wrap64 (line + 3)) (wrap64 (col + 3)))).alloc (conO (ilit wr.heap.size) (ilit (wr.heap.size + 1)))).alloc (conO (ico (B k)) (ico (wr.heap.size + 2)))).alloc o).cell? ⟨q, j, none⟩ = some v → w1.cell? ⟨q, j, none⟩ = some v :=
    fun q j v hq hc => (World.cell?_of_block (a := ⟨q, j, none⟩) (hg.block q (World.block_lt_of_cell? _ _ hc) (by simp; omega))).trans hc
  refine h.grow (y := ico (wr.heap.size + 2)) K (by omega) (cl _ 0 _ (by omega) ?_) (cl _ 1 _ (by omega) ?_) hown (.inr ⟨wr.heap.size + 2, wr.heap.size, rfl, by omega, hlt, cl _ 0 _ (by omega) ?_, ⟨ilit (wr.heap.size + 1), cl _ 1 _ (by omega) ?_⟩, cl _ 0 _ (by omega) ?_, cl _ 1 _ (by omega) ?_⟩) ?_
  · simp [go_sem]
  · simp [go_sem]
  · simp [go_sem]
  · simp [go_sem]
  · simp [go_sem]
  · simp [go_sem]
  · exact (h.bel.trans (hbl.mono (by omega))).grown hg (by have := hbl.size; omega) (fun k e => by cases e; exact Nat.le_refl _)

/-- a right operand that is a literal -/
theorem st_lit {w : World} {line col rl rc : Int} {len k : Nat} {B : Nat → Nat} {lr : Value} {wr w1 : World} {o : Obj} (h : St w line col len k B lr wr)
    (hg : (((wr.alloc (litO rl rc)).alloc (conO (ico (B k)) (ilit wr.heap.size))).alloc o).grownBy w1 (some w.heap.size))
    (hown : w1.ownsRow w.heap.size 25 1 (.slice (some ⟨w.heap.size, 0, none⟩) (k + 1 + 1) (len + 1)) (k + 1 + 1) (nodesL B (k + 1) ++ [ptr (wr.heap.size + 1)])) :
    St w line col len (k + 1) (longer B k (wr.heap.size + 1)) lr w1 := by
  have hlt : w.heap.size < wr.heap.size := h.lt
  have hbl : Below wr.heap.size wr (((wr.alloc (litO rl rc)).alloc (conO (ico (B k)) (ilit wr.heap.size))).alloc o) :=
    (((Below.refl _ _).alloc (Nat.le_refl _) _).alloc (by simp) _).alloc (by simp; omega) _
  have K : Keeps w.heap.size wr w1 := ⟨fun q hq hne => (hg.block q (by have := hbl.size; omega) (by simpa using hne)).trans (hbl.block q hq)⟩
  have cl : ∀ (q j : Nat) (v : Value), w.heap.size < q → (((wr.alloc (litO rl rc)).alloc (conO (ico (B k)) (ilit wr.heap.size))).alloc o).cell? ⟨q, j, none⟩ = some v → w1.cell? ⟨q, j, none⟩ = some v :=
    fun q j v hq hc => (World.cell?_of_block (a := ⟨q, j, none⟩) (hg.block q (World.block_lt_of_cell? _ _ hc) (by simp; omega))).trans hc
  refine h.grow (y := ilit wr.heap.size) K (by omega) (cl _ 0 _ (by omega) ?_) (cl _ 1 _ (by omega) ?_) hown (K.right h.rt) ?_
  · simp [go_sem]
  · simp [go_sem]
  · exact (h.bel.trans (hbl.mono (by omega))).grown hg (by have := hbl.size; omega) (fun k e => by cases e; exact Nat.le_refl _)

/-- the innermost operator -/
theorem st_start {w w0 w1 : World} {line col rl rc : Int} {len : Nat} {o : Obj} (h0 : w.grownBy w0 none) (hs : w0.heap.size = w.heap.size + 1)
    (hg : ((((w0.alloc (litO line col)).alloc (litO rl rc)).alloc (conO (ilit (w.heap.size + 1)) (ilit (w.heap.size + 2)))).alloc o).grownBy w1 (some w.heap.size))
    (hown : w1.ownsRow w.heap.size 25 1 (.slice (some ⟨w.heap.size, 0, none⟩) 1 (len + 1)) 1 [ptr (w.heap.size + 3)]) :
    St w line col len 0 (fun _ => w.heap.size + 3) (.pointer none) w1 := by
  have cl : ∀ (q j : Nat) (v : Value), w.heap.size < q → ((((w0.alloc (litO line col)).alloc (litO rl rc)).alloc (conO (ilit (w.heap.size + 1)) (ilit (w.heap.size + 2)))).alloc o).cell? ⟨q, j, none⟩ = some v → w1.cell? ⟨q, j, none⟩ = some v :=
    fun q j v hq hc => (World.cell?_of_block (a := ⟨q, j, none⟩) (hg.block q (World.block_lt_of_cell? _ _ hc) (by simp; omega))).trans hc
  refine ⟨⟨cl _ 0 _ (by omega) ?_, fun i hi => absurd hi (by omega), fun i _ => ⟨ilit (w.heap.size + 2), cl _ 1 _ (by omega) ?_⟩⟩, cl _ 0 _ (by omega) ?_, cl _ 1 _ (by omega) ?_, fun i _ => by omega, by simpa [nodesL] using hown, .inl rfl, ?_⟩
  · simp [go_sem, hs]
  · simp [go_sem, hs]
  · simp [go_sem, hs]
  · simp [go_sem, hs]
  · have b0 : Below w.heap.size w w0 := (Below.refl _ _).grown h0 (Nat.le_refl _) (fun k e => by cases e)
    have b1 := (((b0.alloc (by omega) (litO line col)).alloc (by simp; omega) (litO rl rc)).alloc (by simp; omega) (conO (ilit (w.heap.size + 1)) (ilit (w.heap.size + 2)))).alloc (by simp; omega) o
    exact b1.grown hg (by simp; omega) (fun k e => by cases e; exact Nat.le_refl _)

theorem make_nodes (len : Nat) (hl : len ≤ 65536) (w : World) : (Instr.makeSlice 24 (.int .i64 0) (.int .i64 ((len : Int) + 1))).run Try.prog w = .ok (.slice (some ⟨w.heap.size, 0, none⟩) 0 (len + 1)) (w.alloc (.cells (madeCells #[.pointer none] (len + 1)) 25)) := by
  obtain ⟨i0, hi, hz0, hz1, hz2⟩ := info_parts info25
  have hr := run_make (P := Try.prog) w 24 25 i0 (.pointer none) Try.underlying24 hi hz0 .i64 .i64 0 ((len : Int) + 1) (by omega) (by omega) (by rw [hz2]; omega) (by omega)
  have e : ((len : Int) + 1).toNat = len + 1 := by omega
  rw [e, hz1, Nat.mul_one] at hr
  exact hr

set_option maxHeartbeats 800000 in
theorem spine_any (ra : Option Addr) (len cap : Nat) (z : Nat → Bool) (line col : Int) (w : World) (hl : len ≤ 65536)
    (hr : ∀ i, i < len → ∃ b o, ra = some ⟨b, o, none⟩ ∧ w.cell? ⟨b, o + i, none⟩ = some (.bool (z i))) :
    Calls Try.prog 6 #[.slice ra len cap, .int .i64 line, .int .i64 col] w fun e w' => ∃ B lr, e = .returned (.tuple #[.slice (some ⟨w.heap.size, 0, none⟩) (len + 1) (len + 1), lr]) ∧ St w line col len len B lr w' := by
  obtain ⟨i0, hi, hz0, hz1, hz2⟩ := info_parts info25
  have hmk := make_nodes len hl
  have hown0 := fun a b c d => ((((World.ownsRow_made (base := w.heap.size) (size := 1) (e := 25) w (madeCells #[.pointer none] (len + 1)) (len + 1) (Nat.le_refl _) (by unfold maxLen; omega) (by simp [size_madeCells])).alloc a).alloc b).alloc c).alloc d
  go_enter Try.func6, Try.ntmps6
  go_wp2_with (first
    | (go_at_call 10; refine (base_any _ _ _ _ _).mono ?_; rintro e w' ⟨rfl, rfl⟩)
    | (at_builtin; refine wpList_append_fits _ rfl _ _ 24 rfl w.heap.size 25 i0 1 Try.underlying24 hi hz1 w.heap.size 0 (len + 1) [] rfl (hown0 _ _ _ _) ⟨w.heap.size + 4, 0, none⟩ 1 1 [ptr (w.heap.size + 3)] rfl rfl ?c1 ?c2 ?c3 ?_))
  case c1 =>
    intro j u hj
    match j, hj with
    | 0, hj => simp at hj; subst hj; simp [Addr.add, go_sem]
  case c2 => intro u hu; simp at hu; subst hu; rfl
  case c3 => omega
  · intro w1 hown1 hg1
    have S0 := st_start (World.grownBy_alloc w _ none) (by simp) hg1 hown1
    clear hown1 hg1 hmk hown0
    go_wp2
    go_loopw [8, 9, 10, 11] (fun nd c lr i wr => ∃ (k : Nat) (B : Nat → Nat), k ≤ len ∧ i = .int .i64 k ∧ nd = .slice (some ⟨w.heap.size, 0, none⟩) (k + 1) (len + 1) ∧ c = ptr (B k) ∧ St w line col len k B lr wr)
      (fun _ _ _ i _ => len - (intOf i).toNat)
    case atStart => exact ⟨0, _, Nat.zero_le _, rfl, rfl, rfl, S0⟩
    case round =>
      obtain ⟨k, B, hk, rfl, rfl, rfl, S⟩ := hrel
      clear S0
      by_cases hlt : k < len
      · obtain ⟨b, o, rfl, hc⟩ := hr k hlt
        have hbz : b < w.heap.size := World.block_lt_of_cell? w _ hc
        have ck : wr.cell? ⟨b, o + k, none⟩ = some (.bool (z k)) := (S.bel.cell (p := ⟨b, o + k, none⟩) hbz).trans hc
        have b1 : (k : Int) < len := by omega
        clear hc hr
        cases hzk : z k
        · rw [hzk] at ck
          clear hzk
          have ho := fun x y d => ((S.own.alloc x).alloc y).alloc d
          go_wp2_with (first
            | (go_at_call 12; refine (wrapL_any _ _ _ _).mono ?_; rintro e w' ⟨rfl, rfl⟩)
            | (at_builtin; refine wpList_append_fits _ rfl _ _ 24 rfl w.heap.size 25 i0 1 Try.underlying24 hi hz1 w.heap.size (k + 1) (len + 1) _ rfl (ho _ _ _) ⟨wr.heap.size + 2, 0, none⟩ 1 1 [ptr (wr.heap.size + 1)] rfl rfl ?d1 ?d2 ?d3 ?_))
          case d1 =>
            intro j u hj
            match j, hj with
            | 0, hj => simp at hj; subst hj; simp [Addr.add, go_sem]
          case d2 => intro u hu; simp at hu; subst hu; rfl
          case d3 => omega
          · intro w1 hown1 hg1
            have S1 := st_lit S hg1 hown1
            clear hown1 hg1 S ho ck
            go_wp2
            go_roundw
            case rel => exact ⟨k + 1, _, by omega, by go_num, rfl, by rw [longer_new], S1⟩
            case measure => simp [intOf]; omega
        · rw [hzk] at ck
          clear hzk
          have ho := fun x y d f g => ((((S.own.alloc x).alloc y).alloc d).alloc f).alloc g
          go_wp2_with (first
            | (go_at_call 10; refine (base_any _ _ _ _ _).mono ?_; rintro e w' ⟨rfl, rfl⟩)
            | (go_at_call 11; refine (wrapC_any _ _ _).mono ?_; rintro e w' ⟨rfl, rfl⟩)
            | (at_builtin; refine wpList_append_fits _ rfl _ _ 24 rfl w.heap.size 25 i0 1 Try.underlying24 hi hz1 w.heap.size (k + 1) (len + 1) _ rfl (ho _ _ _ _ _) ⟨wr.heap.size + 4, 0, none⟩ 1 1 [ptr (wr.heap.size + 3)] rfl rfl ?d1 ?d2 ?d3 ?_))
          case d1 =>
            intro j u hj
            match j, hj with
            | 0, hj => simp at hj; subst hj; simp [Addr.add, go_sem]
          case d2 => intro u hu; simp at hu; subst hu; rfl
          case d3 => omega
          · intro w1 hown1 hg1
            have S1 := st_con S hg1 hown1
            clear hown1 hg1 S ho ck
            go_wp2
            go_roundw
            case rel => exact ⟨k + 1, _, by omega, by go_num, rfl, by rw [longer_new], S1⟩
            case measure => simp [intOf]; omega
      · obtain rfl : k = len := by omega
        go_wp2
        go_ret2
        exact ⟨B, _, rfl, S⟩
end Go.Proofs.Qxb6605797a.Chn
