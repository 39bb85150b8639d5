import Derived.Test.Qxb6605797aRev
import Derived.Deep.LoopGhost
import Derived.Stop.Asserts
namespace Go.Proofs.Qxb6605797a.Chn
open Go.RowKit
set_option linter.unusedVariables false

/-- B 0 .. B n: Concats, each the left operand of the next; the innermost's left operand is the literal at L -/
structure Spine (w : World) (B : Nat → Nat) (n L : Nat) : Prop where
  x0 : w.cell? ⟨B 0, 0, none⟩ = some (ilit L)
  xs : ∀ i, i < n → w.cell? ⟨B (i + 1), 0, none⟩ = some (ico (B i))
  ys : ∀ i, i ≤ n → ∃ y, w.cell? ⟨B i, 1, none⟩ = some y

theorem Spine.lt {w : World} {B : Nat → Nat} {n L : Nat} (h : Spine w B n L) {i : Nat} (hi : i ≤ n) : B i < w.heap.size := by
  obtain ⟨y, hy⟩ := h.ys i hi
  exact World.block_lt_of_cell? w _ hy
theorem Spine.below {w w' : World} {B : Nat → Nat} {n L : Nat} (h : Spine w B n L) {K : Nat} (hK : w.heap.size ≤ K) (hb : Below K w w') : Spine w' B n L :=
  ⟨(hb.cell (Nat.lt_of_lt_of_le (h.lt (Nat.zero_le _)) hK)).trans h.x0, fun i hi => (hb.cell (Nat.lt_of_lt_of_le (h.lt hi) hK)).trans (h.xs i hi),
    fun i hi => by obtain ⟨y, hy⟩ := h.ys i hi; exact ⟨y, (hb.cell (p := ⟨B i, 1, none⟩) (Nat.lt_of_lt_of_le (h.lt hi) hK)).trans hy⟩⟩
theorem Spine.upto {w : World} {B : Nat → Nat} {n L m : Nat} (h : Spine w B n L) (hm : m ≤ n) : Spine w B m L :=
  ⟨h.x0, fun i hi => h.xs i (by omega), fun i hi => h.ys i (by omega)⟩

theorem method_ops (a : Addr) (w : World) : (method 174 25 (.pointer (some a)) "Operands").run Try.prog w = .ok (32, .pointer (some a)) w := by kernel_rfl
theorem ta_lit (v : Value) (w : World) : (Instr.typeAssert (.iface 42 v) 46 38 true).run Try.prog w = .ok (.tuple #[.nilIface, .bool false]) w :=
  run_typeAssert_lacksB Try.underlying38 (by kernel_rfl) (by kernel_rfl) v 46 w
theorem ta_con (v : Value) (w : World) : (Instr.typeAssert (.iface 25 v) 46 38 true).run Try.prog w = .ok (.tuple #[.iface 25 v, .bool true]) w :=
  run_typeAssert_hasB Try.underlying38 (by kernel_rfl) v 46 w
theorem row_of_own {w : World} {base g n cap : Nat} {e : TypeId} {xs : List Value} (h : w.ownsRow base e 1 (.slice (some ⟨g, 0, none⟩) n cap) n xs) :
    ∃ f, w.rowIs g e cap f ∧ n ≤ cap ∧ (∀ i, i < n → xs[i]? = some (f i)) ∧ base ≤ g := by
  rcases h.2 with ⟨h1, _⟩ | ⟨g', cap', cur, hv, hb, hh, hn, _, hs, ht⟩
  · cases h1
  · simp only [Value.slice.injEq, Option.some.injEq, Addr.mk.injEq, and_true, true_and] at hv
    obtain ⟨rfl, rfl⟩ := hv
    refine ⟨fun i => cur.getD i undef, ⟨cur, hh, by simpa using hs, fun i hi => ?_⟩, hn, fun i hi => ?_, hb⟩
    · have : i < cur.size := by omega
      simp [this]
    · have hi' : i < cur.size := by omega
      rw [← ht, List.getElem?_take, if_pos (by omega)]
      simp [hi']
theorem own_shape {w : World} {base n : Nat} {e : TypeId} {v : Value} {xs : List Value} (h : w.ownsRow base e 1 v (n + 1) xs) : ∃ g cap, v = .slice (some ⟨g, 0, none⟩) (n + 1) cap := by
  rcases h.2 with ⟨_, h1⟩ | ⟨g', cap', cur, hv, _⟩
  · omega
  · exact ⟨g', cap', hv⟩
/-- the chain as it was gathered, turned round -/
theorem chain_end {w wr w' : World} {B : Nat → Nat} {m n g cap : Nat} (hn : n = m + 1) (hbel : Below w.heap.size w wr) {f : Nat → Value} (hg : w.heap.size ≤ g) (hcap : n ≤ cap)
    (hrow : w'.rowIs g 38 cap (fun i => if i < n then ico (B (m - (n - 1 - i))) else f i)) (hgr : wr.grownBy w' (some g)) :
    ∃ g' cap' N f, Ending.returned (.slice (some ⟨g, 0, none⟩) n cap) = .returned (.slice (some ⟨g', 0, none⟩) (m + 1) cap') ∧ w.heap.size ≤ g' ∧ w'.rowIs g' 38 N f ∧ m + 1 ≤ N ∧ (∀ i, i ≤ m → f i = ico (B i)) ∧ Below w.heap.size w w' := by
  subst hn
  refine ⟨g, cap, cap, _, rfl, hg, hrow, hcap, fun i hi => ?_, hbel.grown hgr hbel.size (fun k e => by cases e; exact hg)⟩
  rw [if_pos (by omega)]
  congr; omega
theorem chain_next {B : Nat → Nat} {m n r : Nat} (h : n + (r + 1) = m + 1) : (List.range n).map (fun j => ico (B (m - j))) ++ [ico (B r)] = (List.range (n + 1)).map (fun j => ico (B (m - j))) := by
  rw [List.range_succ, List.map_append]
  have e : m - n = r := by omega
  simp [e]

theorem info38 : (Try.prog.info? 38).map (fun i => (i.zero, i.size, i.bytes)) = some (some .nilIface, 1, 16) := by kernel_rfl

set_option maxHeartbeats 400000 in
theorem chain_any (B : Nat → Nat) (m L : Nat) (w : World) (hsp : Spine w B m L) (hm : m ≤ 70000) :
    Calls Try.prog 13 #[ico (B m)] w fun e w' => ∃ g cap N f, e = .returned (.slice (some ⟨g, 0, none⟩) (m + 1) cap) ∧ w.heap.size ≤ g ∧ w'.rowIs g 38 N f ∧ m + 1 ≤ N ∧ (∀ i, i ≤ m → f i = ico (B i)) ∧ Below w.heap.size w w' := by
  obtain ⟨i0, hi, hz0, hz1, hz2⟩ := info_parts info38
  go_enter Try.func13, Try.ntmps13
  go_wp2
  go_loopg [3] m (fun r v wr => ∃ n g cap : Nat, 1 ≤ n ∧ n + r = m + 1 ∧ v = .slice (some ⟨g, 0, none⟩) n cap ∧
      wr.ownsRow w.heap.size 38 1 (.slice (some ⟨g, 0, none⟩) n cap) n ((List.range n).map (fun j => ico (B (m - j)))) ∧ Below w.heap.size w wr)
  case atStart =>
    refine ⟨1, w.heap.size, 1, Nat.le_refl _, by omega, rfl, ?_, (Below.refl _ _).alloc (Nat.le_refl _) _⟩
    exact World.ownsRow_lit w #[ico (B m)] 1 (Nat.le_refl _) (by decide) rfl
  case round =>
    obtain ⟨n, g, cap, hn1, hnr, rfl, hown, hbel⟩ := hrel
    have cl : wr.cell? ⟨g, n - 1, none⟩ = some (ico (B gk)) := by
      rw [hown.cellAt (n - 1) (by omega)]
      have e : m - (n - 1) = gk := by omega
      rw [List.getElem?_map, List.getElem?_range (by omega)]
      simp only [Option.map_some, e]
    have b1 : ((n : Int) - 1) < n := by omega
    have hme := method_ops
    have hta := ta_lit
    have htc := ta_con
    by_cases hr : gk = 0
    · subst hr
      have hx := (hsp.below (Nat.le_refl _) hbel).x0
      obtain ⟨y, hy⟩ := (hsp.below (Nat.le_refl _) hbel).ys 0 (by omega)
      obtain ⟨f, hrow, hcap, hf, hbg⟩ := row_of_own hown
      have hF : ∀ i, i < n → f i = ico (B (m - i)) := fun i hi => by
        have h1 := hf i hi
        rw [List.getElem?_map, List.getElem?_range hi] at h1
        simpa using h1.symm
      have R := rev_any g n cap cap (fun i => B (m - i)) f wr.drew hrow.drew hF hn1 hcap (by omega)
      clear hf hF hown hrow
      go_wp2_with (first
        | (go_at_call 32; refine (operands_any _ _ _ _ hx hy).mono ?_; rintro e w' ⟨rfl, rfl⟩)
        | (go_at_call 15; refine R.mono ?_; rintro e w' ⟨rfl, hrow', hgr', hsz'⟩))
      go_ret
      exact chain_end (by omega) hbel.drew hbg hcap hrow' hgr'
    · obtain ⟨r, rfl⟩ : ∃ r, gk = r + 1 := ⟨gk - 1, by omega⟩
      have hx := (hsp.below (Nat.le_refl _) hbel).xs r (by omega)
      obtain ⟨y, hy⟩ := (hsp.below (Nat.le_refl _) hbel).ys (r + 1) (by omega)
      go_wp2_with (first
        | (go_at_call 32; refine (operands_any _ _ _ _ hx hy).mono ?_; rintro e w' ⟨rfl, rfl⟩)
        | (at_builtin; refine wpList_append_own _ rfl _ _ 34 rfl w.heap.size 38 i0 .nilIface 1 16 Try.underlying34 hi hz0 hz1 hz2 rfl (by decide) _ _ _ rfl (hown.alloc _) ⟨wr.heap.size, 0, none⟩ 1 1 [ico (B r)] rfl rfl ?c1 ?c2 ?c3 ?c4 ?c5 ?_))
      case c1 =>
        intro j u hj
        match j, hj with
        | 0, hj => simp at hj; subst hj; simp [Addr.add]
      case c2 => intro u hu; simp at hu; subst hu; rfl
      case c3 => unfold maxLen; omega
      case c4 => omega
      case c5 => have := hbel.size; simp; omega
      · intro v' w1 hown' hgrow _
        obtain ⟨g', cap', hv⟩ := own_shape hown'
        rw [hv] at hown' ⊢
        obtain ⟨_, _, _, _, hbg⟩ := row_of_own hown
        have hB : Below w.heap.size w w1 := (((hbel.alloc hbel.size _).drew).grown hgrow (by have := hbel.size; simp; omega) (fun k e => by cases e; exact hbg))
        rw [chain_next hnr] at hown'
        clear hown hgrow hbel hx hy
        go_wp2
        go_roundg r
        case measure => omega
        case rel => exact ⟨n + 1, g', cap', by omega, by omega, rfl, hown', hB⟩
end Go.Proofs.Qxb6605797a.Chn
