import Derived.Test.Qxb6605973aStrs
namespace Go.Proofs.Qxb6605973a.Rlk
open Go.RowKit Go.WideMaps Go.Maps
set_option linter.unusedVariables false

def key (S : Nat → ByteArray) (i : Nat) : Key := (S i).data.toList
/-- how often each name stands among the first k -/
def cnt (S : Nat → ByteArray) : Nat → Key → Nat
  | 0 => fun _ => 0
  | k + 1 => upd (cnt S k) (key S k) (cnt S k (key S k) + 1)
/-- how many names stand among the first k -/
def dst (S : Nat → ByteArray) : Nat → Nat
  | 0 => 0
  | k + 1 => bump (cnt S k (key S k)) (dst S k)
theorem cnt_hit (S : Nat → ByteArray) (k : Nat) (q : Key) (h : key S k = q) : cnt S (k + 1) q = cnt S k q + 1 := by
  subst h
  exact upd_same _ _ _
theorem cnt_miss (S : Nat → ByteArray) (k : Nat) (q : Key) (h : key S k ≠ q) : cnt S (k + 1) q = cnt S k q := upd_other (Ne.symm h)
theorem cnt_le (S : Nat → ByteArray) (q : Key) : ∀ k, cnt S k q ≤ k
  | 0 => Nat.le_refl _
  | k + 1 => by
    have := cnt_le S q k
    by_cases h : key S k = q
    · rw [cnt_hit S k q h]; omega
    · rw [cnt_miss S k q h]; omega
theorem cnt_mono (S : Nat → ByteArray) (q : Key) (i : Nat) : ∀ k, i ≤ k → cnt S i q ≤ cnt S k q
  | 0, h => by obtain rfl : i = 0 := by omega
               exact Nat.le_refl _
  | k + 1, h => by
    by_cases e : i = k + 1
    · subst e; exact Nat.le_refl _
    · have := cnt_mono S q i k (by omega)
      by_cases h : key S k = q
      · rw [cnt_hit S k q h]; omega
      · rw [cnt_miss S k q h]; omega
theorem cnt_pos (S : Nat → ByteArray) {i n : Nat} (h : i < n) : 0 < cnt S n (key S i) := by
  have h1 := cnt_hit S i _ rfl
  have h2 := cnt_mono S (key S i) (i + 1) n h
  omega
theorem dst_le (S : Nat → ByteArray) : ∀ k, dst S k ≤ k
  | 0 => Nat.le_refl _
  | k + 1 => by
    have := dst_le S k
    show bump _ _ ≤ _
    unfold bump
    split <;> omega
theorem key_eq {S : Nat → ByteArray} {i j : Nat} : ((S j).toList == (S i).toList) = true ↔ key S j = key S i := by
  rw [ByteArray.toList_eq, ByteArray.toList_eq, beq_iff_eq]
  exact Iff.rfl
/-- the first one of its name so far? -/
def frst (S : Nat → ByteArray) (i j : Nat) : Bool := cnt S (min j i) (key S i) == 0
theorem frst_zero (S : Nat → ByteArray) (i : Nat) : frst S i 0 = true := by unfold frst; rw [Nat.zero_min]; rfl
theorem frst_hit {S : Nat → ByteArray} {i j : Nat} (h : key S j = key S i) (hj : j < i) : frst S i (j + 1) = false := by
  unfold frst
  rw [Nat.min_eq_left (by omega), cnt_hit S j _ h]
  simp
theorem frst_miss {S : Nat → ByteArray} {i j : Nat} (h : key S j ≠ key S i) : frst S i (j + 1) = frst S i j := by
  unfold frst
  by_cases hj : j < i
  · rw [Nat.min_eq_left (by omega), Nat.min_eq_left (by omega), cnt_miss S j _ h]
  · rw [Nat.min_eq_right (by omega), Nat.min_eq_right (by omega)]
theorem frst_past {S : Nat → ByteArray} {i j : Nat} (hj : ¬ j < i) : frst S i (j + 1) = frst S i j := by
  unfold frst
  rw [Nat.min_eq_right (by omega), Nat.min_eq_right (by omega)]
theorem frst_end {S : Nat → ByteArray} {i n : Nat} (h : i ≤ n) : frst S i n = (cnt S i (key S i) == 0) := by
  unfold frst
  rw [Nat.min_eq_right h]
theorem dst_first {S : Nat → ByteArray} {i n : Nat} (h : i ≤ n) (hf : frst S i n = true) : dst S (i + 1) = dst S i + 1 := by
  rw [frst_end h, beq_iff_eq] at hf
  show bump _ _ = _
  rw [hf, bump_zero]
theorem dst_again {S : Nat → ByteArray} {i n : Nat} (h : i ≤ n) (hf : frst S i n = false) : dst S (i + 1) = dst S i := by
  rw [frst_end h] at hf
  show bump _ _ = _
  exact bump_pos (by simpa using hf)

section
variable {J : Nat} {L rc us : Key → Nat} {sz N : Nat} {w : World}
theorem Inv.below {st : Int} {nm : Value} {w' : World} (h : Inv st J nm L rc us sz N w) (hb : Below w.heap.size w w') : Inv st J nm L rc us sz N w' := by
  refine ⟨h.row.of_block (hb.block _ h.row.lt), fun k hk => ⟨(h.lks k hk).1, (h.lks k hk).2.of_block (hb.block _ (h.lks k hk).2.lt)⟩, h.inj, h.zero, ?_⟩
  rcases h.map with h0 | ⟨bm, D, e, hJ, hown, r⟩
  · exact .inl h0
  · refine .inr ⟨bm, D, e, hJ, ?_, r⟩
    have hlt := hown.lt
    obtain ⟨es, clock, hb', r'⟩ := hown
    exact ⟨es, clock, (hb.block bm hlt).trans hb', r'⟩
theorem Inv.len {st : Int} {nm : Value} (h : Inv st J nm L rc us sz N w) (ty : TypeId) : (Builtin.len_ #[40] ty #[nm]).run Try.prog w = .ok (.int .i64 sz) w := by
  rcases h.map with ⟨e, _, hs⟩ | ⟨bm, D, e, hJ, hown, hs, _⟩
  · rw [e, hs]; exact Maps.len_nil Try.underlying40 ty
  · rw [e, ← hs]; exact hown.len Try.underlying40 ty
theorem wpList_len_inv {st : Int} {nm : Value} {ops : Array Oper} {rest : List Oper} {o : Oper} {a : Act} {Q : Exit → Act → World → Prop} (h : Inv st J nm L rc us sz N w) (hg : o.guard = none) (m : Operand)
    (hop : o.op = Op.call { callee := Callee.builtin Builtin.len, args := #[m], argTypes := #[40] }) (hm : a.eval m = nm) (hK : wpList Try.prog ops Q rest (a.put o.dst (.int .i64 sz)) w) : wpList Try.prog ops Q (o :: rest) a w := by
  refine wpList_plain hg fun K' hK' => ?_
  unfold Oper.wp
  simp [execOp, hop, resolve, invoke, builtin, hm, h.len o.type, Result.andThen]
  exact hK' _ _ hK
theorem inv_new (w : World) : Inv 0 w.heap.size (.map none) (fun _ => 0) (fun _ => 0) (fun _ => 0) 0 0 (w.alloc (.cells #[.pointer none, .int .i32 0, .int .u32 0, .map none, .map none] 59)) := by
  refine ⟨World.rowIs_alloc w #[.pointer none, .int .i32 0, .int .u32 0, .map none, .map none] 59 (jrF 0 (.map none)) (fun i hi => ?_), fun k hk => absurd hk (by omega), fun k k' hk => absurd hk (by omega), fun _ _ => rfl, .inl ⟨rfl, fun _ => rfl, rfl⟩⟩
  match i, hi with
  | 0, _ => rfl
  | 1, _ => rfl
  | 2, _ => rfl
  | 3, _ => rfl
  | 4, _ => rfl
end
end Go.Proofs.Qxb6605973a.Rlk
