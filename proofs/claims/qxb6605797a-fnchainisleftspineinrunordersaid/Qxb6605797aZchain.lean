import Derived.Test.Qxb6605797aChain
namespace Go.Proofs.Qxb6605797a.Chn
open Go.RowKit
set_option linter.unusedVariables false

theorem info25 : (Try.prog.info? 25).map (fun i => (i.zero, i.size, i.bytes)) = some (some (.pointer none), 1, 8) := by kernel_rfl
theorem ta_ptr (a : Addr) (w : World) : (Instr.typeAssert (.iface 25 (.pointer (some a))) 38 25 true).run Try.prog w = .ok (.tuple #[.pointer (some a), .bool true]) w := by kernel_rfl

theorem out_step {wr : World} {g n k : Nat} {B : Nat → Nat} (h : wr.rowIs g 25 n (fun j => if j < k then ptr (B j) else .pointer none)) :
    (wr.setCell ⟨g, k, none⟩ (ptr (B k))).rowIs g 25 n (fun j => if j < k + 1 then ptr (B j) else .pointer none) := by
  refine (h.set k _).congr fun i hi => ?_
  by_cases e : i = k
  · subst e; rw [if_pos rfl, if_pos (by omega)]
  · rw [if_neg e]
    by_cases h1 : i < k
    · rw [if_pos h1, if_pos (by omega)]
    · rw [if_neg h1, if_neg (by omega)]

set_option maxHeartbeats 400000 in
theorem zchain_any (B : Nat → Nat) (m L : Nat) (w : World) (hsp : Spine w B m L) (hm : m ≤ 70000) :
    Calls Try.prog 7 #[ptr (B m)] w fun e w' => ∃ g, e = .returned (.slice (some ⟨g, 0, none⟩) (m + 1) (m + 1)) ∧ w.heap.size ≤ g ∧ w'.rowIs g 25 (m + 1) (fun i => ptr (B i)) ∧ Below w.heap.size w w' := by
  have C := chain_any B m L w hsp hm
  have hta := ta_ptr
  obtain ⟨n, hn⟩ : ∃ n, n = m + 1 := ⟨_, rfl⟩
  rw [← hn] at C ⊢
  have hn1 : n ≤ 70001 := by omega
  have HN : Hid (n = m + 1) := hn
  clear hn
  have hmk := run_make_row' (P := Try.prog) 24 25 (.pointer none) 8 Try.underlying24 info25 rfl .i64 .i64 n (by omega) (by omega)
  go_enter Try.func7, Try.ntmps7
  go_wp2_with (go_at_call 13; refine C.mono ?_; rintro e w1 ⟨g, cap, N, f, rfl, hg, hrow, hN, hf, hb⟩)
  go_loopw [5] (fun i wr => ∃ k : Nat, k ≤ n ∧ i = .int .i64 k ∧ wr.rowIs w1.heap.size 25 n (fun j => if j < k then ptr (B j) else .pointer none) ∧ Below w1.heap.size w1 wr)
    (fun i _ => n - (intOf i).toNat)
  case atStart => exact ⟨0, Nat.zero_le _, rfl, (World.rowIs_made w1 (.pointer none) n 25).congr (fun i _ => by rw [if_neg (by omega)]), (Below.refl _ _).alloc (Nat.le_refl _) _⟩
  case round =>
    obtain ⟨k, hk, rfl, hout, hb1⟩ := hrel
    by_cases hlt : k < n
    · have ck : wr.cell? ⟨g, k, none⟩ = some (ico (B k)) := by
        rw [hb1.cell (p := ⟨g, k, none⟩) hrow.lt, hrow.cell (by omega), hf k (by have := HN.out; omega)]
      have co := hout.cell hlt
      rw [if_neg (by omega)] at co
      have fo := hout.frozen k
      have HO : Hid _ := out_step hout
      have HB : Hid _ := hb1.setCell (p := ⟨w1.heap.size, k, none⟩) (Nat.le_refl _) (ptr (B k))
      have b1 : (k : Int) < n := by omega
      clear hout hb1 C hf hsp
      go_wp2
      go_roundw
      case rel => exact ⟨k + 1, by omega, by go_num, HO.out, HB.out⟩
      case measure => simp [intOf]; omega
    · obtain rfl : k = n := by omega
      clear C hf hsp
      go_wp2
      go_ret
      exact ⟨w1.heap.size, rfl, hb.size, hout.congr (fun i hi => by rw [if_pos hi]), hb.trans (hb1.mono hb.size)⟩
end Go.Proofs.Qxb6605797a.Chn
