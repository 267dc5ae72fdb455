/-
  THE WALK OF zzCloneBytes.
-/
import Derived.Test.Qxb6001130aSmall
namespace Go.Proofs.Qxb6001130a
open Go.RowKit
open Plain

theorem info5 : (Try.prog.info? 5).map (fun i => (i.zero, i.size, i.bytes)) = some (some (.int .u8 0), 1, 1) := by kernel_rfl

/-- What the copying loop keeps: the first k bytes are copied. -/
def CL (w : World) (n : Nat) (l : List Int) (k : Nat) (wr : World) : Prop :=
  ∃ xs, wr.ownsRow w.heap.size 5 1 (.slice (some ⟨w.heap.size, 0, none⟩) n n) n xs ∧ Below w.heap.size w wr ∧ ∀ j, j < k → xs[j]? = some (.int .u8 (gt l j))

theorem CL.row {w : World} {n : Nat} {l : List Int} {wr : World} (h : CL w n l n wr) (hl : l.length = n) (hn : n ≤ 65536) : Row wr w.heap.size n l ∧ Below w.heap.size w wr ∧ w.heap.size < wr.heap.size := by
  obtain ⟨xs, ho, hb, hx⟩ := h
  refine ⟨⟨hl, hn, fun i hi => ?_⟩, hb, ?_⟩
  · rw [ho.cellAt i (by omega)]; exact hx i hi
  · rcases ho.2 with ⟨h', _⟩ | ⟨g', cap', cur, h', _, hg, _⟩
    · simp at h'
    · simp only [Value.slice.injEq, Option.some.injEq, Addr.mk.injEq, and_true, true_and] at h'
      obtain ⟨rfl, rfl⟩ := h'
      exact (Array.getElem?_eq_some_iff.1 hg).1

theorem CL.step {w : World} {n : Nat} {l : List Int} {k : Nat} {wr : World} (h : CL w n l k wr) (hk : k < n) :
    (∃ v, wr.cell? ⟨w.heap.size, k, none⟩ = some v) ∧ wr.frozen? ⟨w.heap.size, k, none⟩ = false ∧ CL w n l (k + 1) (wr.setCell ⟨w.heap.size, k, none⟩ (.int .u8 (gt l k))) := by
  obtain ⟨xs, ho, hb, hx⟩ := h
  have hlen : xs.length = n := by have := ho.1; omega
  refine ⟨?_, ho.frozenAt k, ?_⟩
  · rw [ho.cellAt k (by omega)]
    exact ⟨xs[k], List.getElem?_eq_getElem (by omega)⟩
  · have hs := ho.stored k (.int .u8 (gt l k))
    refine ⟨_, hs.1, hb.grown hs.2 hb.size (by intro x hx; cases hx; exact Nat.le_refl _), ?_⟩
    intro j hj
    by_cases hjk : j = k
    · subst hjk
      rw [List.getElem?_set_self (by omega)]
    · rw [List.getElem?_set_ne (by omega)]
      exact hx j (by omega)

theorem clone_nil (w : World) : Calls Try.prog 8 #[.slice none 0 0] w fun e w' => e = .returned (.slice none 0 0) ∧ w = w' := by
  have hne := fun (wx : World) => Lib.run_eql_slice_nil (P := Try.prog) wx 22 5 none 0 0 0 0 Try.underlying22
  go_enter Try.func8, Try.ntmps8
  go_wp2
  go_ret
  exact ⟨rfl, rfl⟩

set_option maxHeartbeats 1000000 in
theorem clone_zero (x : Addr) (cap : Nat) (l : List Int) (w : World) (hl : l.length = 0) :
    Calls Try.prog 8 #[.slice (some x) 0 cap] w fun e w' => e = .returned (.slice (some ⟨w.heap.size, 0, none⟩) 0 0) ∧ Row w' w.heap.size 0 l ∧ Below w.heap.size w w' ∧ w.heap.size < w'.heap.size := by
  have hne := fun (wx : World) => Lib.run_eql_slice_nil (P := Try.prog) wx 22 5 (some x) 0 cap 0 0 Try.underlying22
  obtain ⟨i0, hi, hz0, hz1, hz2⟩ := info_parts info5
  have hb2 : i0.bytes * 0 ≤ 281474976710656 := by omega
  have hb3 : 0 ≤ maxLen := Nat.zero_le _
  go_enter Try.func8, Try.ntmps8
  go_wp2_with (at_make; refine wpList_make_full _ rfl (.tmp 8) (.tmp 8) 22 rfl w.heap.size 5 i0 (.int .u8 0) 1 Try.underlying22 hi hz0 hz1 .i64 .i64 _ _ 0 rfl rfl rfl rfl hb2 hb3 (Nat.le_refl _) ?_; intro w1 hown1 hg1)
  have HC : Hid (CL w 0 l 0 w1) := ⟨_, hown1, (Below.refl _ _).grown hg1 (Nat.le_refl _) (by simp), fun j hj => by omega⟩
  clear hown1 hg1
  refine wp_loop_rounds 1 ?_
  rw [rounds_succ]
  go_wp2
  go_ret
  exact ⟨rfl, HC.out.row hl (by omega)⟩

set_option maxHeartbeats 1000000 in
theorem clone (b off n cap : Nat) (l : List Int) (w : World) (hl : l.length = n) (hn : n ≤ 65536) (hc : ∀ i, i < n → w.cell? ⟨b, off + i, none⟩ = some (.int .u8 (gt l i))) (hbw : b < w.heap.size) :
    Calls Try.prog 8 #[.slice (some ⟨b, off, none⟩) n cap] w fun e w' => e = .returned (.slice (some ⟨w.heap.size, 0, none⟩) n n) ∧ Row w' w.heap.size n l ∧ Below w.heap.size w w' ∧ w.heap.size < w'.heap.size := by
  have hne := fun (wx : World) => Lib.run_eql_slice_nil (P := Try.prog) wx 22 5 (some ⟨b, off, none⟩) n cap 0 0 Try.underlying22
  obtain ⟨i0, hi, hz0, hz1, hz2⟩ := info_parts info5
  have hb2 : i0.bytes * n ≤ 281474976710656 := by rw [hz2]; omega
  have hb3 : n ≤ maxLen := by unfold maxLen; omega
  have HCc : Hid (∀ i, i < n → w.cell? ⟨b, off + i, none⟩ = some (.int .u8 (gt l i))) := hc
  have HLn : Hid (l.length = n) := hl
  clear hc hl hz2
  go_enter Try.func8, Try.ntmps8
  go_wp2_with (at_make; refine wpList_make_full _ rfl (.tmp 8) (.tmp 8) 22 rfl w.heap.size 5 i0 (.int .u8 0) 1 Try.underlying22 hi hz0 hz1 .i64 .i64 _ _ n rfl rfl rfl rfl hb2 hb3 (Nat.le_refl _) ?_; intro w1 hown1 hg1)
  have HC : Hid (CL w n l 0 w1) := ⟨_, hown1, (Below.refl _ _).grown hg1 (Nat.le_refl _) (by simp), fun j hj => by omega⟩
  clear hown1 hg1 hi hz0 hz1 hb2 hb3
  go_loopw [4] (fun t wr => ∃ k : Nat, t = .int .i64 k ∧ k ≤ n ∧ Hid (CL w n l k wr)) (fun t _ => n - (intOf t).toNat)
  case atStart => exact ⟨0, rfl, Nat.zero_le _, HC⟩
  case round =>
    obtain ⟨k, rfl, hkn, HK⟩ := hrel
    clear HC
    by_cases hlt : k < n
    · obtain ⟨⟨v, hv⟩, hfz, hst⟩ := HK.out.step hlt
      have hsrc : wr.cell? ⟨b, off + k, none⟩ = some (.int .u8 (gt l k)) := by
        obtain ⟨_, _, hb, _⟩ := HK.out
        exact (hb.cell (p := ⟨b, off + k, none⟩) hbw).trans (HCc.out k hlt)
      obtain ⟨d, HD⟩ : ∃ d, Hid (gt l k = d) := ⟨_, rfl⟩
      rw [HD.out] at hsrc hst
      have HST : Hid (CL w n l (k + 1) (wr.setCell ⟨w.heap.size, k, none⟩ (.int .u8 d))) := hst
      clear hst HK
      go_wp2
      go_roundw
      case rel => exact ⟨k + 1, by go_num, by omega, HST⟩
      case measure => simp [intOf]; omega
    · obtain rfl : k = n := by omega
      go_wp2
      go_ret
      exact ⟨rfl, HK.out.row HLn.out hn⟩

end Go.Proofs.Qxb6001130a
