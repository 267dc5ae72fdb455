/-
  THE WALKS: bytes.IndexByte, longNameLen, ZZlongNameLen, the bound's function.
-/
import Derived.Test.Qxb6000586aRows
import Derived.Test.Qxb6000586aPlain
import Derived.WalkKit
import Derived.WalkLawsBesides
import Derived.Shelf.Bytes.SlIndexAt
namespace Go.Proofs.Qxb6000586a
open Go.RowKit
open Plain

theorem ib (a : Addr) (n c : Nat) (xs : List Int) (cv : Int) (w : World) (hx : xs.length = n) (hc : ∀ i, i < n → w.cell? (a.add i) = some (.int .u8 (xs.getD i 0))) :
    Calls Try.prog 26 #[.slice (some a) n c, .int .u8 cv] w fun e w' => e = .returned (.int .i64 (Lib.indexByte (Lib.bytesOf xs) cv.toNat.toUInt8)) ∧ w = w' := by
  go_enter Try.func26, Try.ntmps26
  go_wp2
  rw [run_callFunc_extern Try.func29 (by kernel_rfl) (by kernel_rfl) (by kernel_rfl) (e := Extern.BytealgIndexByte.indexByte) (by kernel_rfl), Lib.run_indexByteAt w a n c xs hx hc cv]
  simp only [Result.andThen]
  rw [Oper.upon_value]
  go_wp2
  go_ret
  exact ⟨rfl, rfl⟩

/-- bytes.IndexByte at a slice that holds the number. -/
theorem ib_hit (b o n c : Nat) (xs : List Int) (cv : Int) (q : Nat) (w : World) (hx : xs.length = n) (hc : ∀ i, i < n → w.cell? ⟨b, o + i, none⟩ = some (.int .u8 (xs.getD i 0)))
    (hcv : 0 ≤ cv ∧ cv ≤ 255) (hu : U8 xs) (hq : twc cv xs = q) (hlt : q < n) :
    Calls Try.prog 26 #[.slice (some ⟨b, o, none⟩) n c, .int .u8 cv] w fun e w' => e = .returned (.int .i64 q) ∧ w = w' := by
  refine (ib ⟨b, o, none⟩ n c xs cv w hx (fun i hi => by have := hc i hi; unfold Addr.add; split <;> simp_all)).mono ?_
  rintro e w' ⟨rfl, rfl⟩
  rw [indexByte_eq cv hcv xs hu, if_pos (by omega), hq]
  exact ⟨rfl, rfl⟩

theorem ib_miss (b o n c : Nat) (xs : List Int) (cv : Int) (w : World) (hx : xs.length = n) (hc : ∀ i, i < n → w.cell? ⟨b, o + i, none⟩ = some (.int .u8 (xs.getD i 0)))
    (hcv : 0 ≤ cv ∧ cv ≤ 255) (hu : U8 xs) (hge : n ≤ twc cv xs) :
    Calls Try.prog 26 #[.slice (some ⟨b, o, none⟩) n c, .int .u8 cv] w fun e w' => e = .returned (.int .i64 (-1)) ∧ w = w' := by
  refine (ib ⟨b, o, none⟩ n c xs cv w hx (fun i hi => by have := hc i hi; unfold Addr.add; split <;> simp_all)).mono ?_
  rintro e w' ⟨rfl, rfl⟩
  rw [indexByte_eq cv hcv xs hu, if_neg (by omega)]
  exact ⟨rfl, rfl⟩

theorem bound_yes (a : Option Addr) (n c : Nat) (k : Int) (w : World) (h : (n : Int) ≤ 1048576) :
    Calls Try.prog 17 #[.slice a n c, .int .i64 k] w fun e w' => e = .returned (.bool true) ∧ w = w' := by
  go_enter Try.func17, Try.ntmps17
  go_wp2
  go_ret
  exact ⟨rfl, rfl⟩

theorem bound_no (a : Option Addr) (n c : Nat) (k : Int) (w : World) (_hn : n ≤ maxLen) (h : (1048576 : Int) < n) :
    Calls Try.prog 17 #[.slice a n c, .int .i64 k] w fun e w' => e = .returned (.bool false) ∧ w = w' := by
  unfold maxLen at _hn
  go_enter Try.func17, Try.ntmps17
  go_wp2
  go_ret
  exact ⟨rfl, rfl⟩

theorem ret_int {k : IntKind} {a b : Int} (h : a = b) : Ending.returned (.int k a) = .returned (.int k b) := by rw [h]

set_option maxHeartbeats 400000 in
theorem long_any (b off len cap : Nat) (zs : List Int) (w : World) (hlc : len ≤ cap) (hlen : len ≤ 1048576) (hz : zs.length = len) (hu : U8 zs)
    (hc : ∀ i, i < len → w.cell? ⟨b, off + i, none⟩ = some (.int .u8 (zs.getD i 0))) :
    Calls Try.prog 24 #[.slice (some ⟨b, off, none⟩) len cap] w fun e w' => e = .returned (.int .i64 (lnl zs)) ∧ w = w' := by
  have HZ : Hid (zs.length = len) := hz
  go_enter Try.func24, Try.ntmps24
  go_wp2
  go_loop [3] (fun t => ∃ s : Nat, t = .int .i64 s ∧ 8 ≤ s ∧ s ≤ len + 264 ∧ lnl (zs.take s) = (zs.take s).length) (fun t => len - (intOf t).toNat)
  case atStart => exact ⟨8, rfl, by omega, by omega, by unfold lnl tw; simp⟩
  case round =>
    obtain ⟨s, rfl, h8, hs, hl⟩ := hrel
    by_cases hlt : s < len
    · obtain ⟨m, hm0⟩ : ∃ m, m = (if s + 256 ≤ len then 256 else len - s) := ⟨_, rfl⟩
      have hm : m = 256 ∧ s + 256 ≤ len ∨ s + m = len ∧ len < s + 256 := by split at hm0 <;> omega
      clear hm0
      obtain ⟨v, HV⟩ : ∃ v, Hid (v = (zs.drop s).take m) := ⟨_, rfl⟩
      have hv : v.length = m := by rw [HV.out]; simp; omega
      have hvu : U8 v := by rw [HV.out]; exact (hu.drop s).take m
      have hvc : ∀ i, i < m → w.cell? ⟨b, off + s + i, none⟩ = some (.int .u8 (v.getD i 0)) := by
        intro i hi
        have h1 := hc (s + i) (by omega)
        rw [← Nat.add_assoc] at h1
        rw [h1, HV.out]
        simp [hi]
      obtain ⟨q, HQ⟩ : ∃ q, Hid (twc 34 v = q) := ⟨_, rfl⟩
      have hqm : q ≤ m := by rw [← HQ.out, ← hv]; exact twc_le _ _
      have em : (min ((s : Int) + 256) (len : Int)).toNat - s = m := by omega
      have hlv := round_yes zs v s m h8 (by omega) hl (by omega) HV.out
      have hlw := round_no zs v s m h8 (by omega) hl (by omega) HV.out
      have htw := tw_both v
      rw [HQ.out] at htw
      have HE : Hid (tw v = twc 92 (v.take q)) := htw
      clear htw hl
      have HL : Hid (tw v < m → lnl zs = s + tw v) := hlv
      have HN : Hid (tw v = m → lnl (zs.take (s + m)) = (zs.take (s + m)).length) := hlw
      clear hlv hlw hz hu hc
      by_cases hq : q < m
      · have htl : (v.take q).length = q := by simp; omega
        obtain ⟨r, HR⟩ : ∃ r, Hid (twc 92 (v.take q) = r) := ⟨_, rfl⟩
        have hrq : r ≤ q := by rw [← HR.out]; have := twc_le 92 (v.take q); omega
        have htc : ∀ i, i < q → w.cell? ⟨b, off + s + i, none⟩ = some (.int .u8 ((v.take q).getD i 0)) := by
          intro i hi
          rw [hvc i (by omega)]
          simp [hi]
        have hfin : lnl zs = s + r := by
          have h1 := HE.out
          rw [HR.out] at h1
          rw [HL.out (by omega), h1]
        have HF : Hid (lnl zs = s + r) := hfin
        clear hfin
        by_cases hr : r < q
        · go_wp2_with fail
          refine (ib_hit b (off + s) m (cap - s) v 34 q w hv hvc (by omega) hvu HQ.out hq).mono ?_
          rintro e w' ⟨rfl, rfl⟩
          go_wp2_with fail
          refine (ib_hit b (off + s) q (cap - s) (v.take q) 92 r w htl htc (by omega) (hvu.take q) HR.out hr).mono ?_
          rintro e w' ⟨rfl, rfl⟩
          go_wp2
          go_ret
          exact ⟨ret_int (by rw [HF.out]; omega), rfl⟩
        · go_wp2_with fail
          refine (ib_hit b (off + s) m (cap - s) v 34 q w hv hvc (by omega) hvu HQ.out hq).mono ?_
          rintro e w' ⟨rfl, rfl⟩
          go_wp2_with fail
          refine (ib_miss b (off + s) q (cap - s) (v.take q) 92 w htl htc (by omega) (hvu.take q) (by rw [HR.out]; omega)).mono ?_
          rintro e w' ⟨rfl, rfl⟩
          go_wp2
          go_ret
          exact ⟨ret_int (by rw [HF.out]; omega), rfl⟩
      · have hqe : q = m := by omega
        subst hqe
        have htk : v.take q = v := List.take_of_length_le (by omega)
        rw [htk] at HE
        clear htk
        obtain ⟨r, HR⟩ : ∃ r, Hid (twc 92 v = r) := ⟨_, rfl⟩
        have hrq : r ≤ q := by rw [← HR.out]; have := twc_le 92 v; omega
        have HT : Hid (tw v = r) := by have h1 := HE.out; rw [HR.out] at h1; exact h1
        by_cases hr : r < q
        · go_wp2_with fail
          refine (ib_miss b (off + s) q (cap - s) v 34 w hv hvc (by omega) hvu (by rw [HQ.out]; omega)).mono ?_
          rintro e w' ⟨rfl, rfl⟩
          go_wp2_with fail
          refine (ib_hit b (off + s) q (cap - s) v 92 r w hv hvc (by omega) hvu HR.out hr).mono ?_
          rintro e w' ⟨rfl, rfl⟩
          go_wp2
          go_ret
          exact ⟨ret_int (by rw [HL.out (by rw [HT.out]; exact hr), HT.out]; omega), rfl⟩
        · go_wp2_with fail
          refine (ib_miss b (off + s) q (cap - s) v 34 w hv hvc (by omega) hvu (by rw [HQ.out]; omega)).mono ?_
          rintro e w' ⟨rfl, rfl⟩
          go_wp2_with fail
          refine (ib_miss b (off + s) q (cap - s) v 92 w hv hvc (by omega) hvu (by rw [HR.out]; omega)).mono ?_
          rintro e w' ⟨rfl, rfl⟩
          go_wp2
          go_round
          case rel => exact ⟨s + 256, by go_num, by omega, by omega, round_next zs s q len HZ.out hm (HN.out (by rw [HT.out]; omega))⟩
          case measure => simp [intOf]; omega
    · have hfin : lnl zs = len := by rw [List.take_of_length_le (by omega)] at hl; omega
      have HF : Hid (lnl zs = len) := hfin
      clear hfin hl
      go_wp2
      go_ret
      exact ⟨ret_int (by rw [HF.out]), rfl⟩

end Go.Proofs.Qxb6000586a
