/-
  THE WALK OF 'FnSkipLeadingLayoutShifts'.
-/
import Derived.Test.Qxb6000828aMore
namespace Go.Proofs.Qxb6000828a
open Go.RowKit
open Plain

theorem fnB_big (q t : ByteArray) (b : Int) (w : World) (hq : q.size ≤ maxLen) (ht : t.size ≤ maxLen) (h : (1048576 : Int) < (q.size : Int) + t.size) :
    Calls Try.prog 5 #[.string q, .string t, .int .i64 b] w fun e w' => e = .returned (.bool true) ∧ Below w.heap.size w w' := by
  have H := bound15_no q t b w hq ht h
  clear hq ht h
  go_enter Try.func5, Try.ntmps5
  go_wp2_with (go_at_call 15; refine H.mono ?_; rintro e w' ⟨rfl, rfl⟩)
  go_ret
  exact ⟨rfl, Below.refl _ _⟩

theorem bts_append (q t : ByteArray) : bts (q ++ t) = bts q ++ bts t := by
  unfold bts
  simp [ByteArray.data_append]

theorem mem_bts {s : ByteArray} {c : Int} (h : c ∈ bts s) : ∃ j, j < s.size ∧ gt (bts s) j = c := by
  rw [List.mem_iff_getElem] at h
  obtain ⟨j, hj, h⟩ := h
  refine ⟨j, by rw [bts_length] at hj; exact hj, ?_⟩
  unfold gt
  simp [hj, h]

set_option maxHeartbeats 1000000 in
theorem fnB_main (q t : ByteArray) (line : Int) (m : Int) (w : World) (hqt : (q.size : Int) + t.size ≤ 1048576) (hl : -9223372036854775808 ≤ line ∧ line ≤ 9223372036854775807)
    (hw : 0 < w.heap.size) (hm : w.cell? ⟨0, 0, none⟩ = some (.int .i64 m)) :
    Calls Try.prog 5 #[.string q, .string t, .int .i64 line] w fun e w' => e = .returned (.bool true) ∧ Below w.heap.size w w' := by
  have H15 := bound15_yes q t line w hqt
  have hLq := bts_length q
  obtain ⟨l, HB⟩ : ∃ l, Hid (bts q = l) := ⟨_, rfl⟩
  have HM : Hid (w.cell? ⟨0, 0, none⟩ = some (.int .i64 m)) := hm
  have HW : Hid (0 < w.heap.size) := hw
  clear hm hw
  go_enter Try.func5, Try.ntmps5
  go_wp2_with (go_at_call 15; refine H15.mono ?_; rintro e w' ⟨rfl, rfl⟩)
  clear H15
  go_loop [7] (fun a => ∃ k : Nat, a = .int .i64 k ∧ k ≤ q.size ∧ Hid (∀ j, j < k → layB (gt l j) = true)) (fun a => q.size - (intOf a).toNat)
  case atStart => exact ⟨0, rfl, Nat.zero_le _, fun j hj => by omega⟩
  case round =>
    obtain ⟨k, rfl, hk, hall⟩ := hrel
    by_cases hlt : k < q.size
    · have hgk := bts_get q k hlt
      rw [HB.out] at hgk
      obtain ⟨d, HD⟩ : ∃ d, Hid (gt l k = d) := ⟨_, rfl⟩
      rw [HD.out] at hgk
      by_cases hd : layB d = true
      · have HN : Hid (∀ j, j < k + 1 → layB (gt l j) = true) := fun j hj => by
          by_cases hjk : j = k
          · subst hjk; rw [HD.out]; exact hd
          · exact hall.out j (by omega)
        have HDy : Hid (layB d = true) := hd
        clear hd
        go_wp2_with (go_at_call 12; refine (lay_yes _ _ HDy.out).mono ?_; rintro e w' ⟨rfl, rfl⟩)
        go_round
        case rel => exact ⟨k + 1, by go_num, by omega, HN⟩
        case measure => simp [intOf]; omega
      · have HDn : Hid (layB d = false) := by show layB d = false; simpa using hd
        clear hd
        go_wp2_with (go_at_call 12; refine (lay_no _ _ HDn.out).mono ?_; rintro e w' ⟨rfl, rfl⟩)
        go_ret
        exact ⟨rfl, Below.refl _ _⟩
    · have HQ : Hid (∀ c ∈ bts q, layB c = true) := fun c hc => by
        obtain ⟨j, hj, h⟩ := mem_bts hc
        rw [HB.out] at h
        rw [← h]
        exact hall.out j (by omega)
      clear hall
      have HZ1 := zz_any t 0 (t.size + 1) line m w (by omega) (Nat.zero_le _) (by omega) hl HW.out HM.out
      have hsz : (q ++ t).size = q.size + t.size := by simp
      have HZ2 := fun (w1 : World) (hb1 : Below w.heap.size w w1) => zz_any (q ++ t) 0 (t.size + 1 + q.size) line m w1 (by omega) (Nat.zero_le _) (by omega) hl (by have := hb1.size; have := HW.out; omega) ((hb1.cell (p := ⟨0, 0, none⟩) HW.out).trans HM.out)
      have hlead := sk_lead (bts q) (bts t) HQ.out (t.size + 1)
      have hnl := nlc_lead (bts q) (bts t) (sk (bts t) (t.size + 1) 0).2
      have hge := sk_ge (bts t) (t.size + 1) 0 (Nat.zero_le _)
      rw [bts_length] at hge
      rw [hLq] at hlead hnl
      rcases hsk : sk (bts t) (t.size + 1) 0 with ⟨ok, p⟩
      rw [hsk] at HZ1 hlead hnl hge
      dsimp only at HZ1 hlead hnl hge
      have HNL : ∀ wx, Calls Try.prog 11 #[.string q, .int .i64 0, .int .i64 q.size] wx fun e w' => e = .returned (.int .i64 (nlc (bts q) 0 q.size)) ∧ wx = w' := fun wx => nl_any q 0 q.size wx (by omega) (Nat.zero_le _) (Nat.le_refl _)
      obtain ⟨c1, HC1⟩ : ∃ c, Hid (nlc (bts t) 0 p = c) := ⟨_, rfl⟩
      obtain ⟨c0, HC0⟩ : ∃ c, Hid (nlc (bts q) 0 q.size = c) := ⟨_, rfl⟩
      have HZ2' : Hid (∀ w1, Below w.heap.size w w1 → Calls Try.prog 10 #[.string (q ++ t), .int .i64 0, .int .i64 line] w1 fun e w' =>
          e = .returned (.tuple #[.string (msg ok), .int .i64 ((q.size : Int) + p), .int .i64 (wrap64 (wrap64 (line + c1) + c0))]) ∧ Below w1.heap.size w1 w') := by
        intro w1 hb1
        have h := HZ2 w1 hb1
        rw [bts_append, hlead] at h
        dsimp only at h
        rw [hnl, HC1.out, HC0.out] at h
        have e1 : ((q.size + p : Nat) : Int) = (q.size : Int) + p := by omega
        have e2 : wrap64 (line + ((c0 + c1 : Nat) : Int)) = wrap64 (wrap64 (line + c1) + c0) := by
          rw [wrap_add]; congr 1; omega
        rw [e1, e2] at h
        exact h
      rw [HC1.out] at HZ1
      rw [HC0.out] at HNL
      have HZ1' : Hid (Calls Try.prog 10 #[.string t, .int .i64 0, .int .i64 line] w fun e w' => e = .returned (.tuple #[.string (msg ok), .int .i64 p, .int .i64 (wrap64 (line + c1))]) ∧ Below w.heap.size w w') := HZ1
      have HNL' : Hid (∀ wx, Calls Try.prog 11 #[.string q, .int .i64 0, .int .i64 q.size] wx fun e w' => e = .returned (.int .i64 c0) ∧ wx = w') := HNL
      obtain ⟨_, hps⟩ := hge
      clear HZ1 HZ2 HNL hsk hlead hnl HC0 HC1 HQ HB hsz
      cases ok with
      | true =>
        have Z1 : Hid (Calls Try.prog 10 #[.string t, .int .i64 0, .int .i64 line] w fun e w' => e = .returned (.tuple #[.string { data := #[] }, .int .i64 p, .int .i64 (wrap64 (line + c1))]) ∧ Below w.heap.size w w') := HZ1'
        have Z2 : Hid (∀ w1, Below w.heap.size w w1 → Calls Try.prog 10 #[.string (q ++ t), .int .i64 0, .int .i64 line] w1 fun e w' =>
          e = .returned (.tuple #[.string { data := #[] }, .int .i64 ((q.size : Int) + p), .int .i64 (wrap64 (wrap64 (line + c1) + c0))]) ∧ Below w1.heap.size w1 w') := HZ2'
        clear HZ1' HZ2'
        go_wp2_with fail
        refine Z1.out.mono ?_
        rintro e w1 ⟨rfl, hb1⟩
        go_wp2_with fail
        refine (Z2.out w1 hb1).mono ?_
        rintro e w2 ⟨rfl, hb2⟩
        go_wp2_with (go_at_call 11; refine (HNL'.out _).mono ?_; rintro e w' ⟨rfl, rfl⟩)
        go_ret
        exact ⟨rfl, hb1.trans (hb2.mono hb1.size)⟩
      | false =>
        have Z1 : Hid (Calls Try.prog 10 #[.string t, .int .i64 0, .int .i64 line] w fun e w' => e = .returned (.tuple #[.string { data := #[110, 111, 32, 34, 42, 47, 34, 32, 99, 108, 111, 115, 101, 115, 32, 116, 104, 101, 32, 99, 111, 109, 109, 101, 110, 116, 32, 34, 47, 42, 34] }, .int .i64 p, .int .i64 (wrap64 (line + c1))]) ∧ Below w.heap.size w w') := HZ1'
        have Z2 : Hid (∀ w1, Below w.heap.size w w1 → Calls Try.prog 10 #[.string (q ++ t), .int .i64 0, .int .i64 line] w1 fun e w' =>
          e = .returned (.tuple #[.string { data := #[110, 111, 32, 34, 42, 47, 34, 32, 99, 108, 111, 115, 101, 115, 32, 116, 104, 101, 32, 99, 111, 109, 109, 101, 110, 116, 32, 34, 47, 42, 34] }, .int .i64 ((q.size : Int) + p), .int .i64 (wrap64 (wrap64 (line + c1) + c0))]) ∧ Below w1.heap.size w1 w') := HZ2'
        clear HZ1' HZ2'
        go_wp2_with fail
        refine Z1.out.mono ?_
        rintro e w1 ⟨rfl, hb1⟩
        go_wp2_with fail
        refine (Z2.out w1 hb1).mono ?_
        rintro e w2 ⟨rfl, hb2⟩
        go_wp2_with (go_at_call 11; refine (HNL'.out _).mono ?_; rintro e w' ⟨rfl, rfl⟩)
        go_ret
        exact ⟨rfl, hb1.trans (hb2.mono hb1.size)⟩

end Go.Proofs.Qxb6000828a
