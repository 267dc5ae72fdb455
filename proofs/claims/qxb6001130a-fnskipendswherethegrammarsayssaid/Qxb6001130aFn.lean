/-
  THE WALK OF 'FnSkipEndsWhereTheGrammarSays'.
-/
import Derived.Test.Qxb6001130aSkip
import Derived.Test.Qxb6001130aClone
namespace Go.Proofs.Qxb6001130a
open Go.RowKit
open Plain

/-- A new decoder over the bytes, at place k. -/
def newDec (w : World) (b n cp : Nat) (k : Int) : World := w.alloc (.cells #[.slice (some ⟨b, 0, none⟩) n cp, .int .i64 k] 43)

theorem newDec_dec (w : World) (b n cp k : Nat) : Dec (newDec w b n cp k) w.heap.size b n cp k (newDec w b n cp k) := by
  unfold newDec
  refine ⟨by simp, by simp, by simp, Below.refl _ _⟩

/-- ZZSkip hands on to skip. -/
theorem zzskip (B b n cp e : Nat) (w : World) (H : Calls Try.prog 27 #[.pointer (some ⟨B, 0, none⟩)] w fun e' w' => e' = .returned (.tuple #[]) ∧ Dec w B b n cp e w') :
    Calls Try.prog 14 #[.pointer (some ⟨B, 0, none⟩)] w fun e' w' => e' = .returned (.tuple #[]) ∧ Dec w B b n cp e w' := by
  go_enter Try.func14, Try.ntmps14
  go_wp2_with (go_at_call 27; refine H.mono ?_; rintro e' w' ⟨rfl, hd⟩)
  go_end0
  exact ⟨rfl, hd⟩

theorem zzpos (B b n cp e : Nat) (w0 w : World) (h : Dec w0 B b n cp e w) :
    Calls Try.prog 15 #[.pointer (some ⟨B, 0, none⟩)] w fun e' w' => e' = .returned (.int .i64 e) ∧ w = w' := by
  obtain ⟨c0, c1, f1, hb⟩ := h
  go_enter Try.func15, Try.ntmps15
  go_wp2
  go_ret
  exact ⟨rfl, rfl⟩

theorem zznew (b n cp k : Nat) (w : World) :
    Calls Try.prog 13 #[.slice (some ⟨b, 0, none⟩) n cp, .int .i64 k] w fun e' w' => e' = .returned (.pointer (some ⟨w.heap.size, 0, none⟩)) ∧ newDec w b n cp k = w' := by
  go_enter Try.func13, Try.ntmps13
  go_wp2
  go_ret
  exact ⟨rfl, rfl⟩

/-- skip ends where the value ends, whatever its kind. -/
theorem skip_val (B b n cp : Nat) (l : List Int) (i st e : Nat) (kd : Int) (w : World) (hb : b < B) (hR : Row w b n l) (hD : Dec w B b n cp i w) (h1 : i ≤ st) (h3 : ∀ x, i ≤ x → x < st → wsp (gt l x))
    (hv : Val l st e kd) (hd : (kd = 4 ∨ kd = 5 ∨ kd = 6) → e < n → dlm (gt l e)) :
    Calls Try.prog 27 #[.pointer (some ⟨B, 0, none⟩)] w fun e' w' => e' = .returned (.tuple #[]) ∧ Dec w B b n cp e w' := by
  obtain ⟨v1, v2, hv⟩ := hv
  rw [hR.1] at v2
  rcases hv with ⟨_, ho, hq, _⟩ | ⟨_, hg, q, rfl, hq⟩ | ⟨hk, hs⟩
  · exact skip_brk B b n cp l i st e w hb hR hD h1 (by omega) h3 ho hq
  · exact skip_str B b n cp l i st q w hb hR hD h1 (by omega) h3 hg hq
  · exact skip_scalar B b n cp l i st e w hb hR hD h1 v1 v2 h3 hs (hd hk)

theorem fn_big (a : Option Addr) (len cap : Nat) (k : Int) (w : World) (hm : len ≤ maxLen) (h : (1048576 : Int) < len) :
    Calls Try.prog 3 #[.slice a len cap, .int .i64 k] w fun e w' => e = .returned (.bool true) ∧ Below w.heap.size w w' := by
  have H := bound_no a len cap k w hm h
  clear hm
  go_enter Try.func3, Try.ntmps3
  go_wp2_with (go_at_call 7; refine H.mono ?_; rintro e w' ⟨rfl, rfl⟩)
  go_ret
  exact ⟨rfl, Below.refl _ _⟩

theorem fn_out (a : Option Addr) (len cap : Nat) (k : Int) (w : World) (h : (len : Int) ≤ 1048576) (ho : (65536 : Int) < len ∨ (len : Int) ≤ 65536 ∧ k < 0 ∨ (len : Int) ≤ 65536 ∧ 0 ≤ k ∧ (len : Int) < k) :
    Calls Try.prog 3 #[.slice a len cap, .int .i64 k] w fun e w' => e = .returned (.bool true) ∧ Below w.heap.size w w' := by
  rcases ho with ho | ⟨ho, hk⟩ | ⟨ho, hk, hk2⟩
  all_goals
    go_enter Try.func3, Try.ntmps3
    go_wp2_with (go_at_call 7; refine (bound_yes _ _ _ _ _ (by omega)).mono ?_; rintro e w' ⟨rfl, rfl⟩)
    go_ret
    exact ⟨rfl, Below.refl _ _⟩

theorem fin_below {w w1 w2 : World} {m b n cp : Nat} {k : Int} (h1 : Below w.heap.size w w1) (h2 : Below w1.heap.size (newDec (w1.drewN m) b n cp k) w2) : Below w.heap.size w w2 :=
  ((drewN_below h1 m).alloc h1.size _).trans (h2.mono h1.size)

set_option maxHeartbeats 1000000 in
/-- The law behind the copy of its bytes. -/
theorem fn_main (a : Option Addr) (n cap : Nat) (l : List Int) (k : Nat) (w : World) (hn : (n : Int) ≤ 65536) (hk : k ≤ n) (hl : l.length = n)
    (HCL : Calls Try.prog 8 #[.slice a n cap] w fun e w' => e = .returned (.slice (some ⟨w.heap.size, 0, none⟩) n n) ∧ Row w' w.heap.size n l ∧ Below w.heap.size w w' ∧ w.heap.size < w'.heap.size) :
    Calls Try.prog 3 #[.slice a n cap, .int .i64 k] w fun e w' => e = .returned (.bool true) ∧ Below w.heap.size w w' := by
  have HL : Hid (l.length = n) := hl
  have HCL' : Hid (Calls Try.prog 8 #[.slice a n cap] w fun e w' => e = .returned (.slice (some ⟨w.heap.size, 0, none⟩) n n) ∧ Row w' w.heap.size n l ∧ Below w.heap.size w w' ∧ w.heap.size < w'.heap.size) := HCL
  clear HCL hl
  go_enter Try.func3, Try.ntmps3
  go_wp2_with (go_at_call 7; refine (bound_yes _ _ _ _ _ (by omega)).mono ?_; rintro e w' ⟨rfl, rfl⟩)
  refine HCL'.out.mono ?_
  rintro e w1 ⟨rfl, hrow, hbel, hsz⟩
  have HR : Hid (Row w1 w.heap.size n l) := hrow
  have HBl : Hid (Below w.heap.size w w1) := hbel
  have HRc : Hid (∀ i, i < n → w1.cell? ⟨w.heap.size, i, none⟩ = some (.int .u8 (gt l i))) := hrow.2.2
  obtain ⟨B0, HB0⟩ : ∃ B0, Hid (B0 = w.heap.size) := ⟨_, rfl⟩
  clear hrow hbel HCL'
  go_wp2_with fail
  refine (skipws _ n n l k _ rfl _ HR.out (by omega)).mono ?_
  rintro e w' ⟨⟨st, rfl, hs1, hs2, HS3, HS4⟩, rfl⟩
  go_wp2_with fail
  refine (value_all _ n n l n st hs2 (by omega) _ HR.out).mono ?_
  rintro e w' ⟨hr, m, rfl⟩
  rcases hr with ⟨kd, rfl⟩ | ⟨x, kd, rfl, hv⟩
  · go_wp2_with fail
    go_ret
    exact ⟨rfl, drewN_below HBl.out m⟩
  · have HV : Hid (Val l st x kd) := hv
    have hx1 := hv.1
    have hx2 := hv.2.1
    rw [HL.out] at hx2
    have hkd : (kd = 1 ∨ kd = 2 ∨ kd = 3) ∨ (kd = 4 ∨ kd = 5 ∨ kd = 6) := by
      rcases hv.2.2 with ⟨h, _⟩ | ⟨h, _⟩ | ⟨h, _⟩ <;> omega
    have HFin : Hid ((((kd = 4 ∨ kd = 5 ∨ kd = 6) → x < n → dlm (gt l x))) → Calls Try.prog 14 #[.pointer (some ⟨w1.heap.size, 0, none⟩)] (newDec (w1.drewN m) w.heap.size n n k) fun e' w' => e' = .returned (.tuple #[]) ∧
        Dec (newDec (w1.drewN m) w.heap.size n n k) w1.heap.size w.heap.size n n x w') := fun hd => by
      have hD0 := newDec_dec (w1.drewN m) w.heap.size n n k
      refine zzskip w1.heap.size w.heap.size n n x _ (skip_val w1.heap.size w.heap.size n n l k st x kd _ hsz ?_ ?_ hs1 HS3.out HV.out hd)
      · refine ⟨HR.out.1, HR.out.2.1, fun i hi => ?_⟩
        unfold newDec
        rw [World.cell?_alloc_lt _ _ _ (by exact hsz)]
        exact HRc.out i hi
      · exact hD0
    clear hv
    rcases hkd with hkd | hkd
    · have HF := HFin.out (fun h => by omega)
      have HF' : Hid (Calls Try.prog 14 #[.pointer (some ⟨w1.heap.size, 0, none⟩)] (newDec (w1.drewN m) w.heap.size n n k) fun e' w' => e' = .returned (.tuple #[]) ∧ Dec (newDec (w1.drewN m) w.heap.size n n k) w1.heap.size w.heap.size n n x w') := HF
      have HKd : Hid (kd = 1 ∨ kd = 2 ∨ kd = 3) := hkd
      clear HF HFin hkd
      go_wp2_with (first
        | (go_at_call 11; refine (sc_no _ _ HKd.out).mono ?_; rintro e w' ⟨rfl, rfl⟩)
        | (go_at_call 13; refine (zznew _ n n k _).mono ?_; rintro e w' ⟨rfl, rfl⟩))
      refine HF'.out.mono ?_
      rintro e w2 ⟨rfl, hd2⟩
      have HD2 : Hid (Dec (newDec (w1.drewN m) w.heap.size n n k) w1.heap.size w.heap.size n n x w2) := hd2
      clear hd2 HF'
      go_wp2_with (go_at_call 15; refine (zzpos w1.heap.size w.heap.size n n x _ _ HD2.out).mono ?_; rintro e w' ⟨rfl, rfl⟩)
      go_ret
      exact ⟨rfl, fin_below HBl.out HD2.out.2.2.2⟩
    · have HKd : Hid (kd = 4 ∨ kd = 5 ∨ kd = 6) := hkd
      clear hkd
      by_cases hxn : x < n
      · have hcx := HRc.out x hxn
        obtain ⟨d, HD⟩ : ∃ d, Hid (gt l x = d) := ⟨_, rfl⟩
        rw [HD.out] at hcx
        by_cases hdl : dlm d
        · have HDl : Hid (dlm d) := hdl
          have HF' : Hid (Calls Try.prog 14 #[.pointer (some ⟨w1.heap.size, 0, none⟩)] (newDec (w1.drewN m) w.heap.size n n k) fun e' w' => e' = .returned (.tuple #[]) ∧ Dec (newDec (w1.drewN m) w.heap.size n n k) w1.heap.size w.heap.size n n x w') :=
            HFin.out (fun _ _ => by rw [HD.out]; exact hdl)
          clear hdl HFin
          go_wp2_with (first
            | (go_at_call 11; refine (sc_yes _ _ HKd.out).mono ?_; rintro e w' ⟨rfl, rfl⟩)
            | (go_at_call 12; refine (dl_yes _ _ HDl.out).mono ?_; rintro e w' ⟨rfl, rfl⟩)
            | (go_at_call 13; refine (zznew _ n n k _).mono ?_; rintro e w' ⟨rfl, rfl⟩))
          refine HF'.out.mono ?_
          rintro e w2 ⟨rfl, hd2⟩
          have HD2 : Hid (Dec (newDec (w1.drewN m) w.heap.size n n k) w1.heap.size w.heap.size n n x w2) := hd2
          clear hd2 HF'
          go_wp2_with (go_at_call 15; refine (zzpos w1.heap.size w.heap.size n n x _ _ HD2.out).mono ?_; rintro e w' ⟨rfl, rfl⟩)
          go_ret
          exact ⟨rfl, fin_below HBl.out HD2.out.2.2.2⟩
        · have HDl : Hid (¬ dlm d) := hdl
          clear hdl HFin
          go_wp2_with (first
            | (go_at_call 11; refine (sc_yes _ _ HKd.out).mono ?_; rintro e w' ⟨rfl, rfl⟩)
            | (go_at_call 12; refine (dl_no _ _ HDl.out).mono ?_; rintro e w' ⟨rfl, rfl⟩))
          go_ret
          exact ⟨rfl, drewN_below HBl.out m⟩
      · have HF' : Hid (Calls Try.prog 14 #[.pointer (some ⟨w1.heap.size, 0, none⟩)] (newDec (w1.drewN m) w.heap.size n n k) fun e' w' => e' = .returned (.tuple #[]) ∧ Dec (newDec (w1.drewN m) w.heap.size n n k) w1.heap.size w.heap.size n n x w') :=
          HFin.out (fun _ h => absurd h hxn)
        clear HFin
        go_wp2_with (first
          | (go_at_call 11; refine (sc_yes _ _ HKd.out).mono ?_; rintro e w' ⟨rfl, rfl⟩)
          | (go_at_call 13; refine (zznew _ n n k _).mono ?_; rintro e w' ⟨rfl, rfl⟩))
        refine HF'.out.mono ?_
        rintro e w2 ⟨rfl, hd2⟩
        have HD2 : Hid (Dec (newDec (w1.drewN m) w.heap.size n n k) w1.heap.size w.heap.size n n x w2) := hd2
        clear hd2 HF'
        go_wp2_with (go_at_call 15; refine (zzpos w1.heap.size w.heap.size n n x _ _ HD2.out).mono ?_; rintro e w' ⟨rfl, rfl⟩)
        go_ret
        exact ⟨rfl, fin_below HBl.out HD2.out.2.2.2⟩

theorem fn_nil (w : World) : Calls Try.prog 3 #[.slice none 0 0, .int .i64 0] w fun e w' => e = .returned (.bool true) ∧ Below w.heap.size w w' := by
  have H9 : ∀ wx, Calls Try.prog 9 #[.slice none 0 0, .int .i64 0] wx fun e w' => e = .returned (.int .i64 0) ∧ wx = w' := fun wx => by
    go_enter Try.func9, Try.ntmps9
    go_wp2_with fail
    refine wp_loop_rounds 1 ?_
    rw [rounds_succ]
    go_wp2_with fail
    go_ret
    exact ⟨rfl, rfl⟩
  have H10 : ∀ wx, Calls Try.prog 10 #[.slice none 0 0, .int .i64 0] wx fun e w' => e = .returned (.tuple #[.int .i64 0, .int .i64 0, .bool false]) ∧ wx = w' := fun wx => by
    go_enter Try.func10, Try.ntmps10
    go_wp2_with fail
    go_ret3
    exact ⟨rfl, rfl⟩
  have HH9 : Hid (∀ wx, Calls Try.prog 9 #[.slice none 0 0, .int .i64 0] wx fun e w' => e = .returned (.int .i64 0) ∧ wx = w') := H9
  have HH10 : Hid (∀ wx, Calls Try.prog 10 #[.slice none 0 0, .int .i64 0] wx fun e w' => e = .returned (.tuple #[.int .i64 0, .int .i64 0, .bool false]) ∧ wx = w') := H10
  clear H9 H10
  go_enter Try.func3, Try.ntmps3
  go_wp2_with (first
    | (go_at_call 7; refine (bound_yes _ _ _ _ _ (by decide)).mono ?_; rintro e w' ⟨rfl, rfl⟩)
    | (go_at_call 8; refine (clone_nil _).mono ?_; rintro e w' ⟨rfl, rfl⟩)
    | (go_at_call 9; refine (HH9.out _).mono ?_; rintro e w' ⟨rfl, rfl⟩)
    | (go_at_call 10; refine (HH10.out _).mono ?_; rintro e w' ⟨rfl, rfl⟩))
  go_ret
  exact ⟨rfl, Below.refl _ _⟩

end Go.Proofs.Qxb6001130a
