/-
  THE WALK OF skip.
-/
import Derived.Test.Qxb6001130aDec
namespace Go.Proofs.Qxb6001130a
open Go.RowKit
open Plain

set_option maxRecDepth 100000 in
set_option maxHeartbeats 4000000 in
theorem skip_str (B b n cp : Nat) (l : List Int) (i st q : Nat) (w : World) (hb : b < B) (hR : Row w b n l) (hD : Dec w B b n cp i w) (h1 : i ≤ st) (h2 : st < n) (h3 : ∀ x, i ≤ x → x < st → wsp (gt l x))
    (hg : gt l st = 34) (hq : Q l (st + 1) q) :
    Calls Try.prog 27 #[.pointer (some ⟨B, 0, none⟩)] w fun e w' => e = .returned (.tuple #[]) ∧ Dec w B b n cp (q + 1) w' := by
  have HS := space B b n cp l i st w hb hR hD h1 (by omega) h3 (fun _ h => by rw [hg] at h; unfold wsp at h; omega)
  have HR : Hid (Row w b n l) := hR
  have HS' : Hid (Calls Try.prog 31 #[.pointer (some ⟨B, 0, none⟩)] w fun e w' => e = .returned (.tuple #[]) ∧ Dec w B b n cp st w') := HS
  have HQ : Hid (Q l (st + 1) q) := hq
  have hqb := Q_bounds hq
  rw [hR.1] at hqb
  have hn := hR.2.1
  have HGt : Hid (gt l st = 34) := hg
  clear HS h3 hq hR hD hg
  go_enter Try.func27, Try.ntmps27
  go_wp2_with fail
  refine HS'.out.mono ?_
  rintro e w1 ⟨rfl, hd1⟩
  have HRr : Hid (Row w1 b n l) := hd1.row hb HR.out
  have hck := HRr.out.2.2 st h2
  rw [HGt.out] at hck
  have HDk : Hid (Dec w B b n cp st w1) := hd1
  obtain ⟨c0, c1, f1, hbel⟩ := hd1
  go_wp2_with fail
  go_quiet (fail)
  go_wp2_with (go_at_call 32; refine (closing B b n cp l st q _ (HRr.out.drewN _) (by simpa using c0) HQ.out).mono ?_; rintro e w' ⟨rfl, rfl⟩)
  go_end0
  exact ⟨rfl, HDk.out.set _ (q + 1) _ (by omega)⟩

set_option maxRecDepth 100000 in
set_option maxHeartbeats 8000000 in
theorem skip_brk (B b n cp : Nat) (l : List Int) (i st e : Nat) (w : World) (hb : b < B) (hR : Row w b n l) (hD : Dec w B b n cp i w) (h1 : i ≤ st) (h2 : st < n) (h3 : ∀ x, i ≤ x → x < st → wsp (gt l x))
    (hg : opn (gt l st)) (hq : D l st 0 e) :
    Calls Try.prog 27 #[.pointer (some ⟨B, 0, none⟩)] w fun e' w' => e' = .returned (.tuple #[]) ∧ Dec w B b n cp e w' := by
  have HS := space B b n cp l i st w hb hR hD h1 (by omega) h3 (fun _ h => by unfold opn at hg; unfold wsp at h; omega)
  have HR : Hid (Row w b n l) := hR
  have HS' : Hid (Calls Try.prog 31 #[.pointer (some ⟨B, 0, none⟩)] w fun e w' => e = .returned (.tuple #[]) ∧ Dec w B b n cp st w') := HS
  have HQ : Hid (D l st 0 e) := hq
  have HLn : Hid (l.length = n) := hR.1
  have hn := hR.2.1
  obtain ⟨g, HGt⟩ : ∃ g, Hid (gt l st = g) := ⟨_, rfl⟩
  rw [HGt.out] at hg
  unfold opn at hg
  clear HS h3 hq hR hD
  rcases hg with rfl | rfl
  all_goals
    go_enter Try.func27, Try.ntmps27
    go_wp2_with fail
    refine HS'.out.mono ?_
    rintro e' w1 ⟨rfl, hd1⟩
    have HRr1 : Hid (Row w1 b n l) := hd1.row hb HR.out
    have hck1 := HRr1.out.2.2 st h2
    rw [HGt.out] at hck1
    have HDk1 : Hid (Dec w B b n cp st w1) := hd1
    obtain ⟨c0, c1, f1, hbel⟩ := hd1
    go_wp2_with fail
    go_quiet (fail)
    go_wp2_with fail
    go_loopw [2] (fun t wr => ∃ k d : Nat, t = .int .i64 d ∧ d ≤ k ∧ k ≤ n ∧ Dec w B b n cp k wr ∧ Hid (D l k d e)) (fun _ wr => n + 1 - posOf B wr)
    case atStart => exact ⟨st, 0, rfl, Nat.zero_le _, by omega, HDk1.out.drewN _, HQ⟩
    case round =>
      clear c0 c1 f1 hbel hck1 HDk1 HRr1 HQ HS'
      obtain ⟨k, d, rfl, hdk0, hkn, hdk, HDD⟩ := hrel
      have HDk : Hid (Dec w B b n cp k wr) := hdk
      have HPo : Hid (posOf B wr = k) := hdk.pos
      have HRr : Hid (Row wr b n l) := hdk.row hb HR.out
      obtain ⟨c0, c1, f1, hbel⟩ := hdk
      obtain ⟨hlt, hcase⟩ := D_cases HDD.out
      clear HDD
      rw [HLn.out] at hlt
      have hck := HRr.out.2.2 k hlt
      obtain ⟨c, HC⟩ : ∃ c, Hid (gt l k = c) := ⟨_, rfl⟩
      rw [HC.out] at hck hcase
      rcases hcase with ⟨rfl, q, hq, hrest⟩ | ⟨ho, hrest⟩ | ⟨ho, hrest⟩ | ⟨ho, hrest⟩
      · have hqb := Q_bounds hq
        rw [HLn.out] at hqb
        have HQ : Hid (Q l (k + 1) q) := hq
        clear hq
        have HII : Hid (∀ m, Dec w B b n cp (q + 1) (((wr.drewN m).setCell ⟨B, 1, none⟩ (.int .i64 (q : Int))).setCell ⟨B, 1, none⟩ (.int .i64 ((q : Int) + 1)))) := fun m => (HDk.out.set m q _ rfl).set 0 (q + 1) _ (by omega)
        rcases hrest with ⟨rfl, rfl⟩ | ⟨hd1, hrest⟩
        · go_wp2_with fail
          go_quiet (fail)
          go_wp2_with (go_at_call 32; refine (closing B b n cp l k q _ (HRr.out.drewN _) (by simpa using c0) HQ.out).mono ?_; rintro e' w' ⟨rfl, rfl⟩)
          refine bodyPost_ret (results_none rfl _ _ _) rfl ?_
          exact ⟨rfl, HII.out _⟩
        · have HD2 : Hid (D l (q + 1) d e) := hrest
          clear hrest
          go_wp2_with fail
          go_quiet (fail)
          go_wp2_with (go_at_call 32; refine (closing B b n cp l k q _ (HRr.out.drewN _) (by simpa using c0) HQ.out).mono ?_; rintro e' w' ⟨rfl, rfl⟩)
          exact ⟨⟨q + 1, d, rfl, by omega, by omega, HII.out _, HD2⟩, by rw [(HII.out _).pos, HPo.out]; omega⟩
      · have HII : Hid (∀ m, Dec w B b n cp (k + 1) ((wr.drewN m).setCell ⟨B, 1, none⟩ (.int .i64 ((k : Int) + 1)))) := fun m => HDk.out.set m (k + 1) _ (by omega)
        have HD2 : Hid (D l (k + 1) (d + 1) e) := hrest
        clear hrest
        unfold opn at ho
        rcases ho with rfl | rfl
        all_goals
          go_wp2_with fail
          go_quiet (fail)
          go_wp2_with fail
          exact ⟨⟨k + 1, d + 1, by go_num, by omega, by omega, HII.out _, HD2⟩, by rw [(HII.out _).pos, HPo.out]; omega⟩
      · have HII : Hid (∀ m, Dec w B b n cp (k + 1) ((wr.drewN m).setCell ⟨B, 1, none⟩ (.int .i64 ((k : Int) + 1)))) := fun m => HDk.out.set m (k + 1) _ (by omega)
        unfold cls at ho
        rcases hrest with ⟨rfl, rfl⟩ | ⟨hd2, hrest⟩
        · rcases ho with rfl | rfl
          all_goals
            go_wp2_with fail
            go_quiet (fail)
            go_wp2_with fail
            refine bodyPost_ret (results_none rfl _ _ _) rfl ?_
            exact ⟨rfl, HII.out _⟩
        · have HD2 : Hid (D l (k + 1) (d - 1) e) := hrest
          clear hrest
          rcases ho with rfl | rfl
          all_goals
            go_wp2_with fail
            go_quiet (fail)
            go_wp2_with fail
            exact ⟨⟨k + 1, d - 1, by go_num, by omega, by omega, HII.out _, HD2⟩, by rw [(HII.out _).pos, HPo.out]; omega⟩
      · have HII : Hid (∀ m, Dec w B b n cp (k + 1) ((wr.drewN m).setCell ⟨B, 1, none⟩ (.int .i64 ((k : Int) + 1)))) := fun m => HDk.out.set m (k + 1) _ (by omega)
        unfold spec opn cls at ho
        have b1 : (c == 34) = false := by simp; omega
        have b2 : (c == 123) = false := by simp; omega
        have b3 : (c == 91) = false := by simp; omega
        have b4 : (c == 125) = false := by simp; omega
        have b5 : (c == 93) = false := by simp; omega
        clear ho
        rcases hrest with ⟨rfl, rfl⟩ | ⟨hd2, hrest⟩
        · go_wp2_with fail
          go_quiet (fail)
          go_wp2_with fail
          refine bodyPost_ret (results_none rfl _ _ _) rfl ?_
          exact ⟨rfl, HII.out _⟩
        · have HD2 : Hid (D l (k + 1) d e) := hrest
          clear hrest
          go_wp2_with fail
          go_quiet (fail)
          go_wp2_with fail
          exact ⟨⟨k + 1, d, rfl, by omega, by omega, HII.out _, HD2⟩, by rw [(HII.out _).pos, HPo.out]; omega⟩

set_option maxRecDepth 100000 in
set_option maxHeartbeats 4000000 in
theorem skip_scalar (B b n cp : Nat) (l : List Int) (i st e : Nat) (w : World) (hb : b < B) (hR : Row w b n l) (hD : Dec w B b n cp i w) (h1 : i ≤ st) (h2 : st < e) (h2' : e ≤ n) (h3 : ∀ x, i ≤ x → x < st → wsp (gt l x))
    (hs : ∀ j, st ≤ j → j < e → scb (gt l j)) (hd : e < n → dlm (gt l e)) :
    Calls Try.prog 27 #[.pointer (some ⟨B, 0, none⟩)] w fun e' w' => e' = .returned (.tuple #[]) ∧ Dec w B b n cp e w' := by
  have hsc := hs st (Nat.le_refl _) h2
  have HS := space B b n cp l i st w hb hR hD h1 (by omega) h3 (fun _ h => hsc.1 (Or.inr (Or.inr (Or.inr h))))
  have HR : Hid (Row w b n l) := hR
  have HS' : Hid (Calls Try.prog 31 #[.pointer (some ⟨B, 0, none⟩)] w fun e w' => e = .returned (.tuple #[]) ∧ Dec w B b n cp st w') := HS
  have HSc : Hid (∀ j, st ≤ j → j < e → scb (gt l j)) := hs
  have HDl : Hid (e < n → dlm (gt l e)) := hd
  have HLn : Hid (l.length = n) := hR.1
  have hn := hR.2.1
  obtain ⟨g, HGt⟩ : ∃ g, Hid (gt l st = g) := ⟨_, rfl⟩
  rw [HGt.out] at hsc
  have hsp := hsc.2.1
  unfold spec opn cls at hsp
  have g1 : (g == 34) = false := by simp; omega
  have g2 : (g == 123) = false := by simp; omega
  have g3 : (g == 91) = false := by simp; omega
  clear HS h3 hR hD hs hd hsc hsp
  go_enter Try.func27, Try.ntmps27
  go_wp2_with fail
  refine HS'.out.mono ?_
  rintro e' w1 ⟨rfl, hd1⟩
  have HRr1 : Hid (Row w1 b n l) := hd1.row hb HR.out
  have hck1 := HRr1.out.2.2 st (by omega)
  rw [HGt.out] at hck1
  have HDk1 : Hid (Dec w B b n cp st w1) := hd1
  obtain ⟨c0, c1, f1, hbel⟩ := hd1
  go_wp2_with fail
  go_quiet (fail)
  go_wp2_with fail
  go_loopw [39] (fun _ wr => ∃ k : Nat, st ≤ k ∧ k ≤ e ∧ Dec w B b n cp k wr) (fun _ wr => n + 1 - posOf B wr)
  case atStart => exact ⟨st, Nat.le_refl _, by omega, HDk1.out.drewN _⟩
  case round =>
    clear c0 c1 f1 hbel hck1 HDk1 HRr1 HS'
    obtain ⟨k, hk1, hk2, hdk⟩ := hrel
    have HDk : Hid (Dec w B b n cp k wr) := hdk
    have HPo : Hid (posOf B wr = k) := hdk.pos
    have HRr : Hid (Row wr b n l) := hdk.row hb HR.out
    obtain ⟨c0, c1, f1, hbel⟩ := hdk
    by_cases hlt : k < n
    · have hck := HRr.out.2.2 k hlt
      obtain ⟨c, HC⟩ : ∃ c, Hid (gt l k = c) := ⟨_, rfl⟩
      rw [HC.out] at hck
      by_cases hke : k < e
      · have hsc := HSc.out k hk1 hke
        rw [HC.out] at hsc
        have HCR : Hid (∀ wx, Calls Try.prog 33 #[.string { data := #[44, 125, 93, 32, 9, 10, 13] }, .int .i32 c] wx fun e w' => e = .returned (.bool false) ∧ w' = wx) := fun wx => by
          refine (cr_any c wx false hsc.2.2.1 hsc.2.2.2 ⟨fun h => (by cases h), fun h => absurd h hsc.1⟩).mono ?_
          rintro e w' ⟨rfl, rfl⟩
          exact ⟨rfl, rfl⟩
        have hcl := hsc.2.2.1
        have hch := hsc.2.2.2
        clear hsc
        have HII : Hid (∀ m, Dec w B b n cp (k + 1) ((wr.drewN m).setCell ⟨B, 1, none⟩ (.int .i64 ((k : Int) + 1)))) := fun m => HDk.out.set m (k + 1) _ (by omega)
        go_wp2_with fail
        go_quiet ((go_at_call 33; exact Calls.quiet_of_same (HCR.out _)))
        go_wp2_with fail
        exact ⟨⟨k + 1, by omega, by omega, HII.out _⟩, by rw [(HII.out _).pos, HPo.out]; omega⟩
      · obtain rfl : k = e := by omega
        have hdl := HDl.out hlt
        rw [HC.out] at hdl
        have hcl : 0 ≤ c ∧ c < 128 := by unfold dlm wsp at hdl; omega
        have HCR : Hid (∀ wx, Calls Try.prog 33 #[.string { data := #[44, 125, 93, 32, 9, 10, 13] }, .int .i32 c] wx fun e w' => e = .returned (.bool true) ∧ w' = wx) := fun wx => by
          refine (cr_any c wx true hcl.1 hcl.2 ⟨fun _ => hdl, fun _ => rfl⟩).mono ?_
          rintro e w' ⟨rfl, rfl⟩
          exact ⟨rfl, rfl⟩
        clear hdl
        obtain ⟨hcl, hch⟩ := hcl
        go_wp2_with fail
        go_quiet ((go_at_call 33; exact Calls.quiet_of_same (HCR.out _)))
        go_wp2_with fail
        go_end0
        exact ⟨rfl, HDk.out.drewN _⟩
    · obtain rfl : k = e := by omega
      go_wp2_with fail
      go_quiet (fail)
      go_wp2_with fail
      go_end0
      exact ⟨rfl, HDk.out.drewN _⟩

end Go.Proofs.Qxb6001130a
