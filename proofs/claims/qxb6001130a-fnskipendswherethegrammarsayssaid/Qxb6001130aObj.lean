/-
  THE WALKS OF zzObject AND zzArray, given zzValue's contract at later places.
-/
import Derived.Test.Qxb6001130aStr
namespace Go.Proofs.Qxb6001130a
open Go.RowKit
open Plain

/-- Three results: a failure, or a place and a number of which P holds. -/
def Ret3 (e : Ending) (P : Nat → Int → Prop) : Prop :=
  (∃ kd : Int, e = .returned (.tuple #[.int .i64 0, .int .i64 kd, .bool false])) ∨ ∃ (x : Nat) (kd : Int), e = .returned (.tuple #[.int .i64 x, .int .i64 kd, .bool true]) ∧ P x kd

/-- zzValue's contract at place j. -/
def ValAt (b n cp : Nat) (l : List Int) (j : Nat) : Prop :=
  ∀ w, Row w b n l → Calls Try.prog 10 #[.slice (some ⟨b, 0, none⟩) n cp, .int .i64 j] w fun e w' => Ret3 e (Val l j) ∧ ∃ k, w' = w.drewN k

theorem colon_spec {c : Int} (h : c = 58 ∨ c = 44) : ¬ spec c := by unfold spec opn cls; omega

set_option maxRecDepth 100000 in
set_option maxHeartbeats 2000000 in
theorem object (b n cp : Nat) (l : List Int) (i : Nat) (w : World) (hR : Row w b n l) (hi : i < n) (hV : ∀ j, i < j → j ≤ n → ValAt b n cp l j) :
    Calls Try.prog 23 #[.slice (some ⟨b, 0, none⟩) n cp, .int .i64 i] w fun e w' => Ret2 e (fun x => ∃ j, x = j + 1 ∧ i < j ∧ j < n ∧ Pass l (i + 1) j ∧ gt l j = 125) ∧ ∃ k, w' = w.drewN k := by
  have HR : Hid (Row w b n l) := hR
  have HV : Hid (∀ j, i < j → j ≤ n → ValAt b n cp l j) := hV
  clear hV
  obtain ⟨hl, hn, hc⟩ := hR
  have HCc : Hid (∀ i, i < n → w.cell? ⟨b, i, none⟩ = some (.int .u8 (gt l i))) := hc
  have HLn : Hid (l.length = n) := hl
  clear hl hc
  go_enter Try.func23, Try.ntmps23
  go_wp2_with fail
  refine (skipws b n cp l (i + 1) _ (by omega) _ HR.out (by omega)).mono ?_
  rintro e w' ⟨⟨j0, rfl, h01, h02, H03, H04⟩, rfl⟩
  have HP0 : Hid (Pass l (i + 1) j0) := ws_pass HLn.out h01 h02 H03.out
  clear H03 H04
  by_cases hj0 : j0 < n
  · have hc0 := HCc.out j0 hj0
    obtain ⟨c0, HC0⟩ : ∃ c, Hid (gt l j0 = c) := ⟨_, rfl⟩
    rw [HC0.out] at hc0
    by_cases h125 : c0 = 125
    · go_wp2_with fail
      go_ret2
      exact ⟨Or.inr ⟨j0 + 1, by simp, j0, rfl, by omega, hj0, HP0.out, by rw [HC0.out]; exact h125⟩, dr0⟩
    · have b125 : (c0 == 125) = false := by simpa using h125
      go_wp2_with fail
      go_loopw [6] (fun t wr => (∃ j : Nat, t = .int .i64 j ∧ i < j ∧ j ≤ n ∧ Hid (Pass l (i + 1) j)) ∧ ∃ m, wr = w.drewN m) (fun t _ => n - (intOf t).toNat)
      case atStart => exact ⟨⟨j0, rfl, by omega, h02, HP0⟩, 0, rfl⟩
      case round =>
        clear hc0 HC0 h125 b125 HP0
        obtain ⟨⟨j, rfl, hij, hjn, HP⟩, m, rfl⟩ := hrel
        by_cases hlt : j < n
        · have hcj := HCc.out j hlt
          obtain ⟨c, HC⟩ : ∃ c, Hid (gt l j = c) := ⟨_, rfl⟩
          rw [HC.out] at hcj
          by_cases h34 : c = 34
          · go_wp2_with fail
            refine (str b n cp l j _ rfl _ (HR.out.drewN m) hlt).mono ?_
            rintro e w' ⟨hr, rfl⟩
            rcases hr with rfl | ⟨x, rfl, q, rfl, hq⟩
            · go_wp2_with fail
              go_ret2
              exact ⟨Or.inl rfl, dr1⟩
            · have hqb := Q_bounds hq
              rw [HLn.out] at hqb
              obtain ⟨hq1, hq2⟩ := hqb
              have HP1 : Hid (Pass l (i + 1) (q + 1)) := HP.out.trans (Pass.str (by rw [HLn.out]; exact hlt) (by rw [HC.out]; exact h34) hq)
              clear HP hq hcj
              go_wp2_with fail
              refine (skipws b n cp l (q + 1) _ (by omega) _ (HR.out.drewN m) (by omega)).mono ?_
              rintro e w' ⟨⟨j1, rfl, h11, h12, H13, H14⟩, rfl⟩
              have HP2 : Hid (Pass l (i + 1) j1) := HP1.out.trans (ws_pass HLn.out h11 h12 H13.out)
              clear H13 H14 HP1
              by_cases hj1 : j1 < n
              · have hcj1 := HCc.out j1 hj1
                obtain ⟨c1, HC1⟩ : ∃ c, Hid (gt l j1 = c) := ⟨_, rfl⟩
                rw [HC1.out] at hcj1
                by_cases h58 : c1 = 58
                · have HP3 : Hid (Pass l (i + 1) (j1 + 1)) := HP2.out.trans (Pass.plain (by rw [HLn.out]; exact hj1) (by rw [HC1.out]; exact colon_spec (Or.inl h58)))
                  clear HP2
                  go_wp2_with fail
                  refine (skipws b n cp l (j1 + 1) _ (by omega) _ (HR.out.drewN m) (by omega)).mono ?_
                  rintro e w' ⟨⟨j2, rfl, h21, h22, H23, H24⟩, rfl⟩
                  have HP4 : Hid (Pass l (i + 1) j2) := HP3.out.trans (ws_pass HLn.out h21 h22 H23.out)
                  clear H23 H24 HP3 hcj1
                  go_wp2_with fail
                  refine (HV.out j2 (by omega) h22 _ (HR.out.drewN m)).mono ?_
                  rintro e w' ⟨hr, m2, rfl⟩
                  rcases hr with ⟨kd, rfl⟩ | ⟨x, kd, rfl, hv⟩
                  · go_wp2_with fail
                    go_ret2
                    exact ⟨Or.inl rfl, dr1⟩
                  · have hvb := hv.2.1
                    have hvb1 := hv.1
                    rw [HLn.out] at hvb
                    have HP5 : Hid (Pass l (i + 1) x) := HP4.out.trans hv.pass
                    clear HP4 hv
                    go_wp2_with fail
                    refine (skipws b n cp l x _ rfl _ (HR.out.drewN (m + m2)) (by omega)).mono ?_
                    rintro e w' ⟨⟨j3, rfl, h31, h32, H33, H34⟩, rfl⟩
                    have HP6 : Hid (Pass l (i + 1) j3) := HP5.out.trans (ws_pass HLn.out h31 h32 H33.out)
                    clear H33 H34 HP5
                    by_cases hj3 : j3 < n
                    · have hcj3 := HCc.out j3 hj3
                      obtain ⟨c3, HC3⟩ : ∃ c, Hid (gt l j3 = c) := ⟨_, rfl⟩
                      rw [HC3.out] at hcj3
                      by_cases h125 : c3 = 125
                      · go_wp2_with fail
                        go_ret2
                        exact ⟨Or.inr ⟨j3 + 1, by simp, j3, rfl, by omega, hj3, HP6.out, by rw [HC3.out]; exact h125⟩, dr1⟩
                      · have b125 : (c3 == 125) = false := by simpa using h125
                        by_cases h44 : c3 = 44
                        · have HP7 : Hid (Pass l (i + 1) (j3 + 1)) := HP6.out.trans (Pass.plain (by rw [HLn.out]; exact hj3) (by rw [HC3.out]; exact colon_spec (Or.inr h44)))
                          clear HP6
                          go_wp2_with fail
                          refine (skipws b n cp l (j3 + 1) _ (by omega) _ (HR.out.drewN (m + m2)) (by omega)).mono ?_
                          rintro e w' ⟨⟨j4, rfl, h41, h42, H43, H44⟩, rfl⟩
                          have HP8 : Hid (Pass l (i + 1) j4) := HP7.out.trans (ws_pass HLn.out h41 h42 H43.out)
                          clear H43 H44 HP7 hcj3
                          go_wp2_with fail
                          go_roundw
                          case rel => exact ⟨⟨j4, rfl, by omega, h42, HP8⟩, dr1⟩
                          case measure => simp [intOf]; omega
                        · have b44 : (c3 != 44) = true := by simpa using h44
                          go_wp2_with fail
                          go_ret2
                          exact ⟨Or.inl rfl, dr1⟩
                    · go_wp2_with fail
                      go_ret2
                      exact ⟨Or.inl rfl, dr1⟩
                · have b58 : (c1 != 58) = true := by simpa using h58
                  go_wp2_with fail
                  go_ret2
                  exact ⟨Or.inl rfl, dr1⟩
              · go_wp2_with fail
                go_ret2
                exact ⟨Or.inl rfl, dr1⟩
          · have b34 : (c != 34) = true := by simpa using h34
            go_wp2_with fail
            go_ret2
            exact ⟨Or.inl rfl, dr1⟩
        · go_wp2_with fail
          go_ret2
          exact ⟨Or.inl rfl, dr1⟩
  · go_wp2_with fail
    refine wp_loop_rounds 1 ?_
    rw [rounds_succ]
    go_wp2_with fail
    go_ret2
    exact ⟨Or.inl rfl, dr0⟩

set_option maxRecDepth 100000 in
set_option maxHeartbeats 2000000 in
theorem array (b n cp : Nat) (l : List Int) (i : Nat) (w : World) (hR : Row w b n l) (hi : i < n) (hV : ∀ j, i < j → j ≤ n → ValAt b n cp l j) :
    Calls Try.prog 17 #[.slice (some ⟨b, 0, none⟩) n cp, .int .i64 i] w fun e w' => Ret3 e (fun x _ => ∃ j, x = j + 1 ∧ i < j ∧ j < n ∧ Pass l (i + 1) j ∧ gt l j = 93) ∧ ∃ k, w' = w.drewN k := by
  have HR : Hid (Row w b n l) := hR
  have HV : Hid (∀ j, i < j → j ≤ n → ValAt b n cp l j) := hV
  clear hV
  obtain ⟨hl, hn, hc⟩ := hR
  have HCc : Hid (∀ i, i < n → w.cell? ⟨b, i, none⟩ = some (.int .u8 (gt l i))) := hc
  have HLn : Hid (l.length = n) := hl
  clear hl hc
  go_enter Try.func17, Try.ntmps17
  go_wp2_with fail
  refine (skipws b n cp l (i + 1) _ (by omega) _ HR.out (by omega)).mono ?_
  rintro e w' ⟨⟨j0, rfl, h01, h02, H03, H04⟩, rfl⟩
  have HP0 : Hid (Pass l (i + 1) j0) := ws_pass HLn.out h01 h02 H03.out
  clear H03 H04
  by_cases hj0 : j0 < n
  · have hc0 := HCc.out j0 hj0
    obtain ⟨c0, HC0⟩ : ∃ c, Hid (gt l j0 = c) := ⟨_, rfl⟩
    rw [HC0.out] at hc0
    by_cases h93 : c0 = 93
    · go_wp2_with fail
      go_ret3
      exact ⟨Or.inr ⟨j0 + 1, 0, by simp, j0, rfl, by omega, hj0, HP0.out, by rw [HC0.out]; exact h93⟩, dr0⟩
    · have b93 : (c0 == 93) = false := by simpa using h93
      go_wp2_with fail
      go_loopw [7, 8] (fun t u wr => (∃ (j : Nat) (q : Int), t = .int .i64 j ∧ u = .int .i64 q ∧ i < j ∧ j ≤ n ∧ Hid (Pass l (i + 1) j)) ∧ ∃ m, wr = w.drewN m) (fun t _ _ => n - (intOf t).toNat)
      case atStart => exact ⟨⟨j0, 0, rfl, rfl, by omega, h02, HP0⟩, 0, rfl⟩
      case round =>
        clear hc0 HC0 h93 b93 HP0
        obtain ⟨⟨j, q, rfl, rfl, hij, hjn, HP⟩, m, rfl⟩ := hrel
        by_cases hlt : j < n
        · go_wp2_with fail
          refine (HV.out j hij hjn _ (HR.out.drewN m)).mono ?_
          rintro e w' ⟨hr, m2, rfl⟩
          rcases hr with ⟨kd, rfl⟩ | ⟨x, kd, rfl, hv⟩
          · go_wp2_with fail
            go_ret3
            exact ⟨Or.inl ⟨0, rfl⟩, dr1⟩
          · have hvb := hv.2.1
            have hvb1 := hv.1
            rw [HLn.out] at hvb
            have HP5 : Hid (Pass l (i + 1) x) := HP.out.trans hv.pass
            clear HP hv
            go_wp2_with fail
            refine (skipws b n cp l x _ rfl _ (HR.out.drewN (m + m2)) (by omega)).mono ?_
            rintro e w' ⟨⟨j3, rfl, h31, h32, H33, H34⟩, rfl⟩
            have HP6 : Hid (Pass l (i + 1) j3) := HP5.out.trans (ws_pass HLn.out h31 h32 H33.out)
            clear H33 H34 HP5
            by_cases hj3 : j3 < n
            · have hcj3 := HCc.out j3 hj3
              obtain ⟨c3, HC3⟩ : ∃ c, Hid (gt l j3 = c) := ⟨_, rfl⟩
              rw [HC3.out] at hcj3
              by_cases h93 : c3 = 93
              · go_wp2_with fail
                go_ret3
                exact ⟨Or.inr ⟨j3 + 1, _, by simp; rfl, j3, rfl, by omega, hj3, HP6.out, by rw [HC3.out]; exact h93⟩, dr1⟩
              · have b93 : (c3 == 93) = false := by simpa using h93
                by_cases h44 : c3 = 44
                · have HP7 : Hid (Pass l (i + 1) (j3 + 1)) := HP6.out.trans (Pass.plain (by rw [HLn.out]; exact hj3) (by rw [HC3.out]; exact colon_spec (Or.inr h44)))
                  clear HP6
                  go_wp2_with fail
                  refine (skipws b n cp l (j3 + 1) _ (by omega) _ (HR.out.drewN (m + m2)) (by omega)).mono ?_
                  rintro e w' ⟨⟨j4, rfl, h41, h42, H43, H44⟩, rfl⟩
                  have HP8 : Hid (Pass l (i + 1) j4) := HP7.out.trans (ws_pass HLn.out h41 h42 H43.out)
                  clear H43 H44 HP7 hcj3
                  go_wp2_with fail
                  go_roundw
                  case rel => exact ⟨⟨j4, _, rfl, rfl, by omega, h42, HP8⟩, dr1⟩
                  case measure => simp [intOf]; omega
                · have b44 : (c3 != 44) = true := by simpa using h44
                  go_wp2_with fail
                  go_ret3
                  exact ⟨Or.inl ⟨0, rfl⟩, dr1⟩
            · go_wp2_with fail
              go_ret3
              exact ⟨Or.inl ⟨0, rfl⟩, dr1⟩
        · go_wp2_with fail
          go_ret3
          exact ⟨Or.inl ⟨0, rfl⟩, dr1⟩
  · go_wp2_with fail
    refine wp_loop_rounds 1 ?_
    rw [rounds_succ]
    go_wp2_with fail
    go_ret3
    exact ⟨Or.inl ⟨0, rfl⟩, dr0⟩

end Go.Proofs.Qxb6001130a
