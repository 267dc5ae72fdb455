/-
  THE WALK OF nextTop.
-/
import Derived.Test.Qxb6000809aWalk
import Derived.WalkSmall
namespace Go.Proofs.Qxb6000809a
open Go.RowKit
open Plain

theorem info5 : (Try.prog.info? 5).map (fun i => (i.zero, i.size, i.bytes)) = some (some (.int .u8 0), 1, 1) := by kernel_rfl

/-- The stack in memory: the value v owns the numbers st; nothing old has turned. -/
def Stk (w wr : World) (v : Value) (st : List Int) : Prop := wr.ownsRow w.heap.size 5 1 v st.length (st.map (Value.int .u8)) ∧ Below w.heap.size w wr

theorem Stk.shape {w wr : World} {v : Value} {st : List Int} (h : Stk w wr v st) : ∃ a cap, v = .slice a st.length cap ∧ (∀ ys t, st = ys ++ [t] → ∃ g, a = some ⟨g, 0, none⟩ ∧ ys.length + 1 ≤ cap) := by
  obtain ⟨⟨_, h1 | ⟨g, cap, cur, hv, _, _, hn, _⟩⟩, _⟩ := h
  · refine ⟨none, 0, ?_, ?_⟩
    · rw [h1.1, h1.2]
    · rintro ys t rfl; simp at h1
  · refine ⟨_, cap, hv, ?_⟩
    rintro ys t rfl
    exact ⟨g, rfl, by simpa using hn⟩

theorem Stk.push {w wr w1 : World} {v v' : Value} {st : List Int} {c : Int} {o : Obj} (h : Stk w wr v st) (h1 : w1.ownsRow w.heap.size 5 1 v' (st.length + 1) (st.map (Value.int .u8) ++ [.int .u8 c]))
    (hg : (wr.alloc o).grownBy w1 v.ownBlock) : Stk w w1 v' (st ++ [c]) := by
  refine ⟨by simpa using h1, ?_⟩
  have hb := h.2.alloc h.2.size o
  refine hb.grown hg (by have := h.2.size; simp; omega) ?_
  intro k hk
  obtain ⟨⟨_, h2 | ⟨g, cap, cur, hv, hb, _⟩⟩, _⟩ := h
  · rw [h2.1] at hk; simp [Value.ownBlock] at hk
  · rw [hv] at hk
    simp [Value.ownBlock] at hk
    omega

theorem Stk.pop {w wr : World} {g cap : Nat} {ys : List Int} {t : Int} (h : Stk w wr (.slice (some ⟨g, 0, none⟩) (ys.length + 1) cap) (ys ++ [t])) : Stk w wr (.slice (some ⟨g, 0, none⟩) ys.length cap) ys := by
  refine ⟨?_, h.2⟩
  have h1 := h.1
  refine ownsRow_pop (last := [Value.int .u8 t]) (by simp) (by simpa using h1)

theorem Stk.topCell {w wr : World} {g cap : Nat} {ys : List Int} {t : Int} (h : Stk w wr (.slice (some ⟨g, 0, none⟩) (ys.length + 1) cap) (ys ++ [t])) : wr.cell? ⟨g, ys.length, none⟩ = some (.int .u8 t) := by
  have h1 : wr.ownsRow w.heap.size 5 1 (.slice (some ⟨g, 0, none⟩) (ys.length + 1) cap) (ys.length + 1) (ys.map (Value.int .u8) ++ [Value.int .u8 t]) := by simpa using h.1
  have := h1.cellAt ys.length (by omega)
  rw [this]
  simp

def okT (t : Int) : Prop := t = 62 ∨ t = 1 ∨ t = 41 ∨ t = 93 ∨ t = 125

/-- What the loop of nextTop keeps. -/
def Inv (w : World) (l : List Int) (stop : Int) (ans : Int) (i v : Value) (wr : World) : Prop :=
  ∃ (k f : Nat) (st : List Int) (a : Option Addr) (n cap : Nat), i = .int .i64 k ∧ v = .slice a n cap ∧ st.length = n ∧ k ≤ l.length ∧ l.length + 1 ≤ f + k ∧ n ≤ k ∧ (∀ t ∈ st, okT t) ∧ Stk w wr v st ∧ nt l stop f k st = ans

theorem Inv.mk' {w : World} {l : List Int} {stop ans : Int} {v : Value} {wr : World} {k f : Nat} {st : List Int} {q : Int} (hq : q = (k : Int)) (h1 : k ≤ l.length) (h2 : l.length + 1 ≤ f + k) (h3 : st.length ≤ k) (h4 : ∀ t ∈ st, okT t) (h5 : Stk w wr v st)
    (h6 : nt l stop f k st = ans) : Inv w l stop ans (.int .i64 q) v wr := by
  obtain ⟨a, cap, hv, _⟩ := h5.shape
  subst hq
  exact ⟨k, f, st, a, _, cap, rfl, hv, rfl, h1, h2, h3, h4, h5, h6⟩

theorem ok_snoc {st : List Int} {c : Int} (h : ∀ t ∈ st, okT t) (hc : okT c) : ∀ t ∈ st ++ [c], okT t := by
  intro t ht
  rcases List.mem_append.1 ht with h1 | h1
  · exact h t h1
  · rw [List.mem_singleton.1 h1]; exact hc

theorem len_snoc {st : List Int} {x : Int} {n k : Nat} (h : st.length = n) (hn : n ≤ k) : (st ++ [x]).length ≤ k + 1 := by simp; omega
theorem nil_or_snoc (st : List Int) : st = [] ∨ ∃ ys t, st = ys ++ [t] := by
  rcases List.eq_nil_or_concat st with h | ⟨ys, t, h⟩
  · exact Or.inl h
  · exact Or.inr ⟨ys, t, by rw [h, List.concat_eq_append]⟩

theorem one_u8 (c : Int) : ∀ u ∈ [Value.int .u8 c], u.oneCell' = true := by
  intro u hu
  rw [List.mem_singleton.1 hu]
  rfl

set_option maxRecDepth 100000 in
set_option maxHeartbeats 8000000 in
theorem top_any (s : ByteArray) (i : Nat) (stop : Int) (f : Nat) (w : World) (hs : s.size ≤ 1048576) (hi0 : i ≤ s.size) (hf : s.size + 1 ≤ f + i) (_hst : 0 ≤ stop ∧ stop ≤ 255) :
    Calls Try.prog 12 #[.string s, .int .i64 i, .int .u8 stop] w fun e w' => e = .returned (.int .i64 (nt (bts s) stop f i [])) ∧ Below w.heap.size w w' := by
  have HL : Hid ((bts s).length = s.size) := bts_length s
  obtain ⟨l, HB⟩ : ∃ l, Hid (bts s = l) := ⟨_, rfl⟩
  rw [HB.out] at HL ⊢
  obtain ⟨ans, HA⟩ : ∃ ans, Hid (nt l stop f i [] = ans) := ⟨_, rfl⟩
  rw [HA.out]
  obtain ⟨i0, hi, hz0, hz1, hz2⟩ := info_parts info5
  have hb2 : i0.bytes * 16 ≤ 281474976710656 := by rw [hz2]; omega
  have hb3 : 16 ≤ maxLen := by unfold maxLen; omega
  go_enter Try.func12, Try.ntmps12
  go_wp2_with (at_make; refine wpList_make_own _ rfl _ _ 28 rfl w.heap.size 5 i0 (.int .u8 0) 1 Try.underlying28 hi hz0 hz1 .i64 .i64 _ 16 rfl rfl rfl hb2 hb3 (Nat.le_refl _) ?_; intro w1 hown1 hg1)
  have hS : Stk w w1 (.slice (some ⟨w.heap.size, 0, none⟩) 0 16) [] := ⟨hown1, (Below.refl _ _).grown hg1 (Nat.le_refl _) (by simp)⟩
  clear hown1 hg1
  go_loopw [1, 7] (fun i v wr => Inv w l stop ans i v wr) (fun i _ _ => s.size + 1 - (intOf i).toNat)
  case atStart => exact Inv.mk' rfl (by rw [HL.out]; exact hi0) (by rw [HL.out]; exact hf) (Nat.zero_le _) (by simp) hS HA.out
  case round =>
    clear hS hb2 hb3 hi0 hf HA
    obtain ⟨k, f, st, a, n, cap, rfl, rfl, hn, hk, hf, hsk, hok, hS, hnt⟩ := hrel
    rw [HL.out] at hk hf
    obtain ⟨f, rfl⟩ : ∃ f', f = f' + 1 := ⟨f - 1, by omega⟩
    by_cases hlt : k < s.size
    · have hgk := bts_get s k hlt
      have hcu := gt_u8 s k
      rw [HB.out] at hgk hcu
      obtain ⟨c, HC⟩ : ∃ c, Hid (gt l k = c) := ⟨_, rfl⟩
      rw [HC.out] at hgk hcu
      have hkl : k < l.length := by rw [HL.out]; exact hlt
      have HG : Hid (∀ k' st', nx l stop k st = .inr (k', st') → nt l stop f k' st' = ans) := fun k' st' h => by rw [← hnt, nt_go hkl h]
      have HR : Hid (∀ r, nx l stop k st = .inl r → r = ans) := fun r h => by rw [← hnt, nt_ret hkl h]
      have HK : Hid (k < l.length) := hkl
      have HO : Hid (∀ t ∈ st, okT t) := hok
      have hbase : ∀ o, w.heap.size ≤ (wr.alloc o).heap.size := fun o => by have := hS.2.size; simp; omega
      have h63 : n + 1 ≤ maxLen := by unfold maxLen; omega
      have h47 : (n + 1) * 1 ≤ 140737488355328 := by omega
      have hbel := hS.2
      have HS : Hid (Stk w wr (.slice a n cap) st) := hS
      have HN : Hid (st.length = n) := hn
      clear hnt hkl hok hn
      rcases nil_or_snoc st with rfl | ⟨ys, t, rfl⟩
      · obtain rfl : n = 0 := by rw [← HN.out]; rfl
        clear hS
        by_cases h0 : c = stop
        · have HF : Hid ((k : Int) = ans) := HR.out k (nx_stop rfl (by rw [HC.out]; exact h0))
          go_wp2
          go_ret
          exact ⟨ret_int HF.out, hbel⟩
        · have hb0 : (c == stop) = false := by simpa using h0
          have G1 : Hid (top [] ≠ 62) := by show _ ≠ _; decide
          have G2 : Hid (top [] ≠ 1) := by show _ ≠ _; decide
          have G3 : Hid (¬ (top [] = 0 ∧ gt l k = stop)) := fun h => h0 (by rw [← HC.out]; exact h.2)
          by_cases h34 : c = 34
          · have HC' : Hid (gt l k = 34) := by rw [HC.out]; exact h34
            have hse := SE_bounds l k
            rw [HL.out] at hse
            rcases hse with hse | ⟨hse1, hse2⟩
            · have HF : Hid (-1 = ans) := HR.out (-1) (nx_qno G1.out G2.out G3.out HC'.out hse)
              have HE : Hid (SE l k = -1) := hse
              clear hse
              go_wp2_with (go_at_call 13; refine (se_any s k _ hs hlt).mono ?_; rintro e w' ⟨rfl, rfl⟩; rw [HB.out, HE.out])
              go_ret
              exact ⟨ret_int HF.out, hbel⟩
            · obtain ⟨e, he⟩ : ∃ e : Nat, SE l k = e := ⟨(SE l k).toNat, by omega⟩
              have HE : Hid (SE l k = e) := he
              rw [he] at hse1 hse2
              have HF : Hid (nt l stop f (e + 1) ([]) = ans) := HG.out (e + 1) ([]) (nx_q G1.out G2.out G3.out HC'.out e he)
              clear he
              go_wp2_with (go_at_call 13; refine (se_any s k _ hs hlt).mono ?_; rintro e' w' ⟨rfl, rfl⟩; rw [HB.out, HE.out])
              go_roundw
              case rel => exact Inv.mk' (by omega) (by rw [HL.out]; omega) (by rw [HL.out]; omega) (by rw [HN.out]; omega) HO.out HS.out HF.out
              case measure => simp [intOf]; omega
          · by_cases h40 : c = 40
            · as_aux_lemma =>
                have HF : Hid (nt l stop f (k + 1) ([] ++ [41]) = ans) := HG.out (k + 1) ([] ++ [41]) (nx_40 G1.out G2.out G3.out (by rw [HC.out]; exact h40))
                have HW : wr.ownsRow w.heap.size 5 1 (.slice a (0) cap) (0) (List.map (Value.int .u8) ([])) := by have h1 := HS.out.1; rw [HN.out] at h1; exact h1
                go_wp2_with (at_builtin; refine wpList_append_own _ rfl (.tmp 80) (.tmp 81) 28 rfl w.heap.size 5 i0 (.int .u8 0) 1 1 Try.underlying28 hi hz0 hz1 hz2 rfl (by decide) _ (0) (List.map (Value.int .u8) ([])) rfl (HW.alloc _) ⟨wr.heap.size, 0, none⟩ 1 1 [.int .u8 41] rfl rfl (cell_one_new _ _ _) (one_u8 41) h63 h47 (hbase _) ?_; intro v' w1 hown' hgrow _)
                have HSn : Stk w w1 v' ([] ++ [41]) := HS.out.push (by rw [HN.out]; exact hown') hgrow
                clear hown' hgrow HW
                go_wp2
                go_roundw
                case rel => exact Inv.mk' (by omega) (by rw [HL.out]; omega) (by rw [HL.out]; omega) (len_snoc HN.out hsk) (ok_snoc HO.out (by unfold okT; omega)) HSn HF.out
                case measure => simp [intOf]; omega
            · by_cases h91 : c = 91
              · as_aux_lemma =>
                  have HF : Hid (nt l stop f (k + 1) ([] ++ [93]) = ans) := HG.out (k + 1) ([] ++ [93]) (nx_91 G1.out G2.out G3.out (by rw [HC.out]; exact h91))
                  have HW : wr.ownsRow w.heap.size 5 1 (.slice a (0) cap) (0) (List.map (Value.int .u8) ([])) := by have h1 := HS.out.1; rw [HN.out] at h1; exact h1
                  go_wp2_with (at_builtin; refine wpList_append_own _ rfl (.tmp 85) (.tmp 86) 28 rfl w.heap.size 5 i0 (.int .u8 0) 1 1 Try.underlying28 hi hz0 hz1 hz2 rfl (by decide) _ (0) (List.map (Value.int .u8) ([])) rfl (HW.alloc _) ⟨wr.heap.size, 0, none⟩ 1 1 [.int .u8 93] rfl rfl (cell_one_new _ _ _) (one_u8 93) h63 h47 (hbase _) ?_; intro v' w1 hown' hgrow _)
                  have HSn : Stk w w1 v' ([] ++ [93]) := HS.out.push (by rw [HN.out]; exact hown') hgrow
                  clear hown' hgrow HW
                  go_wp2
                  go_roundw
                  case rel => exact Inv.mk' (by omega) (by rw [HL.out]; omega) (by rw [HL.out]; omega) (len_snoc HN.out hsk) (ok_snoc HO.out (by unfold okT; omega)) HSn HF.out
                  case measure => simp [intOf]; omega
              · by_cases h123 : c = 123
                · as_aux_lemma =>
                    have HF : Hid (nt l stop f (k + 1) ([] ++ [125]) = ans) := HG.out (k + 1) ([] ++ [125]) (nx_123 G1.out G2.out G3.out (by rw [HC.out]; exact h123))
                    have HW : wr.ownsRow w.heap.size 5 1 (.slice a (0) cap) (0) (List.map (Value.int .u8) ([])) := by have h1 := HS.out.1; rw [HN.out] at h1; exact h1
                    go_wp2_with (at_builtin; refine wpList_append_own _ rfl (.tmp 90) (.tmp 91) 28 rfl w.heap.size 5 i0 (.int .u8 0) 1 1 Try.underlying28 hi hz0 hz1 hz2 rfl (by decide) _ (0) (List.map (Value.int .u8) ([])) rfl (HW.alloc _) ⟨wr.heap.size, 0, none⟩ 1 1 [.int .u8 125] rfl rfl (cell_one_new _ _ _) (one_u8 125) h63 h47 (hbase _) ?_; intro v' w1 hown' hgrow _)
                    have HSn : Stk w w1 v' ([] ++ [125]) := HS.out.push (by rw [HN.out]; exact hown') hgrow
                    clear hown' hgrow HW
                    go_wp2
                    go_roundw
                    case rel => exact Inv.mk' (by omega) (by rw [HL.out]; omega) (by rw [HL.out]; omega) (len_snoc HN.out hsk) (ok_snoc HO.out (by unfold okT; omega)) HSn HF.out
                    case measure => simp [intOf]; omega
                · by_cases h60 : c = 60
                  · have HC' : Hid (gt l k = 60) := by rw [HC.out]; exact h60
                    by_cases hk0 : 0 < k
                    · have hkp : k - 1 < s.size := by omega
                      have hgp := bts_get s (k - 1) hkp
                      rw [HB.out] at hgp
                      obtain ⟨p, HPp⟩ : ∃ p, Hid (gt l (k - 1) = p) := ⟨_, rfl⟩
                      rw [HPp.out] at hgp
                      by_cases hal : alB p = true
                      · by_cases hk1 : k + 1 < s.size
                        · have hgn := bts_get s (k + 1) hk1
                          rw [HB.out] at hgn
                          obtain ⟨d, HDd⟩ : ∃ d, Hid (gt l (k + 1) = d) := ⟨_, rfl⟩
                          rw [HDd.out] at hgn
                          by_cases hd60 : d = 60
                          · as_aux_lemma =>
                              have HF : Hid (nt l stop f (k + 1) ([]) = ans) := HG.out (k + 1) ([]) (nx_60n G1.out G2.out G3.out HC'.out (fun h => by have h' := of_decide_eq_true h; rw [HDd.out] at h'; omega))
                              go_wp2_with (go_at_call 14; refine (al_yes _ _ hal).mono ?_; rintro e w' ⟨rfl, rfl⟩)
                              go_roundw
                              case rel => exact Inv.mk' (by omega) (by rw [HL.out]; omega) (by rw [HL.out]; omega) (by rw [HN.out]; omega) HO.out HS.out HF.out
                              case measure => simp [intOf]; omega
                          · by_cases hd32 : d = 32
                            · as_aux_lemma =>
                                have HF : Hid (nt l stop f (k + 1) ([]) = ans) := HG.out (k + 1) ([]) (nx_60n G1.out G2.out G3.out HC'.out (fun h => by have h' := of_decide_eq_true h; rw [HDd.out] at h'; omega))
                                go_wp2_with (go_at_call 14; refine (al_yes _ _ hal).mono ?_; rintro e w' ⟨rfl, rfl⟩)
                                go_roundw
                                case rel => exact Inv.mk' (by omega) (by rw [HL.out]; omega) (by rw [HL.out]; omega) (by rw [HN.out]; omega) HO.out HS.out HF.out
                                case measure => simp [intOf]; omega
                            · have bd60 : (d != 60) = true := by simpa using hd60
                              have bd32 : (d != 32) = true := by simpa using hd32
                              as_aux_lemma =>
                                have HF : Hid (nt l stop f (k + 1) ([] ++ [62]) = ans) := HG.out (k + 1) ([] ++ [62]) (nx_60y G1.out G2.out G3.out HC'.out (decide_eq_true ⟨hk0, by rw [HPp.out]; exact hal, by rw [HL.out]; exact hk1, by rw [HDd.out]; exact hd60, by rw [HDd.out]; exact hd32⟩))
                                have HW : wr.ownsRow w.heap.size 5 1 (.slice a (0) cap) (0) (List.map (Value.int .u8) ([])) := by have h1 := HS.out.1; rw [HN.out] at h1; exact h1
                                go_wp2_with (first | (at_builtin; refine wpList_append_own _ rfl (.tmp 125) (.tmp 126) 28 rfl w.heap.size 5 i0 (.int .u8 0) 1 1 Try.underlying28 hi hz0 hz1 hz2 rfl (by decide) _ (0) (List.map (Value.int .u8) ([])) rfl (HW.alloc _) ⟨wr.heap.size, 0, none⟩ 1 1 [.int .u8 62] rfl rfl (cell_one_new _ _ _) (one_u8 62) h63 h47 (hbase _) ?_; intro v' w1 hown' hgrow _) | (go_at_call 14; refine (al_yes _ _ hal).mono ?_; rintro e w' ⟨rfl, rfl⟩))
                                have HSn : Stk w w1 v' ([] ++ [62]) := HS.out.push (by rw [HN.out]; exact hown') hgrow
                                clear hown' hgrow HW
                                go_wp2
                                go_roundw
                                case rel => exact Inv.mk' (by omega) (by rw [HL.out]; omega) (by rw [HL.out]; omega) (len_snoc HN.out hsk) (ok_snoc HO.out (by unfold okT; omega)) HSn HF.out
                                case measure => simp [intOf]; omega
                        · as_aux_lemma =>
                            have HF : Hid (nt l stop f (k + 1) ([]) = ans) := HG.out (k + 1) ([]) (nx_60n G1.out G2.out G3.out HC'.out (fun h => by have h' := of_decide_eq_true h; rw [HL.out] at h'; omega))
                            go_wp2_with (go_at_call 14; refine (al_yes _ _ hal).mono ?_; rintro e w' ⟨rfl, rfl⟩)
                            go_roundw
                            case rel => exact Inv.mk' (by omega) (by rw [HL.out]; omega) (by rw [HL.out]; omega) (by rw [HN.out]; omega) HO.out HS.out HF.out
                            case measure => simp [intOf]; omega
                      · have halb : alB p = false := by simpa using hal
                        as_aux_lemma =>
                          have HF : Hid (nt l stop f (k + 1) ([]) = ans) := HG.out (k + 1) ([]) (nx_60n G1.out G2.out G3.out HC'.out (fun h => by have h' := of_decide_eq_true h; rw [HPp.out] at h'; exact hal h'.2.1))
                          go_wp2_with (go_at_call 14; refine (al_no _ _ halb).mono ?_; rintro e w' ⟨rfl, rfl⟩)
                          go_roundw
                          case rel => exact Inv.mk' (by omega) (by rw [HL.out]; omega) (by rw [HL.out]; omega) (by rw [HN.out]; omega) HO.out HS.out HF.out
                          case measure => simp [intOf]; omega
                    · have hdk : decide ((0 : Int) < (k : Int)) = false := by simp; omega
                      as_aux_lemma =>
                        have HF : Hid (nt l stop f (k + 1) ([]) = ans) := HG.out (k + 1) ([]) (nx_60n G1.out G2.out G3.out HC'.out (fun h => by have h' := of_decide_eq_true h; omega))
                        go_wp2
                        go_roundw
                        case rel => exact Inv.mk' (by omega) (by rw [HL.out]; omega) (by rw [HL.out]; omega) (by rw [HN.out]; omega) HO.out HS.out HF.out
                        case measure => simp [intOf]; omega
                  · by_cases h41 : c = 41
                    · as_aux_lemma =>
                        have HF : Hid (nt l stop f (k + 1) ([]) = ans) := HG.out (k + 1) ([]) (nx_closen G1.out G2.out G3.out (by rw [HC.out]; omega) (by rw [HC.out]; simp [top]; omega))
                        go_wp2
                        go_roundw
                        case rel => exact Inv.mk' (by omega) (by rw [HL.out]; omega) (by rw [HL.out]; omega) (by rw [HN.out]; omega) HO.out HS.out HF.out
                        case measure => simp [intOf]; omega
                    · by_cases h93 : c = 93
                      · as_aux_lemma =>
                          have HF : Hid (nt l stop f (k + 1) ([]) = ans) := HG.out (k + 1) ([]) (nx_closen G1.out G2.out G3.out (by rw [HC.out]; omega) (by rw [HC.out]; simp [top]; omega))
                          go_wp2
                          go_roundw
                          case rel => exact Inv.mk' (by omega) (by rw [HL.out]; omega) (by rw [HL.out]; omega) (by rw [HN.out]; omega) HO.out HS.out HF.out
                          case measure => simp [intOf]; omega
                      · by_cases h125 : c = 125
                        · as_aux_lemma =>
                            have HF : Hid (nt l stop f (k + 1) ([]) = ans) := HG.out (k + 1) ([]) (nx_closen G1.out G2.out G3.out (by rw [HC.out]; omega) (by rw [HC.out]; simp [top]; omega))
                            go_wp2
                            go_roundw
                            case rel => exact Inv.mk' (by omega) (by rw [HL.out]; omega) (by rw [HL.out]; omega) (by rw [HN.out]; omega) HO.out HS.out HF.out
                            case measure => simp [intOf]; omega
                        · have b34 : (c == 34) = false := by simpa using h34
                          have b40 : (c == 40) = false := by simpa using h40
                          have b91 : (c == 91) = false := by simpa using h91
                          have b123 : (c == 123) = false := by simpa using h123
                          have b60 : (c == 60) = false := by simpa using h60
                          have b41 : (c == 41) = false := by simpa using h41
                          have b93 : (c == 93) = false := by simpa using h93
                          have b125 : (c == 125) = false := by simpa using h125
                          as_aux_lemma =>
                            have HF : Hid (nt l stop f (k + 1) ([]) = ans) := HG.out (k + 1) ([]) (nx_else G1.out G2.out G3.out (by rw [HC.out]; exact h34) (by rw [HC.out]; exact h40) (by rw [HC.out]; exact h91) (by rw [HC.out]; exact h123) (by rw [HC.out]; exact h60) (by rw [HC.out]; exact h41) (by rw [HC.out]; exact h93) (by rw [HC.out]; exact h125))
                            go_wp2
                            go_roundw
                            case rel => exact Inv.mk' (by omega) (by rw [HL.out]; omega) (by rw [HL.out]; omega) (by rw [HN.out]; omega) HO.out HS.out HF.out
                            case measure => simp [intOf]; omega
      · obtain ⟨m, rfl⟩ : ∃ m, n = m + 1 := ⟨n - 1, by have := HN.out; simp at this; omega⟩
        have HY : Hid (ys.length = m) := by have := HN.out; simp at this; exact this
        obtain ⟨g, hga, hmc⟩ : ∃ g, a = some ⟨g, 0, none⟩ ∧ m + 1 ≤ cap := by
          obtain ⟨a', cap', hv, h2⟩ := hS.shape
          obtain ⟨g, h3, h4⟩ := h2 ys t rfl
          simp only [Value.slice.injEq] at hv
          rw [HY.out] at h4
          exact ⟨g, by rw [hv.1]; exact h3, by rw [hv.2.2]; exact h4⟩
        subst hga
        have hcell : wr.cell? ⟨g, m, none⟩ = some (.int .u8 t) := by
          have h1 := HS.out
          rw [← HY.out] at h1 ⊢
          exact h1.topCell
        have HP : Hid (Stk w wr (.slice (some ⟨g, 0, none⟩) m cap) ys) := by
          have h1 := HS.out
          rw [← HY.out] at h1 ⊢
          exact h1.pop
        have HT : Hid (top (ys ++ [t]) = t) := top_snoc ys t
        have HD : Hid ((ys ++ [t]).dropLast = ys) := by show _ = _; simp
        have HOy : Hid (∀ t ∈ ys, okT t) := fun x hx => HO.out x (List.mem_append_left _ hx)
        have hot : okT t := HO.out t (by simp)
        clear hS
        unfold okT at hot
        rcases hot with rfl | rfl | hot
        · by_cases h62 : c = 62
          · as_aux_lemma =>
              have HF : Hid (nt l stop f (k + 1) ys = ans) := HG.out (k + 1) ys (by rw [nx_62pop HT.out (by rw [HC.out]; exact h62), HD.out])
              go_wp2
              go_roundw
              case rel => exact Inv.mk' (by omega) (by rw [HL.out]; omega) (by rw [HL.out]; omega) (by rw [HY.out]; omega) HOy.out HP.out HF.out
              case measure => simp [intOf]; omega
          · have b62 : (c == 62) = false := by simpa using h62
            by_cases h91 : c = 91
            · have hkp : k - 1 < s.size := by omega
              have hgp := bts_get s (k - 1) hkp
              rw [HB.out] at hgp
              obtain ⟨p, HPp⟩ : ∃ p, Hid (gt l (k - 1) = p) := ⟨_, rfl⟩
              rw [HPp.out] at hgp
              by_cases hp : p = 58
              · as_aux_lemma =>
                  have HF : Hid (nt l stop f (k + 1) (ys ++ [62] ++ [1]) = ans) := HG.out (k + 1) (ys ++ [62] ++ [1]) (nx_62push HT.out (by rw [HC.out]; exact h91) (by rw [HPp.out]; exact hp))
                  have HW : wr.ownsRow w.heap.size 5 1 (.slice (some ⟨g, 0, none⟩) (m + 1) cap) (m + 1) (List.map (Value.int .u8) (ys ++ [62])) := by have h1 := HS.out.1; rw [HN.out] at h1; exact h1
                  go_wp2_with (at_builtin; refine wpList_append_own _ rfl (.tmp 50) (.tmp 51) 28 rfl w.heap.size 5 i0 (.int .u8 0) 1 1 Try.underlying28 hi hz0 hz1 hz2 rfl (by decide) _ (m + 1) (List.map (Value.int .u8) (ys ++ [62])) rfl (HW.alloc _) ⟨wr.heap.size, 0, none⟩ 1 1 [.int .u8 1] rfl rfl (cell_one_new _ _ _) (one_u8 1) h63 h47 (hbase _) ?_; intro v' w1 hown' hgrow _)
                  have HSn : Stk w w1 v' (ys ++ [62] ++ [1]) := HS.out.push (by rw [HN.out]; exact hown') hgrow
                  clear hown' hgrow HW
                  go_wp2
                  go_roundw
                  case rel => exact Inv.mk' (by omega) (by rw [HL.out]; omega) (by rw [HL.out]; omega) (len_snoc HN.out hsk) (ok_snoc HO.out (by unfold okT; omega)) HSn HF.out
                  case measure => simp [intOf]; omega
              · have bp : (p == 58) = false := by simpa using hp
                as_aux_lemma =>
                  have HF : Hid (nt l stop f (k + 1) (ys ++ [62]) = ans) := HG.out (k + 1) (ys ++ [62]) (nx_62else HT.out (by rw [HC.out]; exact h62) (fun h => hp (by rw [← HPp.out]; exact h.2)))
                  go_wp2
                  go_roundw
                  case rel => exact Inv.mk' (by omega) (by rw [HL.out]; omega) (by rw [HL.out]; omega) (by rw [HN.out]; omega) HO.out HS.out HF.out
                  case measure => simp [intOf]; omega
            · have b91 : (c == 91) = false := by simpa using h91
              as_aux_lemma =>
                have HF : Hid (nt l stop f (k + 1) (ys ++ [62]) = ans) := HG.out (k + 1) (ys ++ [62]) (nx_62else HT.out (by rw [HC.out]; exact h62) (fun h => h91 (by rw [← HC.out]; exact h.1)))
                go_wp2
                go_roundw
                case rel => exact Inv.mk' (by omega) (by rw [HL.out]; omega) (by rw [HL.out]; omega) (by rw [HN.out]; omega) HO.out HS.out HF.out
                case measure => simp [intOf]; omega
        · by_cases h93 : c = 93
          · as_aux_lemma =>
              have HF : Hid (nt l stop f (k + 1) ys = ans) := HG.out (k + 1) ys (by rw [nx_1pop HT.out (by rw [HC.out]; exact h93), HD.out])
              go_wp2
              go_roundw
              case rel => exact Inv.mk' (by omega) (by rw [HL.out]; omega) (by rw [HL.out]; omega) (by rw [HY.out]; omega) HOy.out HP.out HF.out
              case measure => simp [intOf]; omega
          · have b93 : (c == 93) = false := by simpa using h93
            as_aux_lemma =>
              have HF : Hid (nt l stop f (k + 1) (ys ++ [1]) = ans) := HG.out (k + 1) (ys ++ [1]) (nx_1else HT.out (by rw [HC.out]; exact h93))
              go_wp2
              go_roundw
              case rel => exact Inv.mk' (by omega) (by rw [HL.out]; omega) (by rw [HL.out]; omega) (by rw [HN.out]; omega) HO.out HS.out HF.out
              case measure => simp [intOf]; omega
        · have bt62 : (t == 62) = false := by simp; omega
          have bt1 : (t == 1) = false := by simp; omega
          have bt0 : (t == 0) = false := by simp; omega
          have G1 : Hid (top (ys ++ [t]) ≠ 62) := by rw [HT.out]; show _ ≠ _; omega
          have G2 : Hid (top (ys ++ [t]) ≠ 1) := by rw [HT.out]; show _ ≠ _; omega
          have G3 : Hid (¬ (top (ys ++ [t]) = 0 ∧ gt l k = stop)) := fun h => by rw [HT.out] at h; omega
          by_cases h34 : c = 34
          · have HC' : Hid (gt l k = 34) := by rw [HC.out]; exact h34
            have hse := SE_bounds l k
            rw [HL.out] at hse
            rcases hse with hse | ⟨hse1, hse2⟩
            · have HF : Hid (-1 = ans) := HR.out (-1) (nx_qno G1.out G2.out G3.out HC'.out hse)
              have HE : Hid (SE l k = -1) := hse
              clear hse
              go_wp2_with (go_at_call 13; refine (se_any s k _ hs hlt).mono ?_; rintro e w' ⟨rfl, rfl⟩; rw [HB.out, HE.out])
              go_ret
              exact ⟨ret_int HF.out, hbel⟩
            · obtain ⟨e, he⟩ : ∃ e : Nat, SE l k = e := ⟨(SE l k).toNat, by omega⟩
              have HE : Hid (SE l k = e) := he
              rw [he] at hse1 hse2
              have HF : Hid (nt l stop f (e + 1) (ys ++ [t]) = ans) := HG.out (e + 1) (ys ++ [t]) (nx_q G1.out G2.out G3.out HC'.out e he)
              clear he
              go_wp2_with (go_at_call 13; refine (se_any s k _ hs hlt).mono ?_; rintro e' w' ⟨rfl, rfl⟩; rw [HB.out, HE.out])
              go_roundw
              case rel => exact Inv.mk' (by omega) (by rw [HL.out]; omega) (by rw [HL.out]; omega) (by rw [HN.out]; omega) HO.out HS.out HF.out
              case measure => simp [intOf]; omega
          · by_cases h40 : c = 40
            · as_aux_lemma =>
                have HF : Hid (nt l stop f (k + 1) (ys ++ [t] ++ [41]) = ans) := HG.out (k + 1) (ys ++ [t] ++ [41]) (nx_40 G1.out G2.out G3.out (by rw [HC.out]; exact h40))
                have HW : wr.ownsRow w.heap.size 5 1 (.slice (some ⟨g, 0, none⟩) (m + 1) cap) (m + 1) (List.map (Value.int .u8) (ys ++ [t])) := by have h1 := HS.out.1; rw [HN.out] at h1; exact h1
                go_wp2_with (at_builtin; refine wpList_append_own _ rfl (.tmp 80) (.tmp 81) 28 rfl w.heap.size 5 i0 (.int .u8 0) 1 1 Try.underlying28 hi hz0 hz1 hz2 rfl (by decide) _ (m + 1) (List.map (Value.int .u8) (ys ++ [t])) rfl (HW.alloc _) ⟨wr.heap.size, 0, none⟩ 1 1 [.int .u8 41] rfl rfl (cell_one_new _ _ _) (one_u8 41) h63 h47 (hbase _) ?_; intro v' w1 hown' hgrow _)
                have HSn : Stk w w1 v' (ys ++ [t] ++ [41]) := HS.out.push (by rw [HN.out]; exact hown') hgrow
                clear hown' hgrow HW
                go_wp2
                go_roundw
                case rel => exact Inv.mk' (by omega) (by rw [HL.out]; omega) (by rw [HL.out]; omega) (len_snoc HN.out hsk) (ok_snoc HO.out (by unfold okT; omega)) HSn HF.out
                case measure => simp [intOf]; omega
            · by_cases h91 : c = 91
              · as_aux_lemma =>
                  have HF : Hid (nt l stop f (k + 1) (ys ++ [t] ++ [93]) = ans) := HG.out (k + 1) (ys ++ [t] ++ [93]) (nx_91 G1.out G2.out G3.out (by rw [HC.out]; exact h91))
                  have HW : wr.ownsRow w.heap.size 5 1 (.slice (some ⟨g, 0, none⟩) (m + 1) cap) (m + 1) (List.map (Value.int .u8) (ys ++ [t])) := by have h1 := HS.out.1; rw [HN.out] at h1; exact h1
                  go_wp2_with (at_builtin; refine wpList_append_own _ rfl (.tmp 85) (.tmp 86) 28 rfl w.heap.size 5 i0 (.int .u8 0) 1 1 Try.underlying28 hi hz0 hz1 hz2 rfl (by decide) _ (m + 1) (List.map (Value.int .u8) (ys ++ [t])) rfl (HW.alloc _) ⟨wr.heap.size, 0, none⟩ 1 1 [.int .u8 93] rfl rfl (cell_one_new _ _ _) (one_u8 93) h63 h47 (hbase _) ?_; intro v' w1 hown' hgrow _)
                  have HSn : Stk w w1 v' (ys ++ [t] ++ [93]) := HS.out.push (by rw [HN.out]; exact hown') hgrow
                  clear hown' hgrow HW
                  go_wp2
                  go_roundw
                  case rel => exact Inv.mk' (by omega) (by rw [HL.out]; omega) (by rw [HL.out]; omega) (len_snoc HN.out hsk) (ok_snoc HO.out (by unfold okT; omega)) HSn HF.out
                  case measure => simp [intOf]; omega
              · by_cases h123 : c = 123
                · as_aux_lemma =>
                    have HF : Hid (nt l stop f (k + 1) (ys ++ [t] ++ [125]) = ans) := HG.out (k + 1) (ys ++ [t] ++ [125]) (nx_123 G1.out G2.out G3.out (by rw [HC.out]; exact h123))
                    have HW : wr.ownsRow w.heap.size 5 1 (.slice (some ⟨g, 0, none⟩) (m + 1) cap) (m + 1) (List.map (Value.int .u8) (ys ++ [t])) := by have h1 := HS.out.1; rw [HN.out] at h1; exact h1
                    go_wp2_with (at_builtin; refine wpList_append_own _ rfl (.tmp 90) (.tmp 91) 28 rfl w.heap.size 5 i0 (.int .u8 0) 1 1 Try.underlying28 hi hz0 hz1 hz2 rfl (by decide) _ (m + 1) (List.map (Value.int .u8) (ys ++ [t])) rfl (HW.alloc _) ⟨wr.heap.size, 0, none⟩ 1 1 [.int .u8 125] rfl rfl (cell_one_new _ _ _) (one_u8 125) h63 h47 (hbase _) ?_; intro v' w1 hown' hgrow _)
                    have HSn : Stk w w1 v' (ys ++ [t] ++ [125]) := HS.out.push (by rw [HN.out]; exact hown') hgrow
                    clear hown' hgrow HW
                    go_wp2
                    go_roundw
                    case rel => exact Inv.mk' (by omega) (by rw [HL.out]; omega) (by rw [HL.out]; omega) (len_snoc HN.out hsk) (ok_snoc HO.out (by unfold okT; omega)) HSn HF.out
                    case measure => simp [intOf]; omega
                · by_cases h60 : c = 60
                  · have HC' : Hid (gt l k = 60) := by rw [HC.out]; exact h60
                    by_cases hk0 : 0 < k
                    · have hkp : k - 1 < s.size := by omega
                      have hgp := bts_get s (k - 1) hkp
                      rw [HB.out] at hgp
                      obtain ⟨p, HPp⟩ : ∃ p, Hid (gt l (k - 1) = p) := ⟨_, rfl⟩
                      rw [HPp.out] at hgp
                      by_cases hal : alB p = true
                      · by_cases hk1 : k + 1 < s.size
                        · have hgn := bts_get s (k + 1) hk1
                          rw [HB.out] at hgn
                          obtain ⟨d, HDd⟩ : ∃ d, Hid (gt l (k + 1) = d) := ⟨_, rfl⟩
                          rw [HDd.out] at hgn
                          by_cases hd60 : d = 60
                          · as_aux_lemma =>
                              have HF : Hid (nt l stop f (k + 1) (ys ++ [t]) = ans) := HG.out (k + 1) (ys ++ [t]) (nx_60n G1.out G2.out G3.out HC'.out (fun h => by have h' := of_decide_eq_true h; rw [HDd.out] at h'; omega))
                              go_wp2_with (go_at_call 14; refine (al_yes _ _ hal).mono ?_; rintro e w' ⟨rfl, rfl⟩)
                              go_roundw
                              case rel => exact Inv.mk' (by omega) (by rw [HL.out]; omega) (by rw [HL.out]; omega) (by rw [HN.out]; omega) HO.out HS.out HF.out
                              case measure => simp [intOf]; omega
                          · by_cases hd32 : d = 32
                            · as_aux_lemma =>
                                have HF : Hid (nt l stop f (k + 1) (ys ++ [t]) = ans) := HG.out (k + 1) (ys ++ [t]) (nx_60n G1.out G2.out G3.out HC'.out (fun h => by have h' := of_decide_eq_true h; rw [HDd.out] at h'; omega))
                                go_wp2_with (go_at_call 14; refine (al_yes _ _ hal).mono ?_; rintro e w' ⟨rfl, rfl⟩)
                                go_roundw
                                case rel => exact Inv.mk' (by omega) (by rw [HL.out]; omega) (by rw [HL.out]; omega) (by rw [HN.out]; omega) HO.out HS.out HF.out
                                case measure => simp [intOf]; omega
                            · have bd60 : (d != 60) = true := by simpa using hd60
                              have bd32 : (d != 32) = true := by simpa using hd32
                              as_aux_lemma =>
                                have HF : Hid (nt l stop f (k + 1) (ys ++ [t] ++ [62]) = ans) := HG.out (k + 1) (ys ++ [t] ++ [62]) (nx_60y G1.out G2.out G3.out HC'.out (decide_eq_true ⟨hk0, by rw [HPp.out]; exact hal, by rw [HL.out]; exact hk1, by rw [HDd.out]; exact hd60, by rw [HDd.out]; exact hd32⟩))
                                have HW : wr.ownsRow w.heap.size 5 1 (.slice (some ⟨g, 0, none⟩) (m + 1) cap) (m + 1) (List.map (Value.int .u8) (ys ++ [t])) := by have h1 := HS.out.1; rw [HN.out] at h1; exact h1
                                go_wp2_with (first | (at_builtin; refine wpList_append_own _ rfl (.tmp 125) (.tmp 126) 28 rfl w.heap.size 5 i0 (.int .u8 0) 1 1 Try.underlying28 hi hz0 hz1 hz2 rfl (by decide) _ (m + 1) (List.map (Value.int .u8) (ys ++ [t])) rfl (HW.alloc _) ⟨wr.heap.size, 0, none⟩ 1 1 [.int .u8 62] rfl rfl (cell_one_new _ _ _) (one_u8 62) h63 h47 (hbase _) ?_; intro v' w1 hown' hgrow _) | (go_at_call 14; refine (al_yes _ _ hal).mono ?_; rintro e w' ⟨rfl, rfl⟩))
                                have HSn : Stk w w1 v' (ys ++ [t] ++ [62]) := HS.out.push (by rw [HN.out]; exact hown') hgrow
                                clear hown' hgrow HW
                                go_wp2
                                go_roundw
                                case rel => exact Inv.mk' (by omega) (by rw [HL.out]; omega) (by rw [HL.out]; omega) (len_snoc HN.out hsk) (ok_snoc HO.out (by unfold okT; omega)) HSn HF.out
                                case measure => simp [intOf]; omega
                        · as_aux_lemma =>
                            have HF : Hid (nt l stop f (k + 1) (ys ++ [t]) = ans) := HG.out (k + 1) (ys ++ [t]) (nx_60n G1.out G2.out G3.out HC'.out (fun h => by have h' := of_decide_eq_true h; rw [HL.out] at h'; omega))
                            go_wp2_with (go_at_call 14; refine (al_yes _ _ hal).mono ?_; rintro e w' ⟨rfl, rfl⟩)
                            go_roundw
                            case rel => exact Inv.mk' (by omega) (by rw [HL.out]; omega) (by rw [HL.out]; omega) (by rw [HN.out]; omega) HO.out HS.out HF.out
                            case measure => simp [intOf]; omega
                      · have halb : alB p = false := by simpa using hal
                        as_aux_lemma =>
                          have HF : Hid (nt l stop f (k + 1) (ys ++ [t]) = ans) := HG.out (k + 1) (ys ++ [t]) (nx_60n G1.out G2.out G3.out HC'.out (fun h => by have h' := of_decide_eq_true h; rw [HPp.out] at h'; exact hal h'.2.1))
                          go_wp2_with (go_at_call 14; refine (al_no _ _ halb).mono ?_; rintro e w' ⟨rfl, rfl⟩)
                          go_roundw
                          case rel => exact Inv.mk' (by omega) (by rw [HL.out]; omega) (by rw [HL.out]; omega) (by rw [HN.out]; omega) HO.out HS.out HF.out
                          case measure => simp [intOf]; omega
                    · have hdk : decide ((0 : Int) < (k : Int)) = false := by simp; omega
                      as_aux_lemma =>
                        have HF : Hid (nt l stop f (k + 1) (ys ++ [t]) = ans) := HG.out (k + 1) (ys ++ [t]) (nx_60n G1.out G2.out G3.out HC'.out (fun h => by have h' := of_decide_eq_true h; omega))
                        go_wp2
                        go_roundw
                        case rel => exact Inv.mk' (by omega) (by rw [HL.out]; omega) (by rw [HL.out]; omega) (by rw [HN.out]; omega) HO.out HS.out HF.out
                        case measure => simp [intOf]; omega
                  · by_cases h41 : c = 41
                    · by_cases ht : t = 41
                      · as_aux_lemma =>
                          have HF : Hid (nt l stop f (k + 1) ys = ans) := HG.out (k + 1) ys (by rw [nx_close G1.out G2.out G3.out (by rw [HC.out]; omega) (by rw [HC.out, HT.out]; omega), HD.out])
                          go_wp2
                          go_roundw
                          case rel => exact Inv.mk' (by omega) (by rw [HL.out]; omega) (by rw [HL.out]; omega) (by rw [HY.out]; omega) HOy.out HP.out HF.out
                          case measure => simp [intOf]; omega
                      · have htb : (t == 41) = false := by simpa using ht
                        as_aux_lemma =>
                          have HF : Hid (nt l stop f (k + 1) (ys ++ [t]) = ans) := HG.out (k + 1) (ys ++ [t]) (nx_closen G1.out G2.out G3.out (by rw [HC.out]; omega) (by rw [HC.out, HT.out]; omega))
                          go_wp2
                          go_roundw
                          case rel => exact Inv.mk' (by omega) (by rw [HL.out]; omega) (by rw [HL.out]; omega) (by rw [HN.out]; omega) HO.out HS.out HF.out
                          case measure => simp [intOf]; omega
                    · by_cases h93 : c = 93
                      · by_cases ht : t = 93
                        · as_aux_lemma =>
                            have HF : Hid (nt l stop f (k + 1) ys = ans) := HG.out (k + 1) ys (by rw [nx_close G1.out G2.out G3.out (by rw [HC.out]; omega) (by rw [HC.out, HT.out]; omega), HD.out])
                            go_wp2
                            go_roundw
                            case rel => exact Inv.mk' (by omega) (by rw [HL.out]; omega) (by rw [HL.out]; omega) (by rw [HY.out]; omega) HOy.out HP.out HF.out
                            case measure => simp [intOf]; omega
                        · have htb : (t == 93) = false := by simpa using ht
                          as_aux_lemma =>
                            have HF : Hid (nt l stop f (k + 1) (ys ++ [t]) = ans) := HG.out (k + 1) (ys ++ [t]) (nx_closen G1.out G2.out G3.out (by rw [HC.out]; omega) (by rw [HC.out, HT.out]; omega))
                            go_wp2
                            go_roundw
                            case rel => exact Inv.mk' (by omega) (by rw [HL.out]; omega) (by rw [HL.out]; omega) (by rw [HN.out]; omega) HO.out HS.out HF.out
                            case measure => simp [intOf]; omega
                      · by_cases h125 : c = 125
                        · by_cases ht : t = 125
                          · as_aux_lemma =>
                              have HF : Hid (nt l stop f (k + 1) ys = ans) := HG.out (k + 1) ys (by rw [nx_close G1.out G2.out G3.out (by rw [HC.out]; omega) (by rw [HC.out, HT.out]; omega), HD.out])
                              go_wp2
                              go_roundw
                              case rel => exact Inv.mk' (by omega) (by rw [HL.out]; omega) (by rw [HL.out]; omega) (by rw [HY.out]; omega) HOy.out HP.out HF.out
                              case measure => simp [intOf]; omega
                          · have htb : (t == 125) = false := by simpa using ht
                            as_aux_lemma =>
                              have HF : Hid (nt l stop f (k + 1) (ys ++ [t]) = ans) := HG.out (k + 1) (ys ++ [t]) (nx_closen G1.out G2.out G3.out (by rw [HC.out]; omega) (by rw [HC.out, HT.out]; omega))
                              go_wp2
                              go_roundw
                              case rel => exact Inv.mk' (by omega) (by rw [HL.out]; omega) (by rw [HL.out]; omega) (by rw [HN.out]; omega) HO.out HS.out HF.out
                              case measure => simp [intOf]; omega
                        · have b34 : (c == 34) = false := by simpa using h34
                          have b40 : (c == 40) = false := by simpa using h40
                          have b91 : (c == 91) = false := by simpa using h91
                          have b123 : (c == 123) = false := by simpa using h123
                          have b60 : (c == 60) = false := by simpa using h60
                          have b41 : (c == 41) = false := by simpa using h41
                          have b93 : (c == 93) = false := by simpa using h93
                          have b125 : (c == 125) = false := by simpa using h125
                          as_aux_lemma =>
                            have HF : Hid (nt l stop f (k + 1) (ys ++ [t]) = ans) := HG.out (k + 1) (ys ++ [t]) (nx_else G1.out G2.out G3.out (by rw [HC.out]; exact h34) (by rw [HC.out]; exact h40) (by rw [HC.out]; exact h91) (by rw [HC.out]; exact h123) (by rw [HC.out]; exact h60) (by rw [HC.out]; exact h41) (by rw [HC.out]; exact h93) (by rw [HC.out]; exact h125))
                            go_wp2
                            go_roundw
                            case rel => exact Inv.mk' (by omega) (by rw [HL.out]; omega) (by rw [HL.out]; omega) (by rw [HN.out]; omega) HO.out HS.out HF.out
                            case measure => simp [intOf]; omega
    · have HF : Hid (-1 = ans) := by rw [← hnt, nt_out (by rw [HL.out]; exact hlt)]; rfl
      have hbel := hS.2
      clear hnt hok hS
      go_wp2
      go_ret
      exact ⟨ret_int HF.out, hbel⟩

end Go.Proofs.Qxb6000809a
