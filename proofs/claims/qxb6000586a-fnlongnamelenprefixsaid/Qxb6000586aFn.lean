/-
  THE WALK OF 'FnLongNameLenPrefix'.
-/
import Derived.Test.Qxb6000586aWalk
import Derived.WalkSpells
import Derived.Laws.CopyOwn
namespace Go.Proofs.Qxb6000586a
open Go.RowKit
open Plain

theorem zz_any (b off len cap : Nat) (zs : List Int) (w : World) (hlc : len ≤ cap) (hlen : len ≤ 1048576) (hz : zs.length = len) (hu : U8 zs)
    (hc : ∀ i, i < len → w.cell? ⟨b, off + i, none⟩ = some (.int .u8 (zs.getD i 0))) :
    Calls Try.prog 15 #[.slice (some ⟨b, off, none⟩) len cap] w fun e w' => e = .returned (.int .i64 (lnl zs)) ∧ w = w' := by
  have H := long_any b off len cap zs w hlc hlen hz hu hc
  clear hz hu hc hlc hlen
  go_enter Try.func15, Try.ntmps15
  go_wp2_with (go_at_call 24; refine H.mono ?_; rintro e w' ⟨rfl, rfl⟩)
  go_ret
  exact ⟨rfl, rfl⟩

theorem zz_nil (w : World) :
    Calls Try.prog 15 #[.slice none 0 0] w fun e w' => e = .returned (.int .i64 0) ∧ w = w' := by
  have H : Calls Try.prog 24 #[.slice none 0 0] w fun e w' => e = .returned (.int .i64 0) ∧ w = w' := by
    go_enter Try.func24, Try.ntmps24
    go_wp2
    refine wp_loop_rounds 1 ?_
    rw [rounds_succ]
    go_wp2
    go_ret
    exact ⟨rfl, rfl⟩
  go_enter Try.func15, Try.ntmps15
  go_wp2_with (go_at_call 24; refine H.mono ?_; rintro e w' ⟨rfl, rfl⟩)
  go_ret
  exact ⟨rfl, rfl⟩

theorem info5 : (Try.prog.info? 5).map (fun i => (i.zero, i.size, i.bytes)) = some (some (.int .u8 0), 1, 1) := by kernel_rfl

theorem made_row {w' : World} {base B n : Nat} {xs : List Value} (h : w'.ownsRow base 5 1 (.slice (some ⟨B, 0, none⟩) n n) n xs) :
    ∃ cur : List Value, w'.heap[B]? = some (.cells cur.toArray 5 (0, 0)) ∧ cur.length = n := by
  obtain ⟨_, h | ⟨g, cap, cur, hv, _, hh, _, _, hs, _⟩⟩ := h
  · simp at h
  · simp at hv
    obtain ⟨rfl, rfl⟩ := hv
    exact ⟨cur.toList, by simpa using hh, by simpa using hs⟩

theorem size5 : (Try.prog.info? 5).map (·.size) = some 1 := by kernel_rfl

theorem cell_lt {w : World} {p : Addr} {u : Value} (h : w.cell? p = some u) : p.block < w.heap.size := by
  exact block_lt_of_cell h

theorem cell_of_heap {w : World} {b i : Nat} {cs : List Value} {u : Value} (hh : w.heap[b]? = some (.cells cs.toArray 5 (0, 0))) (hi : cs[i]? = some u) : w.cell? ⟨b, 0 + i, none⟩ = some u := by
  simp [World.cell?, hh, hi]

set_option maxHeartbeats 400000 in
theorem fn_main (x : Addr) (len cap : Nat) (zs : List Int) (k : Nat) (w : World) (_hlc : len ≤ cap) (hlen : len ≤ 1048576) (hz : zs.length = len) (hu : U8 zs) (hk : k ≤ len)
    (hc : ∀ i, i < len → w.cell? (x.add i) = some (.int .u8 (zs.getD i 0))) :
    Calls Try.prog 6 #[.slice (some x) len cap, .int .i64 k] w fun e w' => e = .returned (.bool true) ∧ Below w.heap.size w w' := by
  have hne := fun (wx : World) => run_neq_slice_nil_any (P := Try.prog) wx 23 5 (some x) len cap 0 0 Try.underlying23
  obtain ⟨i0, hi, hz0, hz1, hz2⟩ := info_parts info5
  obtain ⟨cs, HC⟩ : ∃ cs : List Value, Hid (cs = zs.map (Value.int .u8)) := ⟨_, rfl⟩
  have hcl : cs.length = len := by rw [HC.out]; simpa using hz
  have hb2 : i0.bytes * len ≤ 281474976710656 := by rw [hz2]; omega
  have hb3 : len ≤ maxLen := by unfold maxLen; omega
  obtain ⟨r, HR⟩ : ∃ r, Hid (lnl zs = r) := ⟨_, rfl⟩
  have HL1 := lnl_le zs
  have HL2 := lnl_ge zs
  rw [HR.out, hz] at HL1 HL2
  have HL3 : len < 8 → r = len := by omega
  have HT : Hid (lnl (zs.take k) = min k (lnl zs)) := lnl_take zs k (by omega)
  have HZ : Hid (zs.length = len) := hz
  have HCC : Hid (∀ i, i < len → w.cell? (x.add i) = some (.int .u8 (zs.getD i 0))) := hc
  have hmin : cs.length = Nat.min len len := by rw [hcl]; exact (Nat.min_self len).symm
  have hsrc : ∀ j u, cs[j]? = some u → w.cell? (x.add j) = some u := by
    intro j u hj
    have hjl : j < len := by rw [← hcl]; exact (List.getElem?_eq_some_iff.1 hj).1
    rw [hc j hjl]
    rw [HC.out] at hj
    simp only [List.getElem?_map, Option.map_eq_some_iff] at hj
    obtain ⟨a, ha, rfl⟩ := hj
    simp [ha]
  have hblk : ∀ j u, cs[j]? = some u → (x.add j).block < w.heap.size := fun j u hj => cell_lt (hsrc j u hj)
  have hfit : ∀ cur : List Value, cur.length = len → 0 + cs.length ≤ cur.length := by intro cur h; omega
  have hone : ∀ u ∈ cs, u.oneCell' = true := by
    intro u hu
    rw [HC.out] at hu
    simp only [List.mem_map] at hu
    obtain ⟨a, _, rfl⟩ := hu
    rfl
  have hend : ∀ (w2 : World) (cur : List Value), cur.length = len → w2.heap[w.heap.size]? = some (.cells (splice cur 0 cs).toArray 5 (0, 0)) →
      ∀ i, i < len → w2.cell? ⟨w.heap.size, 0 + i, none⟩ = some (.int .u8 (zs.getD i 0)) := by
    intro w2 cur hcur hh i hi
    have e : splice cur 0 cs = cs := by
      unfold splice
      rw [List.drop_eq_nil_of_le (by omega)]
      simp
    rw [e] at hh
    refine cell_of_heap hh ?_
    rw [HC.out]
    have hi2 : i < zs.length := by omega
    simp [hi2]
  clear hc hz hz2
  go_enter Try.func6, Try.ntmps6
  go_wp2_with (first
    | (go_at_call 17; refine (bound_yes _ _ _ _ _ (by omega)).mono ?_; rintro e w' ⟨rfl, rfl⟩)
    | (at_make; refine wpList_make_full _ rfl (.tmp 26) (.tmp 26) 23 rfl w.heap.size 5 i0 (.int .u8 0) 1 Try.underlying23 hi hz0 hz1 .i64 .i64 _ _ len rfl rfl rfl rfl hb2 hb3 (Nat.le_refl _) ?_; intro w1 hown1 hg1; have hb1 : Below w.heap.size w w1 := (Below.refl _ _).grown hg1 (Nat.le_refl _) (by simp); obtain ⟨cur, hh1, hcur⟩ := made_row hown1; clear hown1 hg1)
    | (have _t := hh1; refine wpList_copy_splice rfl (.tmp 28) (.tmp 29) 23 23 rfl 5 Try.underlying23 size5 (some ⟨w.heap.size, 0, none⟩) (some x) len len len cap rfl rfl w.heap.size 0 cur 5 hh1 cs hmin (fun _ => ⟨rfl, x, rfl, fun j u hj => (hb1.cell (hblk j u hj)).trans (hsrc j u hj)⟩) (hfit cur hcur) hone w.heap.size w hb1 (Nat.le_refl _) ?_; intro w2 hh2 hb2'; clear hb1 hh1))
  have hcell := hend w2 cur hcur hh2.out
  refine (zz_any w.heap.size 0 len len zs w2 (Nat.le_refl _) hlen HZ.out hu hcell).mono ?_
  rintro e w3 ⟨rfl, rfl⟩
  have htk : (zs.take k).length = k := by have := HZ.out; simp; omega
  have hck : ∀ i, i < k → w2.cell? ⟨w.heap.size, 0 + i, none⟩ = some (.int .u8 ((zs.take k).getD i 0)) := by
    intro i hi
    rw [hcell i (by omega)]
    simp [hi]
  have HZ2 := zz_any w.heap.size 0 k len (zs.take k) w2 hk (by omega) htk (hu.take k) hck
  rw [HT.out, HR.out] at HZ2
  rw [HR.out]
  have HH : Hid (Calls Try.prog 15 #[.slice (some ⟨w.heap.size, 0, none⟩) k len] w2 fun e w' => e = .returned (.int .i64 ((min k r : Nat) : Int)) ∧ w2 = w') := HZ2
  clear HZ2 hck htk hcell hend hh2 hsrc hblk hfit hone hmin hcl HC HCC HZ HT HR hu _t hcur hi hz0 hz1 hb2 hb3
  by_cases hrk : r < k
  · have em : min k r = r := by omega
    rw [em] at HH
    clear em
    go_wp2_with (go_at_call 15; refine HH.out.mono ?_; rintro e w' ⟨rfl, rfl⟩)
    all_goals (go_ret; exact ⟨rfl, hb2'⟩)
  · have em : min k r = k := by omega
    rw [em] at HH
    clear em
    go_wp2_with (go_at_call 15; refine HH.out.mono ?_; rintro e w' ⟨rfl, rfl⟩)
    all_goals (go_ret; exact ⟨rfl, hb2'⟩)


theorem fn_nil (w : World) : Calls Try.prog 6 #[.slice none 0 0, .int .i64 0] w fun e w' => e = .returned (.bool true) ∧ Below w.heap.size w w' := by
  have hne := fun (wx : World) => run_neq_slice_nil_any (P := Try.prog) wx 23 5 none 0 0 0 0 Try.underlying23
  go_enter Try.func6, Try.ntmps6
  go_wp2_with (first
    | (go_at_call 17; refine (bound_yes _ _ _ _ _ (by decide)).mono ?_; rintro e w' ⟨rfl, rfl⟩)
    | (go_at_call 15; refine (zz_nil _).mono ?_; rintro e w' ⟨rfl, rfl⟩))
  go_ret
  exact ⟨rfl, Below.refl _ _⟩

theorem fn_big (a : Option Addr) (len cap : Nat) (k : Int) (w : World) (hm : len ≤ maxLen) (h : (1048576 : Int) < len) :
    Calls Try.prog 6 #[.slice a len cap, .int .i64 k] w fun e w' => e = .returned (.bool true) ∧ Below w.heap.size w w' := by
  have H := bound_no a len cap k w hm h
  clear hm
  go_enter Try.func6, Try.ntmps6
  go_wp2_with (go_at_call 17; refine H.mono ?_; rintro e w' ⟨rfl, rfl⟩)
  go_ret
  exact ⟨rfl, Below.refl _ _⟩

theorem fn_neg (a : Option Addr) (len cap : Nat) (k : Int) (w : World) (h : (len : Int) ≤ 1048576) (hk : k < 0) :
    Calls Try.prog 6 #[.slice a len cap, .int .i64 k] w fun e w' => e = .returned (.bool true) ∧ Below w.heap.size w w' := by
  go_enter Try.func6, Try.ntmps6
  go_wp2_with (go_at_call 17; refine (bound_yes _ _ _ _ _ (by omega)).mono ?_; rintro e w' ⟨rfl, rfl⟩)
  go_ret
  exact ⟨rfl, Below.refl _ _⟩

theorem fn_far (a : Option Addr) (len cap : Nat) (k : Int) (w : World) (h : (len : Int) ≤ 1048576) (hk0 : 0 ≤ k) (hk : (len : Int) < k) :
    Calls Try.prog 6 #[.slice a len cap, .int .i64 k] w fun e w' => e = .returned (.bool true) ∧ Below w.heap.size w w' := by
  go_enter Try.func6, Try.ntmps6
  go_wp2_with (go_at_call 17; refine (bound_yes _ _ _ _ _ (by omega)).mono ?_; rintro e w' ⟨rfl, rfl⟩)
  go_ret
  exact ⟨rfl, Below.refl _ _⟩

end Go.Proofs.Qxb6000586a
