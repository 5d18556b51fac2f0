import Derived.Test.YbulkczrmFmtClone
import Derived.Lib.MakeNoZero
namespace Go.Proofs.YbulkczrmFmt
open Go.RowKit Go.Extern.Stop Go.Stop Go.Extern
set_option linter.unusedVariables false
set_option linter.unusedSimpArgs false

set_option maxRecDepth 20000 in
theorem mul_n (w : World) (T : Nat) (h1 : 995 ≤ T) (h2 : T ≤ 1004) : Calls Ybaf.prog 18 #[.int .u64 1, .int .u64 (T : Int)] w fun e w' => e = .returned (.tuple #[.int .u64 0, .int .u64 (T : Int)]) ∧ w' = w := by
  have hT : T = 995 ∨ T = 996 ∨ T = 997 ∨ T = 998 ∨ T = 999 ∨ T = 1000 ∨ T = 1001 ∨ T = 1002 ∨ T = 1003 ∨ T = 1004 := by omega
  clear h1 h2
  rcases hT with rfl | rfl | rfl | rfl | rfl | rfl | rfl | rfl | rfl | rfl
  all_goals
    go_enter Ybaf.func18, Ybaf.ntmps18
    go_wp2
    go_ret2
    exact ⟨by kernel_rfl, rfl⟩

theorem elem23 : Ybaf.prog.elem 23 = 5 := by kernel_rfl
theorem slice_from23 (g sz k : Nat) (hk : k < sz) (K : Int) (hK : K = (k : Int)) (W : World) :
    (Instr.slice 23 (.slice (some ⟨g, 0, none⟩) sz sz) (some (.int .i64 K)) none none).run Ybaf.prog W = .ok (.slice (some ⟨g, k, none⟩) (sz - k) (sz - k)) W := by
  subst hK
  rw [run_slice_l W 23 _ _ _ (by rw [elem23]; exact Ybaf.underlying23) .i64 _ (by omega) (by omega), elem23, sizeOf5]
  have hne : ¬ sz = k := by omega
  simp [sliced, hne, Addr.add_lit, Result.andThen]
theorem slice_to23 (g sz k : Nat) (hk : k ≤ sz) (K : Int) (hK : K = (k : Int)) (W : World) :
    (Instr.slice 23 (.slice (some ⟨g, 0, none⟩) sz sz) none (some (.int .i64 K)) none).run Ybaf.prog W = .ok (.slice (some ⟨g, 0, none⟩) k sz) W := by
  subst hK
  rw [run_slice_h W 23 _ _ _ (by rw [elem23]; exact Ybaf.underlying23) .i64 _ (by omega) (by omega), elem23, sizeOf5]
  simp [sliced, Result.andThen, Addr.add_lit]

/-- A row whose first k cells are 255. -/
structure FF (w : World) (g T k : Nat) (L : List Value) : Prop where
  row : w.heap[g]? = some (.cells L.toArray 5 (0, 0))
  len : T ≤ L.length
  ff : ∀ j, j < k → L[j]? = some (.int .u8 255)
theorem FF.src {w : World} {g T k m : Nat} {L : List Value} (h : FF w g T k L) (hm : m ≤ k) : ∀ j v, (List.replicate m (Value.int .u8 255))[j]? = some v → w.cell? ((⟨g, 0, none⟩ : Addr).add j) = some v := by
  intro j v hj
  have hj' : j < m := by
    rcases Nat.lt_or_ge j m with h | h
    · exact h
    · rw [List.getElem?_eq_none (by simp; omega)] at hj; cases hj
  rw [List.getElem?_replicate, if_pos hj'] at hj
  rw [Addr.add_lit, cell_of_row _ _ _ _ _ _ h.row]
  simp only [Nat.zero_add, List.getElem?_toArray]
  rw [h.ff j (by omega)]; exact hj
theorem FF.next {w W : World} {g T k m : Nat} {L : List Value} (h : FF w g T k L) (hm : k + m ≤ L.length) (hW : W.heap[g]? = some (.cells (splice L k (List.replicate m (Value.int .u8 255))).toArray 5 (0, 0))) : FF W g T (k + m) (splice L k (List.replicate m (Value.int .u8 255))) := by
  refine ⟨hW, by rw [length_splice _ _ _ (by simpa using hm)]; exact h.len, fun j hj => ?_⟩
  unfold splice
  have h2 : min k L.length = k := by omega
  by_cases hjk : j < k
  · rw [List.getElem?_append_left (by simp; omega), List.getElem?_take, if_pos hjk]; exact h.ff j hjk
  · rw [List.getElem?_append_right (by simp; omega), List.getElem?_append_left (by simp; omega), List.getElem?_replicate, if_pos (by simp; omega)]
theorem FF.bin {w : World} {g T : Nat} {L : List Value} (h : FF w g T T L) : BIn w (some ⟨g, 0, none⟩) T (List.replicate T 255) := by
  refine ⟨by simp, fun h0 => ⟨g, 0, rfl, fun j hj => ?_⟩⟩
  rw [cell_of_row _ _ _ _ _ _ h.row]
  simp only [Nat.zero_add, List.getElem?_toArray]
  rw [h.ff j hj]
  simp [hj]
theorem ones (v : Value) (hv : v.oneCell' = true) (m : Nat) : ∀ u ∈ List.replicate m v, u.oneCell' = true := fun u hu => by
  rw [(List.mem_replicate.1 hu).2]; exact hv

set_option maxRecDepth 20000 in
set_option maxHeartbeats 1000000 in
theorem repeat_ff (gb T : Nat) (w : World) (hc : w.cell? ⟨gb, 0, none⟩ = some (.int .u8 255)) (h1 : 995 ≤ T) (h2 : T ≤ 1004) :
    Calls Ybaf.prog 7 #[.slice (some ⟨gb, 0, none⟩) 1 1, .int .i64 (T : Int)] w fun e w' => ∃ g, e = .returned (.slice (some ⟨g, 0, none⟩) T T) ∧ BIn w' (some ⟨g, 0, none⟩) T (List.replicate T 255) ∧ Below w.heap.size w w' ∧ w.heap.size ≤ g := by
  obtain ⟨cs, hrunM, hle, _⟩ := Lib.run_makeNoZero (P := Ybaf.prog) w #[3] 23 5 Ybaf.underlying23 T (by omega)
  have hcall : (callFunc 19 #[.int .i64 (T : Int)]).run Ybaf.prog w = .ok (.value (.slice (some ⟨w.heap.size, 0, none⟩) T cs.size)) ((w.alloc (.cells cs 5)).drewN 2) := by
    rw [run_callFunc_extern Ybaf.func19 (by kernel_rfl) (by kernel_rfl) (by kernel_rfl) (e := Extern.BytealgMakeNoZero.makeNoZero #[3] #[23]) (by kernel_rfl), hrunM]
    rfl
  clear hrunM
  have i0 : (0 : Int) ≤ (T : Int) := by omega
  have i1 : (T : Int) ≤ (cs.size : Int) := by omega
  go_enter Ybaf.func7, Ybaf.ntmps7
  go_wp2_with fail
  refine (mul_n _ T h1 h2).mono ?_
  rintro e w1 ⟨rfl, hw1⟩
  subst w1
  have hs : ((w.alloc (.cells cs 5)).drewN 2).heap[w.heap.size]? = some (.cells cs.toList.toArray 5 (0, 0)) := by simpa using heap_alloc_new w (.cells cs 5)
  have F0 : Hid (FF ((w.alloc (.cells cs 5)).drewN 2) w.heap.size T 0 cs.toList ∧ 1 ≤ cs.toList.length) := ⟨⟨hs, by simpa using hle, fun j hj => absurd hj (Nat.not_lt_zero _)⟩, by simp; omega⟩
  have HL : Hid (T ≤ cs.toList.length) := by show T ≤ _; simpa using hle
  have HC : Hid (∀ j v, (List.replicate 1 (Value.int .u8 255))[j]? = some v → ((w.alloc (.cells cs 5)).drewN 2).cell? ((⟨gb, 0, none⟩ : Addr).add j) = some v) := by
    intro j v hj
    match j, hj with
    | 0, hj =>
      simp at hj; subst hj
      rw [Addr.add_lit]; exact cell_alloc _ hc
    | j + 1, hj => simp at hj
  clear hs
  go_wp2_with (refine wpList_copy_named rfl (.tmp 58) (.tmp 59) 23 23 rfl 5 Ybaf.underlying23 Ybaf.size5 w.heap.size 0 T T ⟨gb, 0, none⟩ 1 1 rfl rfl cs.toList 5 (List.replicate 1 (Value.int .u8 255)) 1 rfl (by show 1 = min 1 T; omega) F0.out.1.row HC.out (by have := F0.out.2; simpa using this) (ones _ rfl _) ?_)
  intro w2 hw2
  have hu2 : Upd [w.heap.size] ((w.alloc (.cells cs 5)).drewN 2) w2 := by rw [hw2.out.1]; exact (Upd.refl _ _).setRow (by simp) _
  have HF : Hid (∃ L, FF w2 w.heap.size T 1 L ∧ Below w.heap.size w w2) := ⟨_, F0.out.1.next (m := 1) (by simpa using F0.out.2) hw2.out.2, Upd.below (below_drewN ((Below.refl _ _).alloc (Nat.le_refl _) _) 2) hu2 (by simp) (by simp)⟩
  clear hw2 hu2 F0 HC HL hcall
  go_wp2
  go_loopw [10] (fun bp wr => ∃ k : Nat, 1 ≤ k ∧ k ≤ T ∧ bp = .int .i64 k ∧ Hid (∃ L, FF wr w.heap.size T k L ∧ Below w.heap.size w wr)) (fun bp _ => T - (intOf bp).toNat)
  case atStart => exact ⟨1, Nat.le_refl _, by omega, by go_num, HF.out⟩
  case round =>
    obtain ⟨k, hk1, hkT, rfl, HI⟩ := hrel
    clear HF
    by_cases hlt : k < T
    · obtain ⟨L, hFF, hbel⟩ := HI.out
      obtain ⟨m, hm⟩ : ∃ m, m = min k (T - k) := ⟨_, rfl⟩
      have hm1 : m ≤ k := by omega
      have hm2 : m ≤ T - k := by omega
      have hm3 : 1 ≤ m := by omega
      have HM : Hid (m = Nat.min k (T - k)) := hm
      have H7 : Hid (FF wr w.heap.size T k L ∧ Below w.heap.size w wr ∧ (List.replicate m (Value.int .u8 255)).length = m ∧ k + m ≤ L.length) := ⟨hFF, hbel, by simp, by have := hFF.len; omega⟩
      have hsl1 := slice_from23 w.heap.size T k hlt (k : Int) rfl
      have hsl2 := slice_to23 w.heap.size T k hkT (k : Int) rfl
      have hwk : IntKind.i64.wrap ((k : Int) + (m : Int)) = (k : Int) + (m : Int) := i64_in (by omega)
      clear hFF hbel HI hm
      go_wp2
      go_region_held3 (fun w' => True) (go_keep) (first | (refine step_copy_upd (by rfl) (.tmp 70) (.tmp 73) 23 23 (by rfl) 5 Ybaf.underlying23 Ybaf.size5 w.heap.size k (T - k) (T - k) ⟨w.heap.size, 0, none⟩ k T (by rfl) (by rfl) L 5 (List.replicate m (Value.int .u8 255)) m H7.out.2.2.1 HM.out (by exact H7.out.1.row) (by exact H7.out.1.src hm1) (by rw [H7.out.2.2.1]; exact H7.out.2.2.2) (ones _ rfl _) ?_; intro w3 M3))
      have HN : Hid (∃ L, FF w3 w.heap.size T (k + m) L ∧ Below w.heap.size w w3) := ⟨_, H7.out.1.next H7.out.2.2.2 M3.out.1, Upd.below H7.out.2.1.drew M3.out.2 (by simp) H7.out.2.1.size⟩
      clear M3 H7
      go_wp2
      go_roundw
      case rel => exact ⟨k + m, by omega, by omega, by go_num, HN.out⟩
      case measure => simp [intOf]; omega
    · obtain rfl : k = T := by omega
      go_wp2
      go_ret
      obtain ⟨L, hFF, hbel⟩ := HI.out
      exact ⟨w.heap.size, rfl, hFF.bin, hbel, Nat.le_refl _⟩
end Go.Proofs.YbulkczrmFmt
