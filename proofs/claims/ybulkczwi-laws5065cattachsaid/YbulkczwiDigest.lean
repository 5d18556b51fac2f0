import Derived.Test.YbulkczwiRows
import Derived.WalkKit
import Derived.WalkSmall
import Derived.Laws.CopyOwn
import Derived.Laws.Cover3
import Derived.LaidEql
import Derived.BigQuiet
import Derived.Deep.QuietTactic
import Derived.OpenShut
namespace Go.Proofs.Ybulkczwi
open Go.RowKit
set_option linter.unusedVariables false
set_option linter.unusedSimpArgs false

theorem i64_in {n : Int} (h : -9223372036854775808 ≤ n ∧ n ≤ 9223372036854775807) : IntKind.i64.wrap n = n := by
  simp only [IntKind.wrap, IntKind.bits, IntKind.signed, Bool.true_and, Nat.reduceSub, Int.reducePow]
  by_cases h1 : n % 18446744073709551616 ≥ 9223372036854775808
  · simp only [h1, decide_true, if_true]; omega
  · simp only [h1, decide_false]; simp; omega
theorem Yba.info5 : (Yba.prog.info? 5).map (fun i => (i.zero, i.size, i.bytes)) = some (some (.int .u8 0), 1, 1) := by kernel_rfl

/-- The text of the digest of k: k + 1 times the letter a. -/
def aText (k : Nat) : ByteArray := strOfNums (List.replicate (k + 1) 97)
abbrev shaText : ByteArray := ⟨#[115, 104, 97, 50, 53, 54]⟩
theorem aText_inj {i j : Nat} (h : aText i = aText j) : i = j := by
  have := congrArg (fun s : ByteArray => s.data.size) h
  simp [aText, strOfNums] at this
  exact this

theorem conv_a {w : World} {g k c : Nat} (h : ∀ i, i < k + 1 → w.cell? ⟨g, i, none⟩ = some (.int .u8 97)) : (convert 54 9 (.slice (some ⟨g, 0, none⟩) (k + 1) c)).run Yba.prog w = .ok (.string (aText k)) w :=
  run_convert_bytes_arg (P := Yba.prog) w 54 5 Yba.underlying54 Yba.underlying5 g 0 (k + 1) c (List.replicate (k + 1) 97) (by simp) (fun j hj => by rw [Nat.zero_add, h j hj]; simp [hj]) 9 Yba.underlying9

theorem row_full {w1 : World} {g B k : Nat} {e : TypeId} {xs : List Value} (hown : w1.ownsRow B e 1 (.slice (some ⟨g, 0, none⟩) k k) k xs) : w1.heap[g]? = some (.cells xs.toArray e (0, 0)) := by
  rcases hown.2 with ⟨h, _⟩ | ⟨g', c, cur, hv, _, hh, _, _, hs, ht⟩
  · cases h
  · simp only [Value.slice.injEq, Option.some.injEq, Addr.mk.injEq, and_true, true_and] at hv
    obtain ⟨rfl, rfl⟩ := hv
    have : cur.toList = xs := by
      rw [List.take_of_length_le (by simp [hs])] at ht
      exact ht
    rw [hh, ← this]

set_option maxRecDepth 20000 in
/-- zzs5065cdigest -/
theorem digest_any (k : Nat) (w : World) (hk : k ≤ 1000) :
    Calls Yba.prog 4 #[.int .i64 k] w fun e w' => e = .returned (.agg #[.string shaText, .string (aText k)]) ∧ Below w.heap.size w w' := by
  obtain ⟨n, hn⟩ : ∃ n, n = k + 1 := ⟨_, rfl⟩
  have hw1 : IntKind.i64.wrap ((k : Int) + 1) = (n : Int) := by rw [i64_in (by omega), hn]; omega
  have HN : Hid (n = k + 1) := hn
  have hn1 : n ≤ 1001 := by omega
  clear hn
  obtain ⟨i0, hi, hz0, hz1, hz2⟩ := info_parts Yba.info5
  go_enter Yba.func4, Yba.ntmps4
  go_wp2_with (first | (at_make; refine wpList_make_full _ rfl _ _ 54 rfl w.heap.size 5 i0 (.int .u8 0) 1 Yba.underlying54 hi hz0 hz1 _ _ _ _ n rfl rfl (by omega) (by omega) (by rw [hz2]; omega) (by unfold maxLen; omega) (by simp) ?_))
  intro w1 hown hg
  have HB : Hid (Below w.heap.size w w1 ∧ w.heap.size < w1.heap.size ∧ w1.cell? ⟨w.heap.size, 0, none⟩ = some (.string ⟨#[]⟩) ∧ w1.cell? ⟨w.heap.size, 1, none⟩ = some (.string ⟨#[]⟩) ∧ w1.frozen? ⟨w.heap.size, 0, none⟩ = false ∧ w1.frozen? ⟨w.heap.size, 1, none⟩ = false) := by
    have hb1 : w1.heap[w.heap.size]? = some (.cells #[.string ⟨#[]⟩, .string ⟨#[]⟩] 33 (0, 0)) := by
      rw [hg.block _ (by simp) (by simp), heap_alloc_new]
    refine ⟨((Below.refl _ _).alloc (Nat.le_refl _) _).trans (Below.refl _ _ |>.grown hg (by simp) (by simp)), lt_of_block hb1, ?_, ?_, ?_, ?_⟩
    · rw [cell_of_row _ _ _ _ _ _ hb1]; rfl
    · rw [cell_of_row _ _ _ _ _ _ hb1]; rfl
    · exact frozen_of_row _ _ _ _ _ hb1
    · exact frozen_of_row _ _ _ _ _ hb1
  have HR : Hid (∀ i, i < n → w1.cell? ⟨w.heap.size + 1, i, none⟩ = some (.int .u8 0) ∧ w1.frozen? ⟨w.heap.size + 1, i, none⟩ = false) := by
    have hh := row_full hown
    intro i hi'
    refine ⟨?_, frozen_of_row _ _ _ _ _ hh⟩
    rw [cell_of_row _ _ _ _ _ _ hh]
    simp [madeCells, hi', Nat.mod_one]
  clear hown hg hz0 hz1 hz2 hi i0
  go_wp2
  go_loopw [4] (fun i wr => ∃ j : Nat, j ≤ n ∧ i = .int .i64 j ∧ Hid (Below w.heap.size w wr ∧ (wr.cell? ⟨w.heap.size, 0, none⟩ = some (.string ⟨#[]⟩) ∧ wr.cell? ⟨w.heap.size, 1, none⟩ = some (.string ⟨#[]⟩) ∧ wr.frozen? ⟨w.heap.size, 0, none⟩ = false ∧ wr.frozen? ⟨w.heap.size, 1, none⟩ = false) ∧ (∀ i, i < n → wr.frozen? ⟨w.heap.size + 1, i, none⟩ = false ∧ wr.cell? ⟨w.heap.size + 1, i, none⟩ = some (.int .u8 (if i < j then 97 else 0))))) (fun i _ => n - (intOf i).toNat)
  case atStart => exact ⟨0, Nat.zero_le _, rfl, HB.out.1, HB.out.2.2, fun i hi => ⟨(HR.out i hi).2, by rw [if_neg (by omega)]; exact (HR.out i hi).1⟩⟩
  case round =>
    obtain ⟨j, hj, rfl, HI⟩ := hrel
    by_cases hlt : j < n
    · have hcj := (HI.out.2.2 j hlt).2
      have hfj := (HI.out.2.2 j hlt).1
      rw [if_neg (Nat.lt_irrefl _)] at hcj
      go_wp2
      go_roundw
      case rel =>
        refine ⟨j + 1, hlt, by go_num, HI.out.1.setCell (Nat.le_succ _) _, ?_, fun i hi => ⟨?_, ?_⟩⟩
        · have h := HI.out.2.1
          refine ⟨?_, ?_, ?_, ?_⟩
          · rw [World.cell?_setCell_other _ _ _ _ (by simp)]; exact h.1
          · rw [World.cell?_setCell_other _ _ _ _ (by simp)]; exact h.2.1
          · rw [World.frozen?_setCell]; exact h.2.2.1
          · rw [World.frozen?_setCell]; exact h.2.2.2
        · rw [World.frozen?_setCell]; exact (HI.out.2.2 i hi).1
        · by_cases e : i = j
          · subst e
            rw [World.cell?_setCell_same _ _ _ hcj, if_pos (Nat.lt_succ_self _)]
          · rw [World.cell?_setCell_other _ _ _ _ (by simp [e]), (HI.out.2.2 i hi).2]
            by_cases h2 : i < j
            · rw [if_pos h2, if_pos (by omega)]
            · rw [if_neg h2, if_neg (by omega)]
      case measure => simp [intOf]; omega
    · obtain rfl : j = n := by omega
      have hcv : (convert 54 9 (.slice (some ⟨w.heap.size + 1, 0, none⟩) j j)).run Yba.prog wr = .ok (.string (aText k)) wr := by
        have := conv_a (w := wr) (g := w.heap.size + 1) (k := k) (c := j) (fun i hi => by
          have := (HI.out.2.2 i (by rw [HN.out]; exact hi)).2
          rw [if_pos (by rw [HN.out]; exact hi)] at this
          exact this)
        rw [← HN.out] at this
        exact this
      have HX : Hid (Below w.heap.size w wr) := HI.out.1
      obtain ⟨c0, c1, f0, f1⟩ := HI.out.2.1
      clear HI HB HR
      go_wp2
      refine bodyPost_ret (v := .agg #[.string shaText, .string (aText k)]) (by simp [results, Yba.results4, go_sem, c0, c1]) rfl ⟨rfl, ?_⟩
      exact (HX.out.setCell (Nat.le_refl _) _).setCell (Nat.le_refl _) _

/-- The cells of a descriptor of which only the size is set. -/
abbrev dCells (s : Int) : List Value := [.string ⟨#[]⟩, .string ⟨#[]⟩, .string ⟨#[]⟩, .int .i64 s, .pointer none, .string ⟨#[]⟩, .string ⟨#[]⟩, .string ⟨#[]⟩, .string ⟨#[]⟩]

set_option maxRecDepth 20000 in
/-- zzs5065csame of such a descriptor. -/
theorem same_any (s : Int) (w : World) : Calls Yba.prog 6 #[.agg (dCells s).toArray, .int .i64 s] w fun e w' => e = .returned (.bool true) ∧ Below w.heap.size w w' := by
  go_enter Yba.func6, Yba.ntmps6
  go_wp2
  go_ret
  exact ⟨rfl, (Below.refl _ _).alloc (Nat.le_refl _) _⟩
end Go.Proofs.Ybulkczwi
