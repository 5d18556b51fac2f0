import Derived.Test.YbulkczrmFmtModel
import Derived.Deep.AppendLies
namespace Go.Proofs.YbulkczrmFmt
open Go.RowKit Go.Extern.Stop Go.Stop Go.Extern
set_option linter.unusedVariables false
set_option linter.unusedSimpArgs false

theorem own_empty (w : World) : (w.alloc (.cells #[] 5)).ownsRow w.heap.size 5 1 (.slice (some ⟨w.heap.size, 0, none⟩) 0 0) 0 [] :=
  ⟨rfl, Or.inr ⟨w.heap.size, 0, #[], rfl, Nat.le_refl _, heap_alloc_new _ _, Nat.le_refl _, Nat.zero_le _, rfl, rfl⟩⟩
theorem own_bin {w : World} {base g n c : Nat} {xs : List Int} (h : w.ownsRow base 5 1 (.slice (some ⟨g, 0, none⟩) n c) n (bcells xs)) (hl : xs.length = n) : BIn w (some ⟨g, 0, none⟩) n xs := by
  refine ⟨hl, fun h0 => ⟨g, 0, rfl, fun j hj => ?_⟩⟩
  rcases h.2 with ⟨_, h0'⟩ | ⟨g', c', cur, hv, _, hh, _, _, hs, ht⟩
  · omega
  · simp only [Value.slice.injEq, Option.some.injEq, Addr.mk.injEq, and_true, true_and] at hv
    obtain ⟨rfl, rfl⟩ := hv
    rw [cell_of_row _ _ _ _ _ _ hh]
    have e : (cur.toList.take (n * 1))[0 + j]? = (bcells xs)[j]? := by rw [ht, Nat.zero_add]
    have hj' : j < xs.length := by omega
    rw [List.getElem?_take, if_pos (by omega)] at e
    simp at e
    simp [e, bcells, hj']

theorem page_src {w : World} {g : Nat} {X : List Int} (h : w.heap[g]? = some (.cells (bcells X).toArray 5 (0, 0))) : ∀ j u, (bcells X)[j]? = some u → w.cell? ((⟨g, 0, none⟩ : Addr).add j) = some u := by
  intro j u hj
  have := World.news_of_block h j u (by simpa using hj)
  exact this

set_option maxRecDepth 20000 in
theorem clone_any (g sz : Nat) (X : List Int) (w : World) (h : w.heap[g]? = some (.cells (bcells X).toArray 5 (0, 0))) (hX : X.length = sz) (h0 : 0 < sz) (hs : sz < 65536) :
    Calls Ybaf.prog 9 #[.slice (some ⟨g, 0, none⟩) sz sz] w fun e w' => ∃ g' c, e = .returned (.slice (some ⟨g', 0, none⟩) sz c) ∧ BIn w' (some ⟨g', 0, none⟩) sz X ∧ Below w.heap.size w w' := by
  obtain ⟨i0, hi, hz0, hz1, hz2⟩ := info_parts Ybaf.info5
  have hnil : ∀ W : World, (binOp .eql 23 (.slice (some ⟨g, 0, none⟩) sz sz) (.slice none 0 0)).run Ybaf.prog W = .ok (.bool false) W := fun W => eql_slice_nil 23 5 _ _ _ Ybaf.underlying23 W
  have HG : Hid (w.heap[g]? = some (.cells (bcells X).toArray 5 (0, 0)) ∧ X.length = sz) := ⟨h, hX⟩
  clear h hX
  go_enter Ybaf.func9, Ybaf.ntmps9
  go_wp2_with (at_builtin; (refine wpList_append_lies _ rfl (.tmp 5) (.tmp 6) 23 rfl w.heap.size 5 i0 (.int .u8 0) 1 1 Ybaf.underlying23 hi hz0 hz1 hz2 rfl (by omega) (.slice (some ⟨w.heap.size, 0, none⟩) 0 0) 0 [] rfl (own_empty w) ⟨g, 0, none⟩ sz sz (bcells X) rfl (by rw [bcells_len, HG.out.2, Nat.mul_one]) (page_src (allocB _ HG.out.1)) (bcells_one _) h0 (by unfold maxLen; omega) (by omega) (by simp) _ rfl ?_))
  intro g' cap w1 hown hgrow hat hlt
  have hb : Below w.heap.size w w1 := ((Below.refl _ _).alloc (Nat.le_refl _) _).grown hgrow (by simp) (fun k hk => by simp [Value.ownBlock] at hk; omega)
  have HB : Hid (BIn w1 (some ⟨g', 0, none⟩) sz X ∧ Below w.heap.size w w1) := ⟨own_bin hown HG.out.2, hb⟩
  clear hown hgrow hat hb
  go_wp2
  go_ret
  exact ⟨g', cap, rfl, HB.out.1, HB.out.2⟩
end Go.Proofs.YbulkczrmFmt
