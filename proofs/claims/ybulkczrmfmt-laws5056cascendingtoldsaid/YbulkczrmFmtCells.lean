import Derived.Test.YbulkczrmFmtBin
import Derived.Deep.RegionWith
import Derived.Deep.RegionHeld3
import Derived.Deep.DrawnRows
import Derived.Laws.BytesArg
namespace Go.Proofs.YbulkczrmFmt
open Go.RowKit
set_option linter.unusedVariables false
set_option linter.unusedSimpArgs false

theorem i64_in {n : Int} (h : -9223372036854775808 ≤ n ∧ n ≤ 9223372036854775807) : IntKind.i64.wrap n = n := by
  simp only [IntKind.wrap, IntKind.bits, IntKind.signed, Bool.true_and, Nat.reduceSub, Int.reducePow]
  by_cases h1 : n % 18446744073709551616 ≥ 9223372036854775808
  · simp only [h1, decide_true, if_true]; omega
  · simp only [h1, decide_false]; simp; omega

/-- The page's bytes. -/
def Pg (g : Nat) (X : List Int) (w : World) : Prop := w.heap[g]? = some (.cells (bcells X).toArray 5 (0, 0))
theorem Pg.drew {g : Nat} {X : List Int} {w : World} (h : Pg g X w) : Pg g X w.drew := h
theorem Pg.drewN {g : Nat} {X : List Int} {w : World} (h : Pg g X w) (n : Nat) : Pg g X (w.drewN n) := h
theorem Pg.alloc {g : Nat} {X : List Int} {w : World} (h : Pg g X w) (o : Obj) : Pg g X (w.alloc o) := allocB _ h
theorem Pg.out {g : Nat} {X : List Int} {w : World} (h : Pg g X w) : w.heap[g]? = some (.cells (bcells X).toArray 5 (0, 0)) := h
theorem upd_one {w w' : World} (h : ∃ q, w' = (w.alloc (.cells #[] 48)).drewN q) : Upd [] w w' := by
  obtain ⟨q, rfl⟩ := h; exact ((Upd.refl _ _).alloc _).drewN _
theorem upd_two {w w' : World} (h : ∃ q, w' = ((w.alloc (.cells #[] 48)).alloc (.cells #[] 48)).drewN q) : Upd [] w w' := by
  obtain ⟨q, rfl⟩ := h; exact (((Upd.refl _ _).alloc _).alloc _).drewN _
theorem ad (W : World) (j : Nat) (o : Obj) : (W.drewN j).alloc o = (W.alloc o).drewN j := rfl
theorem sd (W : World) (j : Nat) (x : Addr) (v : Value) : (W.drewN j).setCell x v = (W.setCell x v).drewN j := rfl

theorem sizeOf5 (w : World) : (Go.sizeOf 5).run Ybaf.prog w = .ok 1 w := by kernel_rfl
theorem elem27 : Ybaf.prog.elem 27 = 5 := by kernel_rfl

/-- 'p[k:]', k inside p: the address, written out. -/
theorem slice_from (g sz k : Nat) (hk : k < sz) (K : Int) (hK : K = (k : Int)) (W : World) :
    (Instr.slice 27 (.slice (some ⟨g, 0, none⟩) sz sz) (some (.int .i64 K)) none none).run Ybaf.prog W = .ok (.slice (some ⟨g, k, none⟩) (sz - k) (sz - k)) W := by
  subst hK
  rw [run_slice_l W 27 _ _ _ (by rw [elem27]; exact Ybaf.underlying27) .i64 _ (by omega) (by omega), elem27, sizeOf5]
  have hne : ¬ sz = k := by omega
  simp [sliced, hne, Addr.add_lit, Result.andThen]

set_option maxRecDepth 20000 in
theorem cellAt_any (g i sz v : Nat) (X : List Int) (w : World) (h : w.heap[g]? = some (.cells (bcells X).toArray 5 (0, 0))) (hX : X.length = sz) (hs : sz < 65536) (hU : U16 X (4 + 2 * i) v) :
    Calls Ybaf.prog 42 #[.slice (some ⟨g, 0, none⟩) sz sz, .int .i64 i] w fun e w' => e = .returned (.int .i64 v) ∧ ∃ q, w' = (w.alloc (.cells #[] 48)).drewN q := by
  have hb := hU.len
  have hv := hU.bd
  have hi : 4 + 2 * i + 2 ≤ sz := by omega
  have HG : Hid (w.heap[g]? = some (.cells (bcells X).toArray 5 (0, 0)) ∧ U16 X (4 + 2 * i) v) := ⟨h, hU⟩
  have hsl := slice_from g sz (4 + 2 * i) (by omega) (4 + 2 * (i : Int)) (by omega)
  have hw1 : IntKind.i64.wrap (2 * (i : Int)) = 2 * (i : Int) := i64_in (by omega)
  have hw2 : IntKind.i64.wrap (4 + 2 * (i : Int)) = 4 + 2 * (i : Int) := i64_in (by omega)
  have hw3 : IntKind.i64.wrap (v : Int) = (v : Int) := i64_in (by omega)
  have hi1 : (0 : Int) ≤ 4 + 2 * (i : Int) := by omega
  have hi2 : 4 + 2 * (i : Int) ≤ (sz : Int) := by omega
  clear h hU hX hb
  go_enter Ybaf.func42, Ybaf.ntmps42
  go_wp2
  go_region_held3 (fun w' => True) (go_keep) (first | (go_at_call 41; refine (get16_any g (4 + 2 * i) (sz - (4 + 2 * i)) (sz - (4 + 2 * i)) v X _ (by exact HG.out.1) (by omega) HG.out.2).mono ?_; rintro e w' ⟨rfl, nq, hu⟩))
  go_wp2
  go_ret
  exact ⟨rfl, _, rfl⟩

set_option maxRecDepth 20000 in
theorem count_any (g sz v : Nat) (X : List Int) (w : World) (h : w.heap[g]? = some (.cells (bcells X).toArray 5 (0, 0))) (hX : X.length = sz) (hs : sz < 65536) (hU : U16 X 2 v) :
    Calls Ybaf.prog 23 #[.slice (some ⟨g, 0, none⟩) sz sz] w fun e w' => e = .returned (.int .i64 v) ∧ ∃ q, w' = (w.alloc (.cells #[] 48)).drewN q := by
  have hb := hU.len
  have hv := hU.bd
  have hi : 4 ≤ sz := by omega
  have HG : Hid (w.heap[g]? = some (.cells (bcells X).toArray 5 (0, 0)) ∧ U16 X 2 v) := ⟨h, hU⟩
  have hsl := slice_from g sz 2 (by omega) 2 (by omega)
  have hw3 : IntKind.i64.wrap (v : Int) = (v : Int) := i64_in (by omega)
  clear h hU hX hb
  go_enter Ybaf.func23, Ybaf.ntmps23
  go_wp2
  go_region_held3 (fun w' => True) (go_keep) (first | (go_at_call 41; refine (get16_any g 2 (sz - 2) (sz - 2) v X _ (by exact HG.out.1) (by omega) HG.out.2).mono ?_; rintro e w' ⟨rfl, nq, hu⟩))
  go_wp2
  go_ret
  exact ⟨rfl, _, rfl⟩

set_option maxRecDepth 20000 in
theorem typ_any (g sz v : Nat) (X : List Int) (w : World) (h : w.heap[g]? = some (.cells (bcells X).toArray 5 (0, 0))) (hX : X.length = sz) (hs : 0 < sz) (hv : X.getD 0 0 = (v : Int)) :
    Calls Ybaf.prog 39 #[.slice (some ⟨g, 0, none⟩) sz sz] w fun e w' => e = .returned (.int .u8 v) ∧ w' = w := by
  have c0 := cellB (k := 0) h (by omega)
  rw [hv] at c0
  clear h hX hv
  go_enter Ybaf.func39, Ybaf.ntmps39
  go_wp2
  go_ret
  exact ⟨rfl, rfl⟩

/-- A key's slice inside the page at g: 'p[from:to:to]'. -/
def koff (fr kl : Nat) : Nat := if kl = 0 then 0 else fr
abbrev keyV (g fr kl : Nat) : Value := .slice (some ⟨g, koff fr kl, none⟩) kl kl

theorem slice_key (g sz fr kl : Nat) (hk : fr + kl ≤ sz) (F T : Int) (hF : F = (fr : Int)) (hT : T = ((fr + kl : Nat) : Int)) (W : World) :
    (Instr.slice 27 (.slice (some ⟨g, 0, none⟩) sz sz) (some (.int .i64 F)) (some (.int .i64 T)) (some (.int .i64 T))).run Ybaf.prog W = .ok (keyV g fr kl) W := by
  subst hF; subst hT
  rw [run_slice_lhm W 27 _ _ _ (by rw [elem27]; exact Ybaf.underlying27) .i64 .i64 .i64 _ _ _ (by omega) (by omega) (by omega) (by omega), elem27, sizeOf5]
  by_cases h0 : kl = 0
  · subst h0; simp [sliced, koff, Result.andThen]
  · have hne : ¬ fr + kl = fr := by omega
    simp only [Result.andThen, sliced, koff, Int.toNat_natCast, hne, h0, if_false, Option.map_some, Addr.add_lit]
    simp [koff, h0]

/-- What the table of page kinds holds of a leaf's and an internal page's header. -/
structure Kinds (w : World) : Prop where
  leaf : w.cell? ⟨0, 7, none⟩ = some (.int .i64 4)
  int : w.cell? ⟨0, 11, none⟩ = some (.int .i64 6)
theorem Kinds.cell {w w' : World} (h : Kinds w) (hc : ∀ a v, w.cell? a = some v → w'.cell? a = some v) : Kinds w' := ⟨hc _ _ h.leaf, hc _ _ h.int⟩
/-- A page's type and its cells' header. -/
def KH (t hd : Nat) : Prop := (t = 1 ∧ hd = 4) ∨ (t = 2 ∧ hd = 6)

set_option maxRecDepth 20000 in
theorem key_any (g i sz at' kl t hd : Nat) (X : List Int) (w : World) (h : w.heap[g]? = some (.cells (bcells X).toArray 5 (0, 0))) (hX : X.length = sz) (hs : sz < 65536) (h2 : X.getD 0 0 = (t : Int)) (hkh : KH t hd) (hU : U16 X (4 + 2 * i) at') (hC : U16 X at' kl)
    (hfit : at' + hd + kl ≤ sz) (hK : Kinds w) :
    Calls Ybaf.prog 24 #[.slice (some ⟨g, 0, none⟩) sz sz, .int .i64 i] w fun e w' => e = .returned (keyV g (at' + hd) kl) ∧ ∃ q, w' = ((w.alloc (.cells #[] 48)).alloc (.cells #[] 48)).drewN q := by
  have HG : Hid (w.heap[g]? = some (.cells (bcells X).toArray 5 (0, 0)) ∧ U16 X (4 + 2 * i) at' ∧ U16 X at' kl ∧ X.length = sz ∧ X.getD 0 0 = (t : Int)) := ⟨h, hU, hC, hX, h2⟩
  obtain ⟨hK1, hK2⟩ := hK
  have hlt3 := World.block_lt_of_cell? w _ hK1
  clear h hU hX hC h2
  rcases hkh with ⟨rfl, rfl⟩ | ⟨rfl, rfl⟩
  · have hsl := slice_from g sz at' (by omega) (at' : Int) rfl
    have hsk := slice_key g sz (at' + 4) kl (by omega) ((at' : Int) + 4) ((at' : Int) + 4 + (kl : Int)) (by omega) (by omega)
    have hw3 : IntKind.i64.wrap (kl : Int) = (kl : Int) := i64_in (by omega)
    have hw4 : IntKind.i64.wrap ((at' : Int) + 4 + (kl : Int)) = (at' : Int) + 4 + (kl : Int) := i64_in (by omega)
    go_enter Ybaf.func24, Ybaf.ntmps24
    go_wp2_with fail
    refine (cellAt_any g i sz at' X _ HG.out.1 HG.out.2.2.2.1 hs HG.out.2.1).mono ?_
    rintro e w1 ⟨rfl, q1, rfl⟩
    have P1 : Pg g X ((w.alloc (.cells #[] 48)).drewN q1) := (Pg.alloc HG.out.1 _).drewN _
    have had := ad
    have hsd := sd
    go_wp2_with fail
    refine (typ_any g sz 1 X _ P1 HG.out.2.2.2.1 (by omega) HG.out.2.2.2.2).mono ?_
    rintro e w2 ⟨rfl, rfl⟩
    go_wp2
    have P2 : Pg g X ((w.alloc (.cells #[] 48)).drewN (q1 + 1)) := P1
    clear P1
    go_region_held3 (fun w' => Pg g X w') (first | assumption | (exact (Pg.alloc ‹_› _).drewN _)) (first | (go_at_call 41; refine (get16_any g at' (sz - at') (sz - at') kl X _ (Pg.out ‹_›) (by omega) HG.out.2.2.1).mono ?_; rintro e w' ⟨rfl, nq, rfl⟩))
    go_wp2
    go_ret
    exact ⟨rfl, _, rfl⟩
  · have hsl := slice_from g sz at' (by omega) (at' : Int) rfl
    have hsk := slice_key g sz (at' + 6) kl (by omega) ((at' : Int) + 6) ((at' : Int) + 6 + (kl : Int)) (by omega) (by omega)
    have hw3 : IntKind.i64.wrap (kl : Int) = (kl : Int) := i64_in (by omega)
    have hw4 : IntKind.i64.wrap ((at' : Int) + 6 + (kl : Int)) = (at' : Int) + 6 + (kl : Int) := i64_in (by omega)
    go_enter Ybaf.func24, Ybaf.ntmps24
    go_wp2_with fail
    refine (cellAt_any g i sz at' X _ HG.out.1 HG.out.2.2.2.1 hs HG.out.2.1).mono ?_
    rintro e w1 ⟨rfl, q1, rfl⟩
    have P1 : Pg g X ((w.alloc (.cells #[] 48)).drewN q1) := (Pg.alloc HG.out.1 _).drewN _
    have had := ad
    have hsd := sd
    go_wp2_with fail
    refine (typ_any g sz 2 X _ P1 HG.out.2.2.2.1 (by omega) HG.out.2.2.2.2).mono ?_
    rintro e w2 ⟨rfl, rfl⟩
    go_wp2
    have P2 : Pg g X ((w.alloc (.cells #[] 48)).drewN (q1 + 1)) := P1
    clear P1
    go_region_held3 (fun w' => Pg g X w') (first | assumption | (exact (Pg.alloc ‹_› _).drewN _)) (first | (go_at_call 41; refine (get16_any g at' (sz - at') (sz - at') kl X _ (Pg.out ‹_›) (by omega) HG.out.2.2.1).mono ?_; rintro e w' ⟨rfl, nq, rfl⟩))
    go_wp2
    go_ret
    exact ⟨rfl, _, rfl⟩

set_option maxRecDepth 20000 in
theorem firstKey_any (g sz t : Nat) (f : Int) (X : List Int) (w : World) (h : w.heap[g]? = some (.cells (bcells X).toArray 5 (0, 0))) (hX : X.length = sz) (hs : 0 < sz) (hv : X.getD 0 0 = (t : Int)) (hf : (t = 1 ∧ f = 0) ∨ (t = 2 ∧ f = 1)) :
    Calls Ybaf.prog 22 #[.slice (some ⟨g, 0, none⟩) sz sz] w fun e w' => e = .returned (.int .i64 f) ∧ w' = w := by
  have HG : Hid (w.heap[g]? = some (.cells (bcells X).toArray 5 (0, 0)) ∧ X.length = sz ∧ X.getD 0 0 = (t : Int)) := ⟨h, hX, hv⟩
  clear h hX hv
  rcases hf with ⟨rfl, rfl⟩ | ⟨rfl, rfl⟩
  all_goals
    go_enter Ybaf.func22, Ybaf.ntmps22
    go_wp2_with fail
    refine (typ_any g sz _ X _ HG.out.1 HG.out.2.1 hs HG.out.2.2).mono ?_
    rintro e w2 ⟨rfl, rfl⟩
    go_wp2
    go_ret
    exact ⟨rfl, rfl⟩
end Go.Proofs.YbulkczrmFmt
