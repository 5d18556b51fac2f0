import Derived.Test.YbulkczrmDoorBin
import Derived.Deep.RegionWith
import Derived.Deep.RegionHeld3
import Derived.Deep.DrawnRows
import Derived.Laws.BytesArg
namespace Go.Proofs.YbulkczrmDoor
open Go.RowKit
set_option linter.unusedVariables false
set_option linter.unusedSimpArgs false

theorem i64_in {n : Int} (h : -9223372036854775808 ≤ n ∧ n ≤ 9223372036854775807) : IntKind.i64.wrap n = n := by
  simp only [IntKind.wrap, IntKind.bits, IntKind.signed, Bool.true_and, Nat.reduceSub, Int.reducePow]
  by_cases h1 : n % 18446744073709551616 ≥ 9223372036854775808
  · simp only [h1, decide_true, if_true]; omega
  · simp only [h1, decide_false]; simp; omega

/-- The page's bytes. -/
def Pg (g : Nat) (X : List Int) (w : World) : Prop := w.heap[g]? = some (.cells (bcells X).toArray 5 (0, 0))
theorem Pg.drew {g : Nat} {X : List Int} {w : World} (h : Pg g X w) : Pg g X w.drew := h
theorem Pg.drewN {g : Nat} {X : List Int} {w : World} (h : Pg g X w) (n : Nat) : Pg g X (w.drewN n) := h
theorem Pg.alloc {g : Nat} {X : List Int} {w : World} (h : Pg g X w) (o : Obj) : Pg g X (w.alloc o) := allocB _ h
theorem Pg.out {g : Nat} {X : List Int} {w : World} (h : Pg g X w) : w.heap[g]? = some (.cells (bcells X).toArray 5 (0, 0)) := h
theorem upd_one {w w' : World} (h : ∃ q, w' = (w.alloc (.cells #[] 68)).drewN q) : Upd [] w w' := by
  obtain ⟨q, rfl⟩ := h; exact ((Upd.refl _ _).alloc _).drewN _
theorem upd_two {w w' : World} (h : ∃ q, w' = ((w.alloc (.cells #[] 68)).alloc (.cells #[] 68)).drewN q) : Upd [] w w' := by
  obtain ⟨q, rfl⟩ := h; exact (((Upd.refl _ _).alloc _).alloc _).drewN _
theorem ad (W : World) (j : Nat) (o : Obj) : (W.drewN j).alloc o = (W.alloc o).drewN j := rfl
theorem sd (W : World) (j : Nat) (x : Addr) (v : Value) : (W.drewN j).setCell x v = (W.setCell x v).drewN j := rfl

theorem sizeOf5 (w : World) : (Go.sizeOf 5).run Ybad.prog w = .ok 1 w := by kernel_rfl
theorem elem36 : Ybad.prog.elem 36 = 5 := by kernel_rfl

/-- 'p[k:]', k inside p: the address, written out. -/
theorem slice_from (g sz k : Nat) (hk : k < sz) (K : Int) (hK : K = (k : Int)) (W : World) :
    (Instr.slice 36 (.slice (some ⟨g, 0, none⟩) sz sz) (some (.int .i64 K)) none none).run Ybad.prog W = .ok (.slice (some ⟨g, k, none⟩) (sz - k) (sz - k)) W := by
  subst hK
  rw [run_slice_l W 36 _ _ _ (by rw [elem36]; exact Ybad.underlying36) .i64 _ (by omega) (by omega), elem36, sizeOf5]
  have hne : ¬ sz = k := by omega
  simp [sliced, hne, Addr.add_lit, Result.andThen]

set_option maxRecDepth 20000 in
theorem cellAt_any (g i sz v : Nat) (X : List Int) (w : World) (h : w.heap[g]? = some (.cells (bcells X).toArray 5 (0, 0))) (hX : X.length = sz) (hs : sz < 65536) (hU : U16 X (4 + 2 * i) v) :
    Calls Ybad.prog 20 #[.slice (some ⟨g, 0, none⟩) sz sz, .int .i64 i] w fun e w' => e = .returned (.int .i64 v) ∧ ∃ q, w' = (w.alloc (.cells #[] 68)).drewN q := by
  have hb := hU.len
  have hv := hU.bd
  have hi : 4 + 2 * i + 2 ≤ sz := by omega
  have HG : Hid (w.heap[g]? = some (.cells (bcells X).toArray 5 (0, 0)) ∧ U16 X (4 + 2 * i) v) := ⟨h, hU⟩
  have hsl := slice_from g sz (4 + 2 * i) (by omega) (4 + 2 * (i : Int)) (by omega)
  have hw1 : IntKind.i64.wrap (2 * (i : Int)) = 2 * (i : Int) := i64_in (by omega)
  have hw2 : IntKind.i64.wrap (4 + 2 * (i : Int)) = 4 + 2 * (i : Int) := i64_in (by omega)
  have hw3 : IntKind.i64.wrap (v : Int) = (v : Int) := i64_in (by omega)
  have hi1 : (0 : Int) ≤ 4 + 2 * (i : Int) := by omega
  have hi2 : 4 + 2 * (i : Int) ≤ (sz : Int) := by omega
  clear h hU hX hb
  go_enter Ybad.func20, Ybad.ntmps20
  go_wp2
  go_region_held3 (fun w' => True) (go_keep) (first | (go_at_call 22; refine (get16_any g (4 + 2 * i) (sz - (4 + 2 * i)) (sz - (4 + 2 * i)) v X _ (by exact HG.out.1) (by omega) HG.out.2).mono ?_; rintro e w' ⟨rfl, nq, hu⟩))
  go_wp2
  go_ret
  exact ⟨rfl, _, rfl⟩

set_option maxRecDepth 20000 in
theorem count_any (g sz v : Nat) (X : List Int) (w : World) (h : w.heap[g]? = some (.cells (bcells X).toArray 5 (0, 0))) (hX : X.length = sz) (hs : sz < 65536) (hU : U16 X 2 v) :
    Calls Ybad.prog 18 #[.slice (some ⟨g, 0, none⟩) sz sz] w fun e w' => e = .returned (.int .i64 v) ∧ ∃ q, w' = (w.alloc (.cells #[] 68)).drewN q := by
  have hb := hU.len
  have hv := hU.bd
  have hi : 4 ≤ sz := by omega
  have HG : Hid (w.heap[g]? = some (.cells (bcells X).toArray 5 (0, 0)) ∧ U16 X 2 v) := ⟨h, hU⟩
  have hsl := slice_from g sz 2 (by omega) 2 (by omega)
  have hw3 : IntKind.i64.wrap (v : Int) = (v : Int) := i64_in (by omega)
  clear h hU hX hb
  go_enter Ybad.func18, Ybad.ntmps18
  go_wp2
  go_region_held3 (fun w' => True) (go_keep) (first | (go_at_call 22; refine (get16_any g 2 (sz - 2) (sz - 2) v X _ (by exact HG.out.1) (by omega) HG.out.2).mono ?_; rintro e w' ⟨rfl, nq, hu⟩))
  go_wp2
  go_ret
  exact ⟨rfl, _, rfl⟩

set_option maxRecDepth 20000 in
theorem typ_any (g sz v : Nat) (X : List Int) (w : World) (h : w.heap[g]? = some (.cells (bcells X).toArray 5 (0, 0))) (hX : X.length = sz) (hs : 0 < sz) (hv : X.getD 0 0 = (v : Int)) :
    Calls Ybad.prog 21 #[.slice (some ⟨g, 0, none⟩) sz sz] w fun e w' => e = .returned (.int .u8 v) ∧ w' = w := by
  have c0 := cellB (k := 0) h (by omega)
  rw [hv] at c0
  clear h hX hv
  go_enter Ybad.func21, Ybad.ntmps21
  go_wp2
  go_ret
  exact ⟨rfl, rfl⟩

set_option maxRecDepth 20000 in
theorem child_any (g i sz at' v : Nat) (X : List Int) (w : World) (h : w.heap[g]? = some (.cells (bcells X).toArray 5 (0, 0))) (hX : X.length = sz) (hs : sz < 65536) (hU : U16 X (4 + 2 * i) at') (hC : U32 X (at' + 2) v) :
    Calls Ybad.prog 16 #[.slice (some ⟨g, 0, none⟩) sz sz, .int .i64 i] w fun e w' => e = .returned (.int .u32 v) ∧ ∃ q, w' = ((w.alloc (.cells #[] 68)).alloc (.cells #[] 68)).drewN q := by
  have hb := hC.len
  have hv := hC.bd
  have hi : at' + 6 ≤ sz := by omega
  have HG : Hid (w.heap[g]? = some (.cells (bcells X).toArray 5 (0, 0)) ∧ U16 X (4 + 2 * i) at' ∧ U32 X (at' + 2) v ∧ X.length = sz) := ⟨h, hU, hC, hX⟩
  have hsl := slice_from g sz (at' + 2) (by omega) ((at' : Int) + 2) (by omega)
  have hw3 : IntKind.i64.wrap ((at' : Int) + 2) = (at' : Int) + 2 := i64_in (by omega)
  have hlt := lt_of_block h
  clear h hU hX hb hC
  go_enter Ybad.func16, Ybad.ntmps16
  go_wp2
  have H0 : Pg g X w.drew := HG.out.1
  have had := ad
  have hsd := sd
  go_region_held3 (fun w' => Pg g X w') (first | assumption | (exact (Pg.alloc ‹_› _).drewN _)) (first | (go_at_call 20; refine (cellAt_any g i sz at' X _ (Pg.out ‹_›) HG.out.2.2.2 hs HG.out.2.1).mono ?_; rintro e w' ⟨rfl, nq, rfl⟩) | (go_at_call 19; refine (get32_any g (at' + 2) (sz - (at' + 2)) (sz - (at' + 2)) v X _ (Pg.out ‹_›) (by omega) HG.out.2.2.1).mono ?_; rintro e w' ⟨rfl, nq2, rfl⟩))
  go_wp2
  go_ret
  exact ⟨rfl, _, rfl⟩

/-- A key's slice inside the page at g: 'p[from:to:to]'. -/
def koff (fr kl : Nat) : Nat := if kl = 0 then 0 else fr
abbrev keyV (g fr kl : Nat) : Value := .slice (some ⟨g, koff fr kl, none⟩) kl kl

theorem slice_key (g sz fr kl : Nat) (hk : fr + kl ≤ sz) (F T : Int) (hF : F = (fr : Int)) (hT : T = ((fr + kl : Nat) : Int)) (W : World) :
    (Instr.slice 36 (.slice (some ⟨g, 0, none⟩) sz sz) (some (.int .i64 F)) (some (.int .i64 T)) (some (.int .i64 T))).run Ybad.prog W = .ok (keyV g fr kl) W := by
  subst hF; subst hT
  rw [run_slice_lhm W 36 _ _ _ (by rw [elem36]; exact Ybad.underlying36) .i64 .i64 .i64 _ _ _ (by omega) (by omega) (by omega) (by omega), elem36, sizeOf5]
  by_cases h0 : kl = 0
  · subst h0; simp [sliced, koff, Result.andThen]
  · have hne : ¬ fr + kl = fr := by omega
    simp only [Result.andThen, sliced, koff, Int.toNat_natCast, hne, h0, if_false, Option.map_some, Addr.add_lit]
    simp [koff, h0]

set_option maxRecDepth 20000 in
theorem key_any (g i sz at' kl : Nat) (X : List Int) (w : World) (h : w.heap[g]? = some (.cells (bcells X).toArray 5 (0, 0))) (hX : X.length = sz) (hs : sz < 65536) (h2 : X.getD 0 0 = ((2 : Nat) : Int)) (hU : U16 X (4 + 2 * i) at') (hC : U16 X at' kl)
    (hfit : at' + 6 + kl ≤ sz) (hK : w.cell? ⟨3, 11, none⟩ = some (.int .i64 6)) :
    Calls Ybad.prog 17 #[.slice (some ⟨g, 0, none⟩) sz sz, .int .i64 i] w fun e w' => e = .returned (keyV g (at' + 6) kl) ∧ ∃ q, w' = ((w.alloc (.cells #[] 68)).alloc (.cells #[] 68)).drewN q := by
  have HG : Hid (w.heap[g]? = some (.cells (bcells X).toArray 5 (0, 0)) ∧ U16 X (4 + 2 * i) at' ∧ U16 X at' kl ∧ X.length = sz ∧ X.getD 0 0 = ((2 : Nat) : Int)) := ⟨h, hU, hC, hX, h2⟩
  have hsl := slice_from g sz at' (by omega) (at' : Int) rfl
  have hsk := slice_key g sz (at' + 6) kl (by omega) ((at' : Int) + 6) ((at' : Int) + 6 + (kl : Int)) (by omega) (by omega)
  have hw3 : IntKind.i64.wrap (kl : Int) = (kl : Int) := i64_in (by omega)
  have hw4 : IntKind.i64.wrap ((at' : Int) + 6 + (kl : Int)) = (at' : Int) + 6 + (kl : Int) := i64_in (by omega)
  have hlt3 := World.block_lt_of_cell? w _ hK
  clear h hU hX hC h2
  go_enter Ybad.func17, Ybad.ntmps17
  go_wp2_with fail
  refine (cellAt_any g i sz at' X _ HG.out.1 HG.out.2.2.2.1 hs HG.out.2.1).mono ?_
  rintro e w1 ⟨rfl, q1, rfl⟩
  have P1 : Pg g X ((w.alloc (.cells #[] 68)).drewN q1) := (Pg.alloc HG.out.1 _).drewN _
  have had := ad
  have hsd := sd
  go_wp2_with fail
  refine (typ_any g sz 2 X _ P1 HG.out.2.2.2.1 (by omega) HG.out.2.2.2.2).mono ?_
  rintro e w2 ⟨rfl, rfl⟩
  go_wp2
  have P2 : Pg g X ((w.alloc (.cells #[] 68)).drewN (q1 + 1)) := P1
  clear P1
  go_region_held3 (fun w' => Pg g X w') (first | assumption | (exact (Pg.alloc ‹_› _).drewN _)) (first | (go_at_call 22; refine (get16_any g at' (sz - at') (sz - at') kl X _ (Pg.out ‹_›) (by omega) HG.out.2.2.1).mono ?_; rintro e w' ⟨rfl, nq, rfl⟩))
  go_wp2
  go_ret
  exact ⟨rfl, _, rfl⟩
end Go.Proofs.YbulkczrmDoor
