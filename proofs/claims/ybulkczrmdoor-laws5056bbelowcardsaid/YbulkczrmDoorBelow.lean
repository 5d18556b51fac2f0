import Derived.Test.YbulkczrmDoorCells
namespace Go.Proofs.YbulkczrmDoor
open Go.RowKit
set_option linter.unusedVariables false
set_option linter.unusedSimpArgs false

/-- A page of n cells: cell j lies at 'ofs j', bears a key of 'kl j' bytes and the child 'ch j'. -/
structure Page (X : List Int) (sz n : Nat) (ofs kl ch : Nat → Nat) : Prop where
  len : X.length = sz
  bd : sz < 65536
  typ : X.getD 0 0 = ((2 : Nat) : Int)
  cnt : U16 X 2 n
  off : ∀ j, j < n → U16 X (4 + 2 * j) (ofs j)
  klen : ∀ j, j < n → U16 X (ofs j) (kl j)
  chil : ∀ j, j < n → U32 X (ofs j + 2) (ch j)
  fit : ∀ j, j < n → ofs j + 6 + kl j ≤ sz

/-- The tree page in memory, and what below leans on. -/
structure TreeAt (w : World) (Bt g : Nat) (X : List Int) (sz : Nat) (pg lvl : Int) (lo hi : Option Addr) (lol loc hil hic : Nat) : Prop where
  f0 : w.cell? ⟨Bt, 0, none⟩ = some (.int .u32 pg)
  f1 : w.cell? ⟨Bt, 1, none⟩ = some (.int .u32 lvl)
  f4 : w.cell? ⟨Bt, 4, none⟩ = some (.slice lo lol loc)
  f5 : w.cell? ⟨Bt, 5, none⟩ = some (.slice hi hil hic)
  f6 : w.cell? ⟨Bt, 6, none⟩ = some (.slice (some ⟨g, 0, none⟩) sz sz)
  page : w.heap[g]? = some (.cells (bcells X).toArray 5 (0, 0))
  kinds : w.cell? ⟨3, 11, none⟩ = some (.int .i64 6)

theorem cell_upd {w w' : World} {a : Addr} {v : Value} (hu : Upd [] w w') (h : w.cell? a = some v) : w'.cell? a = some v := by
  rw [World.cell?_of_block (hu.block a.block (World.block_lt_of_cell? w _ h) (by simp))]; exact h
theorem TreeAt.step {w w' : World} {Bt g : Nat} {X : List Int} {sz : Nat} {pg lvl : Int} {lo hi : Option Addr} {lol loc hil hic : Nat} (h : TreeAt w Bt g X sz pg lvl lo hi lol loc hil hic) (hu : Upd [] w w') : TreeAt w' Bt g X sz pg lvl lo hi lol loc hil hic :=
  ⟨cell_upd hu h.f0, cell_upd hu h.f1, cell_upd hu h.f4, cell_upd hu h.f5, cell_upd hu h.f6, (hu.block g (lt_of_block h.page) (by simp)).trans h.page, cell_upd hu h.kinds⟩

theorem TreeAt.alloc {w : World} {Bt g : Nat} {X : List Int} {sz : Nat} {pg lvl : Int} {lo hi : Option Addr} {lol loc hil hic : Nat} (h : TreeAt w Bt g X sz pg lvl lo hi lol loc hil hic) (o : Obj) : TreeAt (w.alloc o) Bt g X sz pg lvl lo hi lol loc hil hic := h.step ((Upd.refl _ _).alloc _)
theorem TreeAt.drew {w : World} {Bt g : Nat} {X : List Int} {sz : Nat} {pg lvl : Int} {lo hi : Option Addr} {lol loc hil hic : Nat} (h : TreeAt w Bt g X sz pg lvl lo hi lol loc hil hic) : TreeAt w.drew Bt g X sz pg lvl lo hi lol loc hil hic := h.step ((Upd.refl _ _).drew)
theorem TreeAt.drewN {w : World} {Bt g : Nat} {X : List Int} {sz : Nat} {pg lvl : Int} {lo hi : Option Addr} {lol loc hil hic : Nat} (h : TreeAt w Bt g X sz pg lvl lo hi lol loc hil hic) (n : Nat) : TreeAt (w.drewN n) Bt g X sz pg lvl lo hi lol loc hil hic := h.step ((Upd.refl _ _).drewN _)

/-- What a step of the region leans on, in the tactic's own form. -/
abbrev Sx (Bt g : Nat) (X : List Int) (sz : Nat) (pg lvl : Int) (lo hi : Option Addr) (lol loc hil hic : Nat) (w' : World) : Prop :=
  w'.cell? ⟨Bt, 0, none⟩ = some (.int .u32 pg) ∧ w'.cell? ⟨Bt, 1, none⟩ = some (.int .u32 lvl) ∧ w'.cell? ⟨Bt, 5, none⟩ = some (.slice hi hil hic) ∧ w'.cell? ⟨Bt, 6, none⟩ = some (.slice (some ⟨g, 0, none⟩) sz sz) ∧ TreeAt w' Bt g X sz pg lvl lo hi lol loc hil hic
theorem Sx_page {Bt g : Nat} {X : List Int} {sz : Nat} {pg lvl : Int} {lo hi : Option Addr} {lol loc hil hic : Nat} {w' : World} (h : Sx Bt g X sz pg lvl lo hi lol loc hil hic w') : w'.heap[g]? = some (.cells (bcells X).toArray 5 (0, 0)) := h.2.2.2.2.page
theorem Sx_kinds {Bt g : Nat} {X : List Int} {sz : Nat} {pg lvl : Int} {lo hi : Option Addr} {lol loc hil hic : Nat} {w' : World} (h : Sx Bt g X sz pg lvl lo hi lol loc hil hic w') : w'.cell? ⟨3, 11, none⟩ = some (.int .i64 6) := h.2.2.2.2.kinds
theorem Sx_of {Bt g : Nat} {X : List Int} {sz : Nat} {pg lvl : Int} {lo hi : Option Addr} {lol loc hil hic : Nat} {b : World} (h : TreeAt b Bt g X sz pg lvl lo hi lol loc hil hic) : Sx Bt g X sz pg lvl lo hi lol loc hil hic b := ⟨h.f0, h.f1, h.f5, h.f6, h⟩

set_option maxRecDepth 20000 in
set_option maxHeartbeats 2000000 in
theorem below_any (Bt g i sz n : Nat) (X : List Int) (ofs kl ch : Nat → Nat) (pg lvl : Int) (lo hi : Option Addr) (lol loc hil hic : Nat) (w : World) (H : TreeAt w Bt g X sz pg lvl lo hi lol loc hil hic) (hP : Page X sz n ofs kl ch)
    (hi1 : i < n)
    (lov hiv : Value) (lv1 : Int) (hlv : lv1 = (lvl - 1) % 4294967296) (hlov : lov = if i = 0 then .slice lo lol loc else keyV g (ofs i + 6) (kl i)) (hhiv : hiv = if i + 1 < n then keyV g (ofs (i + 1) + 6) (kl (i + 1)) else .slice hi hil hic) :
    Calls Ybad.prog 11 #[.pointer (some ⟨Bt, 0, none⟩), .int .i64 i] w fun e w' => e = .returned (.agg #[.int .u32 (ch i), .int .u32 lv1, .int .u32 pg, .int .i64 i,
      lov, hiv, .slice none 0 0, .nilIface]) ∧ Upd [] w w' := by
  have hn := hP.cnt.bd
  have HP : Hid (Page X sz n ofs kl ch) := hP
  have HL : Hid (lov = if i = 0 then .slice lo lol loc else keyV g (ofs i + 6) (kl i)) := hlov
  have HI : Hid (hiv = if i + 1 < n then keyV g (ofs (i + 1) + 6) (kl (i + 1)) else .slice hi hil hic) := hhiv
  have HV : Hid (lv1 = (lvl - 1) % 4294967296) := hlv
  clear hP hlov hhiv hlv
  obtain ⟨f0, f1, f4, f5, f6, hpg, hK⟩ := id H
  have hlt := World.block_lt_of_cell? w _ f0
  have hlt3 := World.block_lt_of_cell? w _ hK
  have had := ad
  have hsd := sd
  clear hpg
  go_enter Ybad.func11, Ybad.ntmps11
  go_wp2
  go_region_held3 (fun w' => w'.cell? ⟨Bt, 0, none⟩ = some (.int .u32 pg) ∧ w'.cell? ⟨Bt, 1, none⟩ = some (.int .u32 lvl) ∧ w'.cell? ⟨Bt, 5, none⟩ = some (.slice hi hil hic) ∧ w'.cell? ⟨Bt, 6, none⟩ = some (.slice (some ⟨g, 0, none⟩) sz sz) ∧ TreeAt w' Bt g X sz pg lvl lo hi lol loc hil hic)
    ((refine Sx_of ?_; repeat (first | exact H | refine TreeAt.drewN ?_ _ | refine TreeAt.drew ?_ | refine TreeAt.alloc ?_ _)))
    (first | (go_at_call 16; refine (child_any g i sz (ofs i) (ch i) X _ (Sx_page (lvl := lvl) (pg := pg) (lo := lo) (hi := hi) (lol := lol) (loc := loc) (hil := hil) (hic := hic) (Bt := Bt) (sz := sz) (by assumption)) HP.out.len HP.out.bd (HP.out.off i hi1) (HP.out.chil i hi1)).mono ?_; rintro e w' ⟨rfl, nq1, rfl⟩) | (go_at_call 17; refine (key_any g i sz (ofs i) (kl i) X _ (Sx_page (lvl := lvl) (pg := pg) (lo := lo) (hi := hi) (lol := lol) (loc := loc) (hil := hil) (hic := hic) (Bt := Bt) (sz := sz) (by assumption)) HP.out.len HP.out.bd HP.out.typ (HP.out.off i hi1) (HP.out.klen i hi1) (HP.out.fit i hi1) (Sx_kinds (lvl := lvl) (pg := pg) (lo := lo) (hi := hi) (lol := lol) (loc := loc) (hil := hil) (hic := hic) (Bt := Bt) (sz := sz) (g := g) (X := X) (by assumption))).mono ?_; rintro e w' ⟨rfl, nq2, rfl⟩))
  all_goals
    rename_i hH
    clear hH
    have hb1 : Bt < w.heap.size + 1 := by omega
    have hb2 : Bt < w.heap.size + 1 + 1 := by omega
    have hb3 : Bt < w.heap.size + 1 + 1 + 1 := by omega
    have hb4 : Bt < w.heap.size + 1 + 1 + 1 + 1 := by omega
    have hb5 : Bt < w.heap.size + 1 + 1 + 1 + 1 + 1 := by omega
    have hb6 : Bt < w.heap.size + 1 + 1 + 1 + 1 + 1 + 1 := by omega
    have hb7 : Bt < w.heap.size + 1 + 1 + 1 + 1 + 1 + 1 + 1 := by omega
    have hb8 : Bt < w.heap.size + 1 + 1 + 1 + 1 + 1 + 1 + 1 + 1 := by omega
    have hb9 : Bt < w.heap.size + 1 + 1 + 1 + 1 + 1 + 1 + 1 + 1 + 1 := by omega
    by_cases h0 : i = 0 <;> by_cases h1 : i + 1 < n
    · have hi0 : ((i : Int) == 0) = true := by simp [h0]
      have H0 : Hid (i = 0) := h0
      clear h0
      go_wp2_with fail
      refine (count_any g sz n X _ (TreeAt.page (w := _) (Bt := Bt) (sz := sz) (pg := pg) (lvl := lvl) (lo := lo) (hi := hi) (lol := lol) (loc := loc) (hil := hil) (hic := hic) (by repeat (first | exact H | refine TreeAt.drewN ?_ _ | refine TreeAt.drew ?_ | refine TreeAt.alloc ?_ _))) HP.out.len HP.out.bd HP.out.cnt).mono ?_
      rintro e w' ⟨rfl, q3, rfl⟩
      go_wp2_with fail
      rw [show ((i : Int) + 1) = ((i + 1 : Nat) : Int) by omega]
      refine (key_any g (i + 1) sz (ofs (i + 1)) (kl (i + 1)) X _ (TreeAt.page (w := _) (Bt := Bt) (sz := sz) (pg := pg) (lvl := lvl) (lo := lo) (hi := hi) (lol := lol) (loc := loc) (hil := hil) (hic := hic) (by repeat (first | exact H | refine TreeAt.drewN ?_ _ | refine TreeAt.drew ?_ | refine TreeAt.alloc ?_ _))) HP.out.len HP.out.bd HP.out.typ (HP.out.off _ h1) (HP.out.klen _ h1) (HP.out.fit _ h1) (TreeAt.kinds (w := _) (Bt := Bt) (sz := sz) (pg := pg) (lvl := lvl) (lo := lo) (hi := hi) (lol := lol) (loc := loc) (hil := hil) (hic := hic) (g := g) (X := X) (by repeat (first | exact H | refine TreeAt.drewN ?_ _ | refine TreeAt.drew ?_ | refine TreeAt.alloc ?_ _)))).mono ?_
      rintro e w' ⟨rfl, q4, rfl⟩
      go_wp2
      refine bodyPost_ret (v := .agg #[.int .u32 (ch i), .int .u32 ((lvl - 1) % 4294967296), .int .u32 pg, .int .i64 i, .slice lo lol loc, keyV g (ofs (i + 1) + 6) (kl (i + 1)), .slice none 0 0, .nilIface]) (by simp [results, Ybad.results11, go_sem]) rfl ⟨?_, ?_⟩
      · rw [HV.out, HL.out, HI.out, if_pos H0.out, if_pos h1]
      · repeat (first | exact Upd.refl _ _ | refine Upd.drewN ?_ _ | refine Upd.drew ?_ | refine Upd.alloc ?_ _)
    · have hi0 : ((i : Int) == 0) = true := by simp [h0]
      have H0 : Hid (i = 0) := h0
      clear h0
      go_wp2_with fail
      refine (count_any g sz n X _ (TreeAt.page (w := _) (Bt := Bt) (sz := sz) (pg := pg) (lvl := lvl) (lo := lo) (hi := hi) (lol := lol) (loc := loc) (hil := hil) (hic := hic) (by repeat (first | exact H | refine TreeAt.drewN ?_ _ | refine TreeAt.drew ?_ | refine TreeAt.alloc ?_ _))) HP.out.len HP.out.bd HP.out.cnt).mono ?_
      rintro e w' ⟨rfl, q3, rfl⟩
      go_wp2
      refine bodyPost_ret (v := .agg #[.int .u32 (ch i), .int .u32 ((lvl - 1) % 4294967296), .int .u32 pg, .int .i64 i, .slice lo lol loc, .slice hi hil hic, .slice none 0 0, .nilIface]) (by simp [results, Ybad.results11, go_sem]) rfl ⟨?_, ?_⟩
      · rw [HV.out, HL.out, HI.out, if_pos H0.out, if_neg h1]
      · repeat (first | exact Upd.refl _ _ | refine Upd.drewN ?_ _ | refine Upd.drew ?_ | refine Upd.alloc ?_ _)
    · have hi0 : ((i : Int) == 0) = false := by simp [h0]
      have H0 : Hid (¬ i = 0) := h0
      clear h0
      go_wp2_with fail
      refine (count_any g sz n X _ (TreeAt.page (w := _) (Bt := Bt) (sz := sz) (pg := pg) (lvl := lvl) (lo := lo) (hi := hi) (lol := lol) (loc := loc) (hil := hil) (hic := hic) (by repeat (first | exact H | refine TreeAt.drewN ?_ _ | refine TreeAt.drew ?_ | refine TreeAt.alloc ?_ _))) HP.out.len HP.out.bd HP.out.cnt).mono ?_
      rintro e w' ⟨rfl, q3, rfl⟩
      go_wp2_with fail
      rw [show ((i : Int) + 1) = ((i + 1 : Nat) : Int) by omega]
      refine (key_any g (i + 1) sz (ofs (i + 1)) (kl (i + 1)) X _ (TreeAt.page (w := _) (Bt := Bt) (sz := sz) (pg := pg) (lvl := lvl) (lo := lo) (hi := hi) (lol := lol) (loc := loc) (hil := hil) (hic := hic) (by repeat (first | exact H | refine TreeAt.drewN ?_ _ | refine TreeAt.drew ?_ | refine TreeAt.alloc ?_ _))) HP.out.len HP.out.bd HP.out.typ (HP.out.off _ h1) (HP.out.klen _ h1) (HP.out.fit _ h1) (TreeAt.kinds (w := _) (Bt := Bt) (sz := sz) (pg := pg) (lvl := lvl) (lo := lo) (hi := hi) (lol := lol) (loc := loc) (hil := hil) (hic := hic) (g := g) (X := X) (by repeat (first | exact H | refine TreeAt.drewN ?_ _ | refine TreeAt.drew ?_ | refine TreeAt.alloc ?_ _)))).mono ?_
      rintro e w' ⟨rfl, q4, rfl⟩
      go_wp2
      refine bodyPost_ret (v := .agg #[.int .u32 (ch i), .int .u32 ((lvl - 1) % 4294967296), .int .u32 pg, .int .i64 i, keyV g (ofs i + 6) (kl i), keyV g (ofs (i + 1) + 6) (kl (i + 1)), .slice none 0 0, .nilIface]) (by simp [results, Ybad.results11, go_sem]) rfl ⟨?_, ?_⟩
      · rw [HV.out, HL.out, HI.out, if_neg H0.out, if_pos h1]
      · repeat (first | exact Upd.refl _ _ | refine Upd.drewN ?_ _ | refine Upd.drew ?_ | refine Upd.alloc ?_ _)
    · have hi0 : ((i : Int) == 0) = false := by simp [h0]
      have H0 : Hid (¬ i = 0) := h0
      clear h0
      go_wp2_with fail
      refine (count_any g sz n X _ (TreeAt.page (w := _) (Bt := Bt) (sz := sz) (pg := pg) (lvl := lvl) (lo := lo) (hi := hi) (lol := lol) (loc := loc) (hil := hil) (hic := hic) (by repeat (first | exact H | refine TreeAt.drewN ?_ _ | refine TreeAt.drew ?_ | refine TreeAt.alloc ?_ _))) HP.out.len HP.out.bd HP.out.cnt).mono ?_
      rintro e w' ⟨rfl, q3, rfl⟩
      go_wp2
      refine bodyPost_ret (v := .agg #[.int .u32 (ch i), .int .u32 ((lvl - 1) % 4294967296), .int .u32 pg, .int .i64 i, keyV g (ofs i + 6) (kl i), .slice hi hil hic, .slice none 0 0, .nilIface]) (by simp [results, Ybad.results11, go_sem]) rfl ⟨?_, ?_⟩
      · rw [HV.out, HL.out, HI.out, if_neg H0.out, if_neg h1]
      · repeat (first | exact Upd.refl _ _ | refine Upd.drewN ?_ _ | refine Upd.drew ?_ | refine Upd.alloc ?_ _)
end Go.Proofs.YbulkczrmDoor
