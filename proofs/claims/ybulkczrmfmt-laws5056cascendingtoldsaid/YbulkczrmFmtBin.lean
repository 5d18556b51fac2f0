import Derived.Test.YbulkczrmFmtKit
import Derived.OpenShut
namespace Go.Proofs.YbulkczrmFmt
open Go.RowKit
set_option linter.unusedVariables false
set_option linter.unusedSimpArgs false

theorem cellB {w : World} {g k : Nat} {X : List Int} (h : w.heap[g]? = some (.cells (bcells X).toArray 5 (0, 0))) (hk : k < X.length) : w.cell? ⟨g, k, none⟩ = some (.int .u8 (X.getD k 0)) := by
  rw [cell_of_row w _ _ _ _ _ h]; simp [bcells, hk]

theorem setB {w : World} {g k : Nat} {X : List Int} (h : w.heap[g]? = some (.cells (bcells X).toArray 5 (0, 0))) (v : Int) :
    (w.setCell ⟨g, k, none⟩ (.int .u8 v)).heap[g]? = some (.cells (bcells (X.set k v)).toArray 5 (0, 0)) := by
  rw [heap_setCell_same _ _ _ _ _ _ h]
  simp [bcells, List.map_set]

theorem allocB {w : World} {g : Nat} {X : List Int} (o : Obj) (h : w.heap[g]? = some (.cells (bcells X).toArray 5 (0, 0))) : (w.alloc o).heap[g]? = some (.cells (bcells X).toArray 5 (0, 0)) :=
  (Below.heap_alloc _ _ _ (lt_of_block h)).trans h

theorem Upd.drewN {S : List Nat} {a w : World} (h : Upd S a w) (n : Nat) : Upd S a (w.drewN n) := h.trans ⟨rfl, rfl, rfl, Nat.le_refl _, fun _ _ _ => rfl⟩

theorem put16_any (g o l c : Nat) (v : Nat) (X : List Int) (w : World) (h : w.heap[g]? = some (.cells (bcells X).toArray 5 (0, 0))) (ho : o + 2 ≤ X.length) (hl : 2 ≤ l) (hv : v < 65536) :
    Calls Ybaf.prog 20 #[.agg #[], .slice (some ⟨g, o, none⟩) l c, .int .u16 v] w fun e w' => e = .returned (.tuple #[]) ∧
      w'.heap[g]? = some (.cells (bcells ((X.set o (v % 256 : Nat)).set (o + 1) (v / 256 : Nat))).toArray 5 (0, 0)) ∧ Upd [g] w w' := by
  have c0 := cellB (k := o) h (by omega)
  have c1 := cellB (k := o + 1) h (by omega)
  have f : ∀ j, w.frozen? ⟨g, j, none⟩ = false := fun j => frozen_of_row _ _ _ _ _ h
  have HG : Hid (w.heap[g]? = some (.cells (bcells X).toArray 5 (0, 0))) := h
  have hlt := lt_of_block h
  clear h
  go_enter Ybaf.func20, Ybaf.ntmps20
  go_wp2
  go_end0
  refine ⟨rfl, ?_, (((Upd.refl _ w).setCell (by simp) _).setCell (by simp) _).alloc _⟩
  rw [show ((v % 256 : Nat) : Int) = (v : Int) % 256 by omega, show ((v / 256 : Nat) : Int) = (v : Int) / 256 by omega]
  exact allocB _ (setB (setB HG.out _) _)

/-- Two bytes, the lower first, that say v. -/
structure U16 (X : List Int) (p v : Nat) : Prop where
  len : p + 2 ≤ X.length
  b0 : X.getD p 0 = (v % 256 : Nat)
  b1 : X.getD (p + 1) 0 = (v / 256 : Nat)
  bd : v < 65536

/-- Four bytes, the lowest first, that say v. -/
structure U32 (X : List Int) (p v : Nat) : Prop where
  len : p + 4 ≤ X.length
  b0 : X.getD p 0 = (v % 256 : Nat)
  b1 : X.getD (p + 1) 0 = (v / 256 % 256 : Nat)
  b2 : X.getD (p + 2) 0 = (v / 65536 % 256 : Nat)
  b3 : X.getD (p + 3) 0 = (v / 16777216 : Nat)
  bd : v < 4294967296

theorem ret_int {k : IntKind} {a b : Int} (h : a = b) : Ending.returned (.int k a) = .returned (.int k b) := by rw [h]

theorem or_add (a b i : Nat) (h : a < 2 ^ i) : a ||| 2 ^ i * b = 2 ^ i * b + a := by
  rw [Nat.or_comm, ← Nat.two_pow_add_eq_or_of_lt h]

theorem or16 (a b : Nat) (ha : a < 256) (hb : b < 256) : bits .or .u16 (a : Int) ((b : Int) * 256) = ((a + 256 * b : Nat) : Int) := by
  have h := u16_or_nat a (256 * b) (by omega) (by omega)
  rw [show ((b : Int) * 256) = ((256 * b : Nat) : Int) by omega, h]
  have e := or_add a b 8 (by omega)
  rw [show (2 ^ 8 : Nat) = 256 from rfl] at e
  rw [e]; omega

theorem or32 (a b i : Nat) (hi : a < 2 ^ i) (ha : a < 4294967296) (hb : 2 ^ i * b < 4294967296) : bits .or .u32 (a : Int) ((2 ^ i * b : Nat) : Int) = ((2 ^ i * b + a : Nat) : Int) := by
  rw [u32_or_nat a (2 ^ i * b) ha hb, or_add a b i hi]

theorem or32_4 (a b c d : Nat) (ha : a < 256) (hb : b < 256) (hc : c < 256) (hd : d < 256) :
    bits .or .u32 (bits .or .u32 (bits .or .u32 (a : Int) ((b : Int) * 256)) ((c : Int) * 65536)) ((d : Int) * 16777216) = ((a + 256 * b + 65536 * c + 16777216 * d : Nat) : Int) := by
  have h1 := or32 a b 8 (by omega) (by omega) (by omega)
  have h2 := or32 (2 ^ 8 * b + a) c 16 (by omega) (by omega) (by omega)
  have h3 := or32 (2 ^ 16 * c + (2 ^ 8 * b + a)) d 24 (by omega) (by omega) (by omega)
  rw [show ((b : Int) * 256) = ((2 ^ 8 * b : Nat) : Int) by omega, h1, show ((c : Int) * 65536) = ((2 ^ 16 * c : Nat) : Int) by omega, h2, show ((d : Int) * 16777216) = ((2 ^ 24 * d : Nat) : Int) by omega, h3]
  omega

set_option maxRecDepth 20000 in
theorem get16_any (g o l c v : Nat) (X : List Int) (w : World) (h : w.heap[g]? = some (.cells (bcells X).toArray 5 (0, 0))) (hl : 2 ≤ l) (hU : U16 X o v) :
    Calls Ybaf.prog 41 #[.agg #[], .slice (some ⟨g, o, none⟩) l c] w fun e w' => e = .returned (.int .u16 v) ∧ ∃ q, w' = (w.alloc (.cells #[] 48)).drewN q := by
  obtain ⟨h1, h2, h3, h4⟩ := hU
  have c0 := cellB (k := o) h (by omega)
  have c1 := cellB (k := o + 1) h (by omega)
  rw [h2] at c0
  rw [h3] at c1
  obtain ⟨a, ha⟩ : ∃ a, a = v % 256 := ⟨_, rfl⟩
  obtain ⟨b, hb⟩ : ∃ b, b = v / 256 := ⟨_, rfl⟩
  rw [← ha] at c0
  rw [← hb] at c1
  have HV : Hid (v = a + 256 * b) := by show v = a + 256 * b; omega
  have a1 : a < 256 := by omega
  have b1 : b < 256 := by omega
  have hlt := lt_of_block h
  clear h ha hb h2 h3
  go_enter Ybaf.func41, Ybaf.ntmps41
  go_wp2
  go_quiet (fail)
  go_wp2
  go_ret
  exact ⟨ret_int ((or16 a b a1 b1).trans (by rw [← HV.out])), _, rfl⟩

set_option maxRecDepth 20000 in
theorem put32_any (g o l c : Nat) (v : Nat) (X : List Int) (w : World) (h : w.heap[g]? = some (.cells (bcells X).toArray 5 (0, 0))) (ho : o + 4 ≤ X.length) (hl : 4 ≤ l) (hv : v < 4294967296) :
    Calls Ybaf.prog 40 #[.agg #[], .slice (some ⟨g, o, none⟩) l c, .int .u32 v] w fun e w' => e = .returned (.tuple #[]) ∧
      w'.heap[g]? = some (.cells (bcells ((((X.set o (v % 256 : Nat)).set (o + 1) (v / 256 % 256 : Nat)).set (o + 2) (v / 65536 % 256 : Nat)).set (o + 3) (v / 16777216 : Nat))).toArray 5 (0, 0)) ∧ Upd [g] w w' := by
  have c0 := cellB (k := o) h (by omega)
  have c1 := cellB (k := o + 1) h (by omega)
  have c2 := cellB (k := o + 2) h (by omega)
  have c3 := cellB (k := o + 3) h (by omega)
  have f : ∀ j, w.frozen? ⟨g, j, none⟩ = false := fun j => frozen_of_row _ _ _ _ _ h
  have HG : Hid (w.heap[g]? = some (.cells (bcells X).toArray 5 (0, 0))) := h
  have hlt := lt_of_block h
  clear h
  go_enter Ybaf.func40, Ybaf.ntmps40
  go_wp2
  go_end0
  refine ⟨rfl, ?_, (((((Upd.refl _ w).setCell (by simp) _).setCell (by simp) _).setCell (by simp) _).setCell (by simp) _).alloc _⟩
  rw [show ((v % 256 : Nat) : Int) = (v : Int) % 256 by omega, show ((v / 256 % 256 : Nat) : Int) = (v : Int) / 256 % 256 by omega, show ((v / 65536 % 256 : Nat) : Int) = (v : Int) / 65536 % 256 by omega, show ((v / 16777216 : Nat) : Int) = (v : Int) / 16777216 by omega]
  exact allocB _ (setB (setB (setB (setB HG.out _) _) _) _)
end Go.Proofs.YbulkczrmFmt
