import Derived.Test.YbulkczrmFmtBuild
import Derived.Lib.Bytealg
import Derived.Laws.Externs
import Derived.Lib.BytesEntry
namespace Go.Proofs.YbulkczrmFmt
open Go.RowKit
set_option linter.unusedVariables false
set_option linter.unusedSimpArgs false

/-- Two lists of bytes compared, the first difference deciding. -/
def cmpI : List Int → List Int → Int
  | [], [] => 0
  | [], _ :: _ => -1
  | _ :: _, [] => 1
  | a :: l, b :: r => if a < b then -1 else if b < a then 1 else cmpI l r
def Bytes (xs : List Int) : Prop := ∀ x ∈ xs, 0 ≤ x ∧ x < 256

theorem u8_lt {a b : Int} (ha : 0 ≤ a ∧ a < 256) (hb : 0 ≤ b ∧ b < 256) : (UInt8.ofNat a.toNat < UInt8.ofNat b.toNat) ↔ a < b := by
  rw [UInt8.lt_iff_toNat_lt, UInt8.toNat_ofNat', UInt8.toNat_ofNat']
  rw [Nat.mod_eq_of_lt (by omega), Nat.mod_eq_of_lt (by omega)]
  omega
theorem cmpI_eq : ∀ (xs ys : List Int), Bytes xs → Bytes ys → Lib.compareBytes (xs.map fun n => UInt8.ofNat n.toNat) (ys.map fun n => UInt8.ofNat n.toNat) = cmpI xs ys
  | [], [], _, _ => rfl
  | [], _ :: _, _, _ => rfl
  | _ :: _, [], _, _ => rfl
  | a :: l, b :: r, ha, hb => by
    have ih := cmpI_eq l r (fun x hx => ha x (List.mem_cons_of_mem _ hx)) (fun x hx => hb x (List.mem_cons_of_mem _ hx))
    have h1 := ha a (List.mem_cons_self ..)
    have h2 := hb b (List.mem_cons_self ..)
    simp only [List.map_cons, Lib.compareBytes, cmpI, u8_lt h1 h2, u8_lt h2 h1, ih]

theorem dd (w : World) (a b : Nat) : (w.drewN a).drewN b = w.drewN (a + b) := by simp [World.drewN, Nat.add_assoc]
theorem dd2 (w : World) (a b : Nat) : ∃ q, (w.drewN a).drewN b = w.drewN q := ⟨_, dd w a b⟩
theorem dd3 (w : World) (a b c : Nat) : ∃ q, ((w.drewN a).drewN b).drewN c = w.drewN q := ⟨_, by rw [dd, dd]⟩
/-- equal so far -/
def Agree (xs ys : List Int) (i : Nat) : Prop := i ≤ xs.length ∧ i ≤ ys.length ∧ cmpI xs ys = cmpI (xs.drop i) (ys.drop i)
theorem agree0 (xs ys : List Int) : Agree xs ys 0 := ⟨Nat.zero_le _, Nat.zero_le _, rfl⟩
theorem drop_at {xs : List Int} {i : Nat} (h : i < xs.length) : xs.drop i = xs.getD i 0 :: xs.drop (i + 1) := by
  rw [List.drop_eq_getElem_cons h]; simp [h]
theorem Agree.lt {xs ys : List Int} {i : Nat} (h : Agree xs ys i) (h1 : i < xs.length) (h2 : i < ys.length) (hc : xs.getD i 0 < ys.getD i 0) : cmpI xs ys = -1 := by
  rw [h.2.2, drop_at h1, drop_at h2]; simp only [cmpI, if_pos hc]
theorem Agree.gt {xs ys : List Int} {i : Nat} (h : Agree xs ys i) (h1 : i < xs.length) (h2 : i < ys.length) (hc : ys.getD i 0 < xs.getD i 0) : cmpI xs ys = 1 := by
  rw [h.2.2, drop_at h1, drop_at h2]; simp only [cmpI]; rw [if_neg (by omega), if_pos hc]
theorem Agree.step {xs ys : List Int} {i : Nat} (h : Agree xs ys i) (h1 : i < xs.length) (h2 : i < ys.length) (hc : ¬ xs.getD i 0 < ys.getD i 0) (hd : ¬ ys.getD i 0 < xs.getD i 0) : Agree xs ys (i + 1) := by
  refine ⟨h1, h2, ?_⟩
  rw [h.2.2, drop_at h1, drop_at h2]; simp only [cmpI]; rw [if_neg hc, if_neg hd]
theorem Agree.short {xs ys : List Int} {i : Nat} (h : Agree xs ys i) (h1 : i = xs.length) (h2 : xs.length < ys.length) : cmpI xs ys = -1 := by
  subst h1
  rw [h.2.2, List.drop_length, drop_at h2]; rfl
theorem Agree.long {xs ys : List Int} {i : Nat} (h : Agree xs ys i) (h1 : i = ys.length) (h2 : ys.length < xs.length) : cmpI xs ys = 1 := by
  subst h1
  rw [h.2.2, List.drop_length, drop_at h2]; rfl
theorem Agree.same {xs ys : List Int} {i : Nat} (h : Agree xs ys i) (h1 : i = xs.length) (h2 : xs.length = ys.length) : cmpI xs ys = 0 := by
  subst h1
  rw [h.2.2, List.drop_length, h2, List.drop_length]; rfl

set_option maxRecDepth 20000 in
theorem ccmp_any (p1 p2 : Option Addr) (n c m d : Nat) (xs ys : List Int) (w : World) (h1 : BIn w p1 n xs) (h2 : BIn w p2 m ys) (hn : n ≤ 9223372036854775807) (hm : m ≤ 9223372036854775807) :
    Calls Ybaf.prog 6 #[.slice p1 n c, .slice p2 m d] w fun e w' => e = .returned (.int .i64 (cmpI xs ys)) ∧ ∃ q, w' = w.drewN q := by
  have H1 : Hid _ := h1
  have H2 : Hid _ := h2
  have hx := h1.len
  have hy := h2.len
  clear h1 h2
  go_enter Ybaf.func6, Ybaf.ntmps6
  go_wp2
  go_loopw [5] (fun i wr => ∃ k : Nat, i = .int .i64 k ∧ k ≤ n ∧ k ≤ m ∧ Hid (Agree xs ys k ∧ ∃ q, wr = w.drewN q)) (fun i _ => n - (intOf i).toNat)
  case atStart => exact ⟨0, rfl, Nat.zero_le _, Nat.zero_le _, agree0 _ _, 0, rfl⟩
  case round =>
    obtain ⟨k, rfl, hkn, hkm, HA⟩ := hrel
    by_cases hn' : k < n
    · by_cases hm' : k < m
      · obtain ⟨b1, o1, rfl, hc1⟩ := H1.out.at' (by omega)
        obtain ⟨b2, o2, rfl, hc2⟩ := H2.out.at' (by omega)
        have hd1 : wr.cell? ⟨b1, o1 + k, none⟩ = some (.int .u8 (xs.getD k 0)) := by obtain ⟨q, rfl⟩ := HA.out.2; exact hc1 k hn'
        have hd2 : wr.cell? ⟨b2, o2 + k, none⟩ = some (.int .u8 (ys.getD k 0)) := by obtain ⟨q, rfl⟩ := HA.out.2; exact hc2 k hm'
        obtain ⟨x, hxk⟩ : ∃ x, x = xs.getD k 0 := ⟨_, rfl⟩
        obtain ⟨y, hyk⟩ : ∃ y, y = ys.getD k 0 := ⟨_, rfl⟩
        rw [← hxk] at hd1
        rw [← hyk] at hd2
        have HXY : Hid (x = xs.getD k 0 ∧ y = ys.getD k 0) := ⟨hxk, hyk⟩
        clear hc1 hc2 hxk hyk
        by_cases hlt : x < y
        · go_wp2
          go_quiet (fail)
          go_wp2
          go_ret
          obtain ⟨q, rfl⟩ := HA.out.2
          exact ⟨ret_int (HA.out.1.lt (by omega) (by omega) (by rw [← HXY.out.1, ← HXY.out.2]; exact hlt)).symm, dd2 _ _ _⟩
        · by_cases hgt : y < x
          · go_wp2
            go_quiet (fail)
            go_wp2
            go_quiet (fail)
            go_wp2
            go_ret
            obtain ⟨q, rfl⟩ := HA.out.2
            exact ⟨ret_int (HA.out.1.gt (by omega) (by omega) (by rw [← HXY.out.1, ← HXY.out.2]; exact hgt)).symm, dd3 _ _ _ _⟩
          · go_wp2
            go_quiet (fail)
            go_wp2
            go_quiet (fail)
            go_wp2
            go_roundw
            case rel =>
              refine ⟨k + 1, by go_num, hn', hm', HA.out.1.step (by omega) (by omega) (by rw [← HXY.out.1, ← HXY.out.2]; omega) (by rw [← HXY.out.1, ← HXY.out.2]; omega), ?_⟩
              obtain ⟨q, rfl⟩ := HA.out.2
              exact dd2 _ _ _
            case measure => simp [intOf]; omega
      · obtain rfl : k = m := by omega
        go_wp2
        go_ret
        obtain ⟨q, rfl⟩ := HA.out.2
        exact ⟨ret_int (HA.out.1.long (by omega) (by omega)).symm, _, rfl⟩
    · obtain rfl : k = n := by omega
      by_cases hlt : k < m
      · go_wp2
        go_ret
        obtain ⟨q, rfl⟩ := HA.out.2
        exact ⟨ret_int (HA.out.1.short (by omega) (by omega)).symm, _, rfl⟩
      · go_wp2
        go_ret
        obtain ⟨q, rfl⟩ := HA.out.2
        exact ⟨ret_int (HA.out.1.same (by omega) (by omega)).symm, _, rfl⟩

theorem BIn.bytesOf {w : World} {p : Option Addr} {n : Nat} {xs : List Int} (h : BIn w p n xs) (c : Nat) : (Extern.Bytes.bytesOf (.slice p n c)).run Ybaf.prog w = .ok (strOfNums xs) w := by
  rcases Nat.eq_zero_or_pos n with hn | hn
  · subst hn
    obtain rfl : xs = [] := List.eq_nil_of_length_eq_zero h.len
    cases p with
    | none => simp [Extern.Bytes.bytesOf]; rfl
    | some a => simp [Extern.Bytes.bytesOf, Extern.Bytes.loadBytes]; rfl
  · obtain ⟨b, o, rfl, hc⟩ := h.at' hn
    have hl := Lib.run_loadBytesX (P := Ybaf.prog) w xs ⟨b, o, none⟩ .empty (fun j x hj => by
      have hjl : j < xs.length := (List.getElem?_eq_some_iff.1 hj).1
      rw [Addr.add_lit, hc j (by have := h.len; omega), List.getD_eq_getElem?_getD, hj]
      rfl)
    rw [h.len] at hl
    simp only [Extern.Bytes.bytesOf]
    rw [hl]
    congr 1
    apply ByteArray.ext
    show (#[] : Array UInt8) ++ _ = _
    simp [strOfNums, Lib.bytesOf]

theorem run_compare {w : World} {p1 p2 : Option Addr} {n m : Nat} {xs ys : List Int} (h1 : BIn w p1 n xs) (h2 : BIn w p2 m ys) (c d : Nat) (b1 : Bytes xs) (b2 : Bytes ys) :
    (Extern.BytealgCompare.compare #[.slice p1 n c, .slice p2 m d]).run Ybaf.prog w = .ok (.int .i64 (cmpI xs ys)) w := by
  change Sem.run Ybaf.prog (do pure (goInt (Extern.BytealgCompare.cmp (← Extern.Bytes.bytesOf (.slice p1 n c)) (← Extern.Bytes.bytesOf (.slice p2 m d))))) w = _
  simp only [Sem.run_bind, Sem.run_pure, Result.andThen, h1.bytesOf c, h2.bytesOf d]
  rw [Lib.cmp_eq, strOfNums_data, strOfNums_data, cmpI_eq xs ys b1 b2]
  rfl

set_option maxRecDepth 20000 in
/-- bytes.Compare -/
theorem compare_any (p1 p2 : Option Addr) (n c m d : Nat) (xs ys : List Int) (w : World) (h1 : BIn w p1 n xs) (h2 : BIn w p2 m ys) (b1 : Bytes xs) (b2 : Bytes ys) :
    Calls Ybaf.prog 26 #[.slice p1 n c, .slice p2 m d] w fun e w' => e = .returned (.int .i64 (cmpI xs ys)) ∧ w' = w := by
  have hr := run_compare h1 h2 c d b1 b2
  clear h1 h2
  go_enter Ybaf.func26, Ybaf.ntmps26
  go_wp2
  rw [run_callFunc_extern Ybaf.func44 (by kernel_rfl) (by kernel_rfl) (by kernel_rfl) (e := Extern.BytealgCompare.compare) (by kernel_rfl), hr]
  simp only [Result.andThen]
  rw [Oper.upon_value]
  go_wp2
  go_ret
  exact ⟨rfl, rfl⟩
end Go.Proofs.YbulkczrmFmt
