import Derived.Test.YbulkczwiHeap
namespace Go.Proofs.Ybulkczwi
open Go.RowKit
open Go.ChangeMaps (setBlock)
set_option linter.unusedVariables false
set_option linter.unusedSimpArgs false

abbrev noStr : Value := .string ⟨#[]⟩
def descs (us : List Int) : List Value := us.flatMap dCells
abbrev imgCells (i : Nat) (v : Value) : List Value := [noStr, .string shaText, .string (aText i), .int .i64 i, .pointer none, noStr, noStr, noStr, noStr, .slice none 0 0, v]
def imgs (n : Nat) (av : Nat → Value) : List Value := (List.range n).flatMap fun i => imgCells i (av i)
abbrev msCells (e k : Nat) : List Value := [noStr, noStr, noStr, .int .i64 (1000000 + e), .pointer none, noStr, noStr, noStr, noStr, .string shaText, .string (aText k)]
def kcells (m : Nat) (key : Nat → Nat) : List Value := (List.range m).map fun e => .int .i64 (key e)
def mss (m : Nat) (key : Nat → Nat) : List Value := (List.range m).flatMap fun e => msCells e (key e)
/-- the early ones that name i, of the first e -/
def ear (key : Nat → Nat) (i e : Nat) : List Int := ((List.range e).filter fun x => key x == i).map fun x : Nat => 1000000 + (x : Int)
/-- the early ones that name no image, of the first e -/
def ear2 (key : Nat → Nat) (n e : Nat) : List Int := ((List.range e).filter fun x => decide (n ≤ key x)).map fun x : Nat => 1000000 + (x : Int)

theorem descs_append (a b : List Int) : descs (a ++ b) = descs a ++ descs b := by simp [descs]
theorem descs_one (s : Int) : descs [s] = dCells s := by simp [descs]
theorem descs_len (us : List Int) : (descs us).length = us.length * 9 := by
  induction us with
  | nil => rfl
  | cons x l ih => simp only [descs, List.flatMap_cons, List.length_append] at ih ⊢; rw [ih]; simp [dCells]; omega
theorem descs_oneCell (us : List Int) : ∀ u ∈ descs us, u.oneCell' = true := by
  intro u hu
  simp only [descs, List.mem_flatMap] at hu
  obtain ⟨x, _, hx⟩ := hu
  simp only [dCells, List.mem_cons, List.not_mem_nil, or_false] at hx
  rcases hx with rfl | rfl | rfl | rfl | rfl | rfl | rfl | rfl | rfl <;> rfl
/-- chunks of one length -/
theorem chunk_get {α : Type} (f : α → List Value) (c : Nat) (hf : ∀ x, (f x).length = c) : ∀ (l : List α) (i j : Nat), j < c → (l.flatMap f)[i * c + j]? = (l[i]?).bind fun x => (f x)[j]?
  | [], i, j, _ => by simp
  | x :: l, 0, j, hj => by
    rw [List.flatMap_cons, Nat.zero_mul, Nat.zero_add, List.getElem?_append_left (by rw [hf]; exact hj)]; rfl
  | x :: l, i + 1, j, hj => by
    rw [List.flatMap_cons, List.getElem?_append_right (by rw [hf, Nat.succ_mul]; omega), hf, show (i + 1) * c + j - c = i * c + j by rw [Nat.succ_mul]; omega, chunk_get f c hf l i j hj]
    rfl
theorem chunk_len {α : Type} (f : α → List Value) (c : Nat) (hf : ∀ x, (f x).length = c) : ∀ (l : List α), (l.flatMap f).length = l.length * c
  | [] => by simp
  | x :: l => by rw [List.flatMap_cons, List.length_append, hf, chunk_len f c hf l, List.length_cons, Nat.succ_mul]; omega
theorem ear_succ (key : Nat → Nat) (i e : Nat) : ear key i (e + 1) = if key e = i then ear key i e ++ [1000000 + (e : Int)] else ear key i e := by
  unfold ear
  rw [List.range_succ, List.filter_append]
  by_cases h : key e = i <;> simp [h]
theorem ear2_succ (key : Nat → Nat) (n e : Nat) : ear2 key n (e + 1) = if n ≤ key e then ear2 key n e ++ [1000000 + (e : Int)] else ear2 key n e := by
  unfold ear2
  rw [List.range_succ, List.filter_append]
  by_cases h : n ≤ key e <;> simp [h]

/-- A cell of a slice's row. -/
theorem Has.cell {W : World} {τ : Nat → Nat} {t : Nat} {e : TypeId} {sz g n c : Nat} {xs : List Value} (h : Has W τ t e sz (.slice (some ⟨g, 0, none⟩) n c) n xs) {j : Nat} {v : Value} (hj : xs[j]? = some v) : W.cell? ⟨g, j, none⟩ = some v ∧ W.frozen? ⟨g, j, none⟩ = false := by
  rcases h.own.2 with ⟨h1, _⟩ | ⟨g', cap, cur, hv, hb, hg, hn, hm, hs, ht⟩
  · cases h1
  · simp only [Value.slice.injEq, Option.some.injEq, Addr.mk.injEq, and_true, true_and] at hv
    obtain ⟨rfl, rfl⟩ := hv
    refine ⟨?_, frozen_of_row _ _ _ _ _ hg⟩
    rw [cell_of_row _ _ _ _ _ _ hg]
    have hjl : j < n * sz := by rw [← h.own.1]; exact (List.getElem?_eq_some_iff.1 hj).1
    rw [← ht, List.getElem?_take, if_pos hjl] at hj
    simpa using hj

/-- The state that attachEarly finds and keeps. -/
structure Base (W : World) (τ : Nat → Nat) (cb pm gM cM n m : Nat) (vI vU vK : Value) (key : Nat → Nat) (av Pv : Nat → Value) (Pr : Nat → List Int) (us : List Int) : Prop where
  cat : Blk W τ 2 cb (.cells #[vI, .map (some pm), vU] 31 (0, 0))
  pos : Blk W τ 3 pm (.map (posEs n) n)
  img : Has W τ 4 43 11 vI n (imgs n av)
  una : Has W τ 5 40 9 vU us.length (descs us)
  pri : ∀ i, i < n → Has W τ (100 + i) 40 9 (Pv i) (Pr i).length (descs (Pr i))
  ms : Has W τ 7 49 11 (.slice (some ⟨gM, 0, none⟩) m cM) m (mss m key)
  kys : Has W τ 6 3 1 vK m (kcells m key)
theorem Base.step {W W' : World} {τ τ' : Nat → Nat} {t0 cb pm gM cM n m : Nat} {vI vU vK : Value} {key : Nat → Nat} {av Pv : Nat → Value} {Pr : Nat → List Int} {us : List Int} (h : Base W τ cb pm gM cM n m vI vU vK key av Pv Pr us) (s : Stp t0 W τ W' τ') (ht : t0 = 1 ∨ (8 ≤ t0 ∧ t0 < 100) ∨ 1000 ≤ t0) (hn : n ≤ 300) : Base W' τ' cb pm gM cM n m vI vU vK key av Pv Pr us :=
  ⟨h.cat.step s (by omega), h.pos.step s (by omega), h.img.step s (by omega), h.una.step s (by omega), fun i hi => (h.pri i hi).step s (by omega), h.ms.step s (by omega), h.kys.step s (by omega)⟩

/-- The groups. -/
structure Grp (W : World) (τ : Nat → Nat) (bm n e : Nat) (ord : List Nat) (gv : Nat → Value) (key : Nat → Nat) : Prop where
  map : Blk W τ 8 bm (.map (befEs ord gv) ord.length)
  nd : ord.Nodup
  mem : ∀ i, i ∈ ord ↔ i < n ∧ ∃ x, x < e ∧ key x = i
  own : ∀ i, i ∈ ord → Has W τ (1000 + i) 40 9 (gv i) (ear key i e).length (descs (ear key i e))
theorem Grp.step {W W' : World} {τ τ' : Nat → Nat} {t0 bm n e : Nat} {ord : List Nat} {gv : Nat → Value} {key : Nat → Nat} (h : Grp W τ bm n e ord gv key) (s : Stp t0 W τ W' τ') (ht : t0 < 8 ∨ (8 < t0 ∧ t0 < 1000)) : Grp W' τ' bm n e ord gv key :=
  ⟨h.map.step s (by omega), h.nd, h.mem, fun i hi => (h.own i hi).step s (by omega)⟩
end Go.Proofs.Ybulkczwi
