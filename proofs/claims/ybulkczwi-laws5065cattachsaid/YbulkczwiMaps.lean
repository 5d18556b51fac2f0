import Derived.Test.YbulkczwiDigest
import Derived.Maps.RangeRun
import Derived.Maps.AppendAt
import Derived.Maps.Keyed
import Derived.DeepKeys4
namespace Go.Proofs.Ybulkczwi
open Go.RowKit
open Go.ChangeMaps (setBlock)
open Go.Maps (Keyed)
set_option linter.unusedVariables false
set_option linter.unusedSimpArgs false

abbrev dig (k : Nat) : Value := .agg #[.string shaText, .string (aText k)]
theorem dig_inj {i j : Nat} (h : dig i = dig j) : i = j := by
  simp only [dig, Value.agg.injEq, Array.mk.injEq, List.cons.injEq, Value.string.injEq, and_true, true_and] at h
  exact aText_inj h

theorem laidOut : laidOutB Yba.prog = true := by kernel_rfl
theorem keyed33 : Keyed Yba.prog 33 := Keyed.of_law (deep_law_laid laidOut (m := 3) (by decide) (of_decide_eq_true (by kernel_rfl)) (by kernel_rfl) (by kernel_rfl))
theorem keyed3 : Keyed Yba.prog 3 := Maps.int_keyed Yba.underlying3
theorem c33 : Yba.prog.cellsOf 33 = 2 := by kernel_rfl
theorem c9 : Yba.prog.cellsOf 9 = 1 := by kernel_rfl
theorem keyLits9 (d : Nat) (a : ByteArray) (h : a.size ≤ maxLen) : Yba.prog.keyLits (d + 1) 9 [.string a] = some [.string a.data.toList] := by
  unfold Program.keyLits
  simp [Yba.underlying9, h]
theorem keyLits33 (d : Nat) (a b : ByteArray) (ha : a.size ≤ maxLen) (hb : b.size ≤ maxLen) : Yba.prog.keyLits (d + 2) 33 [.string a, .string b] = some [.string a.data.toList, .string b.data.toList] := by
  unfold Program.keyLits
  simp [Yba.underlying33, c33, c9, keyLits9, ha, hb]
theorem keyOf_dig (k : Nat) (hk : k ≤ 1000) : ∃ l, keyOf Yba.prog 33 (dig k) = some l := by
  have hs : (aText k).size ≤ maxLen := by
    show (aText k).data.size ≤ _
    simp [aText, strOfNums, maxLen]; omega
  have h1 : Yba.prog.keyType 33 = true := by kernel_rfl
  have h2 : (dig k).formed Yba.prog 33 = true := by
    simp [Value.formed, Yba.underlying33]
    kernel_rfl
  have ht : Yba.prog.types.size = 77 := by kernel_rfl
  have hs2 : shaText.size ≤ maxLen := by decide
  unfold keyOf
  simp only [Yba.underlying33, h1, h2, Bool.and_true, if_true, ht, Value.cells]
  exact ⟨_, by rw [show (77 + 1 : Nat) = 76 + 2 from rfl, keyLits33 76 _ _ hs2 hs]; rfl⟩

/-! ### The laws of a map whose entries are known -/

/-- every key reads as a key; no key stands twice -/
structure GoodM (P : Program) (k : TypeId) (es : Array MapEntry) : Prop where
  key : ∀ x ∈ es.toList, ∃ l, keyOf P k x.key = some l
  one : ∀ (i j : Nat) (x y : MapEntry), es[i]? = some x → es[j]? = some y → x.key = y.key → i = j

section
variable {P : Program} {k e t : TypeId} {w : World} {b : Nat} {es : Array MapEntry} {clock : Nat}

theorem look_hit (K : Keyed P k) (ht : P.underlying t = some (.map k e)) (hb : w.heap[b]? = some (.map es clock)) (hg : GoodM P k es) {i : Nat} {x : MapEntry} (hx : es[i]? = some x) (c : Bool) :
    (Instr.lookup t (.map (some b)) x.key c).run P w = .ok (if c then .tuple #[x.val, .bool true] else x.val) w := by
  obtain ⟨l, hl⟩ := hg.key x (by simpa using Array.mem_of_getElem? hx)
  have hc := K.check w es.isEmpty hl
  rcases K.find w hl es.toList hg.key with ⟨_, h2⟩ | ⟨j, y, h1, h2, h3⟩
  · exact absurd rfl (h2 x (by simpa using Array.mem_of_getElem? hx))
  · have hij := hg.one j i y x (by simpa using h2) hx h3
    subst hij
    have hxy : y = x := Option.some.inj ((by simpa using h2 : es[j]? = some y).symm.trans hx)
    subst hxy
    cases c <;> simp [Instr.lookup, run_underlying ht, getObj, Sem.run, hb, hc, h1]

theorem look_miss (K : Keyed P k) (ht : P.underlying t = some (.map k e)) {z : Value} (hz : (zeroValue e).run P w = .ok z w) (hb : w.heap[b]? = some (.map es clock)) (hg : GoodM P k es) {key : Value} {l : Lit} (hl : keyOf P k key = some l) (hm : ∀ x ∈ es.toList, x.key ≠ key) (c : Bool) :
    (Instr.lookup t (.map (some b)) key c).run P w = .ok (if c then .tuple #[z, .bool false] else z) w := by
  have hc := K.check w es.isEmpty hl
  rcases K.find w hl es.toList hg.key with ⟨h1, _⟩ | ⟨j, y, h1, h2, h3⟩
  · cases c <;> simp [Instr.lookup, run_underlying ht, getObj, Sem.run, hb, hc, h1, hz]
  · exact absurd h3 (hm y (List.mem_of_getElem? h2))

theorem update_new (K : Keyed P k) (ht : P.underlying t = some (.map k e)) (hb : w.heap[b]? = some (.map es clock)) (hg : GoodM P k es) {key v : Value} {l : Lit} (hl : keyOf P k key = some l) (hm : ∀ x ∈ es.toList, x.key ≠ key) :
    (Instr.mapUpdate t (.map (some b)) key v).run P w = .ok () (setBlock w b (.map (es.push { key := key, val := v, born := clock }) (clock + 1))) := by
  have hc := K.check w false hl
  rcases K.find w hl es.toList hg.key with ⟨h1, _⟩ | ⟨j, y, h1, h2, h3⟩
  · simp [Instr.mapUpdate, run_underlying ht, getObj, setObj, Sem.run, hb, hc, h1, setBlock]
  · exact absurd h3 (hm y (List.mem_of_getElem? h2))

theorem update_old (K : Keyed P k) (ht : P.underlying t = some (.map k e)) (hb : w.heap[b]? = some (.map es clock)) (hg : GoodM P k es) {i : Nat} {x : MapEntry} (hx : es[i]? = some x) (v : Value) :
    (Instr.mapUpdate t (.map (some b)) x.key v).run P w = .ok () (setBlock w b (.map (es.set! i { x with val := v }) clock)) := by
  obtain ⟨l, hl⟩ := hg.key x (by simpa using Array.mem_of_getElem? hx)
  have hc := K.check w false hl
  rcases K.find w hl es.toList hg.key with ⟨_, h2⟩ | ⟨j, y, h1, h2, h3⟩
  · exact absurd rfl (h2 x (by simpa using Array.mem_of_getElem? hx))
  · have hij := hg.one j i y x (by simpa using h2) hx h3
    subst hij
    have hxy : y = x := Option.some.inj ((by simpa using h2 : es[j]? = some y).symm.trans hx)
    subst hxy
    have hst := K.stays w hl
    have hmod : es.modify j (fun e => { e with key := y.key, val := v }) = es.set! j { y with val := v } := by
      apply Array.ext_getElem?
      intro q
      simp only [Array.getElem?_modify, Array.set!_eq_setIfInBounds, Array.getElem?_setIfInBounds]
      have hjlt : j < es.size := (Array.getElem?_eq_some_iff.1 hx).1
      by_cases e : j = q
      · subst e
        have hj' : es[j] = y := by
          have := Array.getElem?_eq_getElem hjlt
          rw [hx] at this
          exact (Option.some.inj this).symm
        simp [hjlt, hj']
      · simp [e]
    simp [Instr.mapUpdate, run_underlying ht, getObj, setObj, Sem.run, hb, hc, h1, hx, hst, setBlock, hmod]
end

/-! ### position: the digest of i at i -/
def posAt (i : Nat) : MapEntry := { key := dig i, val := .int .i64 i, born := i }
def posEs (n : Nat) : Array MapEntry := ((List.range n).map posAt).toArray
theorem posEs_size (n : Nat) : (posEs n).size = n := by simp [posEs]
theorem posEs_get (n i : Nat) : (posEs n)[i]? = if i < n then some (posAt i) else none := by
  by_cases h : i < n <;> simp [posEs, h]
theorem posEs_good {n : Nat} (hn : n ≤ 1000) : GoodM Yba.prog 33 (posEs n) := by
  refine ⟨fun x hx => ?_, fun i j x y hx hy he => ?_⟩
  · simp only [posEs, List.mem_map, List.mem_range] at hx
    obtain ⟨i, hi, rfl⟩ := hx
    exact keyOf_dig i (by omega)
  · rw [posEs_get] at hx hy
    split at hx
    · split at hy
      · obtain rfl := Option.some.inj hx
        obtain rfl := Option.some.inj hy
        exact dig_inj he
      · cases hy
    · cases hx
theorem posEs_push (n : Nat) : (posEs n).push (posAt n) = posEs (n + 1) := by
  simp [posEs, List.range_succ]
theorem pos_hit {w : World} {b n k : Nat} (hb : w.heap[b]? = some (.map (posEs n) n)) (hn : n ≤ 1000) (hk : k < n) : (Instr.lookup 27 (.map (some b)) (dig k) true).run Yba.prog w = .ok (.tuple #[.int .i64 k, .bool true]) w :=
  look_hit keyed33 Yba.underlying27 hb (posEs_good hn) (i := k) (x := posAt k) (by rw [posEs_get, if_pos hk]) true
theorem zero3 (w : World) : (zeroValue 3).run Yba.prog w = .ok (.int .i64 0) w := by
  have h : (Yba.prog.info? 3).map (·.zero) = some (some (.int .i64 0)) := by kernel_rfl
  obtain ⟨i, hi, hz⟩ := Option.map_eq_some_iff.1 h
  simp [zeroValue, typeInfo, hi, hz]
theorem zero29 (w : World) : (zeroValue 29).run Yba.prog w = .ok (.slice none 0 0) w := by
  have h : (Yba.prog.info? 29).map (·.zero) = some (some (.slice none 0 0)) := by kernel_rfl
  obtain ⟨i, hi, hz⟩ := Option.map_eq_some_iff.1 h
  simp [zeroValue, typeInfo, hi, hz]
theorem pos_no {n k : Nat} (hk : n ≤ k) : ∀ x ∈ (posEs n).toList, x.key ≠ dig k := by
  intro x hx
  simp only [posEs, List.mem_map, List.mem_range] at hx
  obtain ⟨i, hi, rfl⟩ := hx
  intro e
  have := dig_inj e
  omega
theorem pos_miss {w : World} {b n k : Nat} (hb : w.heap[b]? = some (.map (posEs n) n)) (hn : n ≤ 1000) (hk : n ≤ k) (hk' : k ≤ 1000) : (Instr.lookup 27 (.map (some b)) (dig k) true).run Yba.prog w = .ok (.tuple #[.int .i64 0, .bool false]) w := by
  obtain ⟨l, hl⟩ := keyOf_dig k hk'
  exact look_miss keyed33 Yba.underlying27 (zero3 w) hb (posEs_good hn) hl (pos_no hk) true
theorem pos_put {w : World} {b n : Nat} (hb : w.heap[b]? = some (.map (posEs n) n)) (hn : n ≤ 1000) : (Instr.mapUpdate 27 (.map (some b)) (dig n) (.int .i64 n)).run Yba.prog w = .ok () (setBlock w b (.map (posEs (n + 1)) (n + 1))) := by
  obtain ⟨l, hl⟩ := keyOf_dig n hn
  rw [← posEs_push]
  exact update_new keyed33 Yba.underlying27 hb (posEs_good hn) hl (pos_no (Nat.le_refl _))

/-! ### before: at i the slice gv i, for the i of ord, in that order -/
theorem wf_i (i : Nat) (hi : i ≤ 1000) : (Lit.int .i64 (i : Int)).wf = true := by
  have h1 : IntKind.i64.min = -9223372036854775808 := by decide
  have h2 : IntKind.i64.max = 9223372036854775807 := by decide
  simp [Lit.wf, h1, h2]; omega
def befAt (gv : Nat → Value) (b i : Nat) : MapEntry := { key := .int .i64 i, val := gv i, born := b }
def befEs (ord : List Nat) (gv : Nat → Value) : Array MapEntry := (ord.mapIdx (befAt gv)).toArray
theorem befEs_get (ord : List Nat) (gv : Nat → Value) (j : Nat) : (befEs ord gv)[j]? = (ord[j]?).map (befAt gv j) := by
  simp [befEs]
theorem befEs_good {ord : List Nat} {gv : Nat → Value} (hs : ∀ i ∈ ord, i ≤ 1000) (hd : ord.Nodup) : GoodM Yba.prog 3 (befEs ord gv) := by
  refine ⟨fun x hx => ?_, fun i j x y hx hy he => ?_⟩
  · simp only [befEs, List.mem_mapIdx] at hx
    obtain ⟨i, hi, rfl⟩ := hx
    have := hs _ (List.getElem_mem hi)
    exact ⟨_, Maps.keyOf_int_mk Yba.underlying3 (wf_i _ this)⟩
  · rw [befEs_get] at hx hy
    obtain ⟨p, hp, rfl⟩ := Option.map_eq_some_iff.1 hx
    obtain ⟨q, hq, rfl⟩ := Option.map_eq_some_iff.1 hy
    have hpq : p = q := by
      have : (p : Int) = (q : Int) := by simpa [befAt] using he
      omega
    subst hpq
    exact (List.getElem?_inj (List.getElem?_eq_some_iff.1 hp).1 hd).1 (hp.trans hq.symm)
theorem bef_no {ord : List Nat} {gv : Nat → Value} {i : Nat} (hi : i ∉ ord) : ∀ x ∈ (befEs ord gv).toList, x.key ≠ .int .i64 i := by
  intro x hx
  simp only [befEs, List.mem_mapIdx] at hx
  obtain ⟨j, hj, rfl⟩ := hx
  intro e
  have : ord[j] = i := by
    have : ((ord[j] : Nat) : Int) = (i : Int) := by simpa [befAt] using e
    omega
  exact hi (this ▸ List.getElem_mem hj)
theorem key_i (i : Nat) (hi : i ≤ 1000) : keyOf Yba.prog 3 (.int .i64 i) = some (.int .i64 i) := Maps.keyOf_int_mk Yba.underlying3 (wf_i i hi)
theorem bef_hit {w : World} {b c i : Nat} {ord : List Nat} {gv : Nat → Value} (hb : w.heap[b]? = some (.map (befEs ord gv) c)) (hs : ∀ i ∈ ord, i ≤ 1000) (hd : ord.Nodup) (hi : i ∈ ord) :
    (Instr.lookup 56 (.map (some b)) (.int .i64 i) false).run Yba.prog w = .ok (gv i) w := by
  obtain ⟨j, hj, rfl⟩ := List.getElem_of_mem hi
  exact look_hit keyed3 Yba.underlying56 hb (befEs_good hs hd) (i := j) (x := befAt gv j ord[j]) (by rw [befEs_get, List.getElem?_eq_getElem hj]; rfl) false
theorem bef_miss {w : World} {b c i : Nat} {ord : List Nat} {gv : Nat → Value} (hb : w.heap[b]? = some (.map (befEs ord gv) c)) (hs : ∀ i ∈ ord, i ≤ 1000) (hd : ord.Nodup) (hi : i ∉ ord) (hi' : i ≤ 1000) :
    (Instr.lookup 56 (.map (some b)) (.int .i64 i) false).run Yba.prog w = .ok (.slice none 0 0) w :=
  look_miss keyed3 Yba.underlying56 (zero29 w) hb (befEs_good hs hd) (key_i i hi') (bef_no hi) false
def put (gv : Nat → Value) (i : Nat) (v : Value) : Nat → Value := fun x => if x = i then v else gv x
theorem bef_put_new {w : World} {b i : Nat} {ord : List Nat} {gv : Nat → Value} (hb : w.heap[b]? = some (.map (befEs ord gv) ord.length)) (hs : ∀ i ∈ ord, i ≤ 1000) (hd : ord.Nodup) (hi : i ∉ ord) (hi' : i ≤ 1000) (v : Value) :
    (Instr.mapUpdate 56 (.map (some b)) (.int .i64 i) v).run Yba.prog w = .ok () (setBlock w b (.map (befEs (ord ++ [i]) (put gv i v)) (ord.length + 1))) := by
  rw [update_new keyed3 Yba.underlying56 hb (befEs_good hs hd) (key_i i hi') (bef_no hi)]
  congr 3
  simp only [befEs, List.push_toArray, List.mapIdx_append]
  congr 1
  congr 1
  · apply List.ext_getElem?
    intro q
    simp only [List.getElem?_mapIdx]
    cases h : ord[q]? with
    | none => rfl
    | some x =>
      have : x ≠ i := fun e => hi (e ▸ List.mem_of_getElem? h)
      simp [befAt, put, this]
  · simp [befAt, put]
theorem bef_put_old {w : World} {b i : Nat} {ord : List Nat} {gv : Nat → Value} (hb : w.heap[b]? = some (.map (befEs ord gv) ord.length)) (hs : ∀ i ∈ ord, i ≤ 1000) (hd : ord.Nodup) (hi : i ∈ ord) (v : Value) :
    (Instr.mapUpdate 56 (.map (some b)) (.int .i64 i) v).run Yba.prog w = .ok () (setBlock w b (.map (befEs ord (put gv i v)) ord.length)) := by
  obtain ⟨j, hj, rfl⟩ := List.getElem_of_mem hi
  have h := update_old keyed3 Yba.underlying56 hb (befEs_good hs hd) (i := j) (x := befAt gv j ord[j]) (by rw [befEs_get, List.getElem?_eq_getElem hj]; rfl) v
  refine Eq.trans h ?_
  congr 3
  apply Array.ext_getElem?
  intro q
  rw [befEs_get, Array.set!_eq_setIfInBounds, Array.getElem?_setIfInBounds, befEs_get]
  have hsz : (befEs ord gv).size = ord.length := by simp [befEs]
  by_cases e : j = q
  · subst e
    simp [hsz, hj, befAt, put]
  · rw [if_neg e]
    cases h : ord[q]? with
    | none => rfl
    | some x =>
      have : x ≠ ord[j] := fun e' => e ((List.getElem?_inj hj hd).1 (by rw [List.getElem?_eq_getElem hj, h, e']))
      simp [befAt, put, this]
end Go.Proofs.Ybulkczwi
