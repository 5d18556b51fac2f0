import Derived.Test.YbulkczrmFmtPlain
namespace Go.Proofs.YbulkczrmFmt
open Go.RowKit
set_option linter.unusedVariables false
set_option linter.unusedSimpArgs false

def tailO (sz k : Nat) : Nat := if k = sz then 0 else k
theorem slice_tail (g sz k : Nat) (hk : k ≤ sz) (K : Int) (hK : K = (k : Int)) (W : World) :
    (Instr.slice 27 (.slice (some ⟨g, 0, none⟩) sz sz) (some (.int .i64 K)) none none).run Ybaf.prog W = .ok (.slice (some ⟨g, tailO sz k, none⟩) (sz - k) (sz - k)) W := by
  subst hK
  rw [run_slice_l W 27 _ _ _ (by rw [elem27]; exact Ybaf.underlying27) .i64 _ (by omega) (by omega), elem27, sizeOf5]
  by_cases h : sz = k
  · subst h; simp [sliced, Result.andThen, tailO]
  · have h' : ¬ k = sz := fun e => h e.symm
    simp [sliced, h, h', Addr.add_lit, Result.andThen, tailO]
theorem u16_in {n : Int} (h : 0 ≤ n) (h' : n < 65536) : IntKind.u16.wrap n = n := by
  simp only [IntKind.wrap, IntKind.bits, IntKind.signed, Bool.false_and, Int.reducePow]
  simp; omega
theorem splice_none {α : Type} (L : List α) (p : Nat) : splice L p [] = L := by simp [splice]
theorem bcells_splice (Y ks : List Int) (p : Nat) : splice (bcells Y) p (bcells ks) = bcells (splice Y p ks) := by simp [splice, bcells]
theorem cell_alloc {w : World} {a : Addr} {v : Value} (o : Obj) (h : w.cell? a = some v) : (w.alloc o).cell? a = some v := by
  rw [World.cell?_alloc_lt _ _ _ (World.block_lt_of_cell? w _ h)]; exact h
theorem cell_upd {S : List Nat} {w w' : World} {a : Addr} {v : Value} (hu : Upd S w w') (h : w.cell? a = some v) (hS : a.block ∉ S) : w'.cell? a = some v := by
  rw [World.cell?_of_block (hu.block _ (World.block_lt_of_cell? _ _ h) hS)]; exact h

/-- 'copy' of bytes into the row at g, as one step of a region that draws its order. -/
theorem step_copy_upd {P : Program} {ops : Array Oper} {o : Oper} {a : Act} {w : World} {K : Act → World → Prop} {Q : Exit → Act → World → Prop} {E : Prop} (hgd : o.guard = none) (d s : Operand) (dT sT : TypeId)
    (ho : o.op = .call { callee := .builtin .copy, args := #[d, s], argTypes := #[dT, sT] }) (elem : TypeId) (hu : P.underlying dT = some (.slice elem)) (hsz : (P.info? elem).map (·.size) = some 1)
    (g off dLen dCap : Nat) (ad : Addr) (sLen sCap : Nat) (hd : a.eval d = .slice (some ⟨g, off, none⟩) dLen dCap) (hs : a.eval s = .slice (some ad) sLen sCap)
    (cur : List Value) (t : TypeId) (cs : List Value) (c : Nat) (hc : cs.length = c) (hn : c = Nat.min sLen dLen)
    (hg : w.heap[g]? = some (.cells cur.toArray t (0, 0)))
    (hsrc : ∀ j v, cs[j]? = some v → w.cell? (ad.add j) = some v) (hfit : off + cs.length ≤ cur.length) (h1 : ∀ v ∈ cs, v.oneCell' = true)
    (h : ∀ w', Hid (w'.heap[g]? = some (.cells (splice cur off cs).toArray t (0, 0)) ∧ Upd [g] w w') → K (a.put o.dst (.int .i64 c)) w') :
    if Region.wanted o (yielded ops a.tmps) = true then Oper.wp P o a w K Q else E := by
  subst hc
  have hw : Region.wanted o (yielded ops a.tmps) = true := by simp [Region.wanted, hgd]
  rw [if_pos hw]
  have hrun := run_copy_row (P := P) w dT sT o.type elem g off dLen dCap ad sLen sCap cur.toArray t cs hu hsz hg hn hsrc (by simpa using hfit) h1
  unfold Oper.wp
  simp [execOp, ho, resolve, invoke, builtin, hd, hs, hrun, Result.andThen]
  exact h _ ⟨by simpa [splice] using setRow_heap w g _ _ t _ hg, (Upd.refl _ _).setRow (by simp) _⟩
/-- 'copy' of nothing, as one step of a region that draws its order. -/
theorem step_copy_nothing {P : Program} {ops : Array Oper} {o : Oper} {a : Act} {w : World} {K : Act → World → Prop} {Q : Exit → Act → World → Prop} {E : Prop} (hgd : o.guard = none) (d s : Operand) (dT sT : TypeId)
    (ho : o.op = .call { callee := .builtin .copy, args := #[d, s], argTypes := #[dT, sT] }) (elem : TypeId) (hu : P.underlying dT = some (.slice elem)) (hsz : (P.info? elem).map (·.size) = some 1)
    (dp sp : Option Addr) (dLen dCap sLen sCap : Nat) (hd : a.eval d = .slice dp dLen dCap) (hs : a.eval s = .slice sp sLen sCap) (hn : Nat.min sLen dLen = 0)
    (h : K (a.put o.dst (.int .i64 0)) w) :
    if Region.wanted o (yielded ops a.tmps) = true then Oper.wp P o a w K Q else E := by
  have hw : Region.wanted o (yielded ops a.tmps) = true := by simp [Region.wanted, hgd]
  rw [if_pos hw]
  have hrun := run_copy_none (P := P) w dT sT o.type elem dp sp dLen dCap sLen sCap hu hsz hn
  unfold Oper.wp
  simp [execOp, ho, resolve, invoke, builtin, hd, hs, hrun, Result.andThen]
  exact h

/-- Half way through a 'setCell': the page holds Y; the boxed cell and the table stand. -/
structure Mid (w W : World) (g : Nat) (Y : List Int) (B : Nat) (kv : Value) : Prop where
  page : W.heap[g]? = some (.cells (bcells Y).toArray 5 (0, 0))
  c0 : W.cell? ⟨B, 0, none⟩ = some kv
  c1 : W.cell? ⟨B, 1, none⟩ = some (.slice none 0 0)
  c2 : W.cell? ⟨B, 2, none⟩ = some (.int .u32 0)
  upd : Upd [g] w W
  kinds : Kinds W
theorem Mid.next {w W W' : World} {g : Nat} {Y Y' : List Int} {B : Nat} {kv : Value} (h : Mid w W g Y B kv) (hp : W'.heap[g]? = some (.cells (bcells Y').toArray 5 (0, 0))) (hu : Upd [g] W W') (hB : B ≠ g) (h0 : 0 ≠ g) : Mid w W' g Y' B kv :=
  ⟨hp, cell_upd hu h.c0 (by simpa using hB), cell_upd hu h.c1 (by simpa using hB), cell_upd hu h.c2 (by simpa using hB), h.upd.trans hu, ⟨cell_upd hu h.kinds.leaf (by simpa using h0), cell_upd hu h.kinds.int (by simpa using h0)⟩⟩
theorem Mid.start {w : World} {g : Nat} {Y : List Int} {kv : Value} (h : w.heap[g]? = some (.cells (bcells Y).toArray 5 (0, 0))) (hK : Kinds w) (o : Obj) : Mid w ((w.alloc (.cells #[kv, .slice none 0 0, .int .u32 0] 55)).alloc o) g Y w.heap.size kv := by
  refine ⟨allocB _ (allocB _ h), ?_, ?_, ?_, ((Upd.refl _ _).alloc _).alloc _, hK.cell fun a v ha => cell_alloc _ (cell_alloc _ ha)⟩ <;>
  · apply cell_alloc; rw [World.cell?_alloc_new]; rfl
theorem Mid.drew {w W : World} {g : Nat} {Y : List Int} {B : Nat} {kv : Value} (h : Mid w W g Y B kv) : Mid w W.drew g Y B kv := ⟨h.page, h.c0, h.c1, h.c2, h.upd.drew, ⟨h.kinds.leaf, h.kinds.int⟩⟩

theorem src_of {w W : World} {g b o kl : Nat} {kb : List Int} (hu : Upd [g] w W) (hl : kb.length = kl) (hc : ∀ j, j < kl → w.cell? ⟨b, o + j, none⟩ = some (.int .u8 (kb.getD j 0))) (hb : b ≠ g) : ∀ j v, (bcells kb)[j]? = some v → W.cell? ((⟨b, o, none⟩ : Addr).add j) = some v := by
  intro j v hj
  have hjl : j < kl := by
    rcases Nat.lt_or_ge j kl with h | h
    · exact h
    · rw [List.getElem?_eq_none (by rw [bcells_len]; omega)] at hj; cases hj
  rw [Addr.add_lit]
  have := cell_upd hu (hc j hjl) (by simpa using hb)
  rw [this]
  simp [bcells] at hj
  obtain ⟨a, ha, rfl⟩ := hj
  simp [ha]

set_option maxRecDepth 20000 in
set_option maxHeartbeats 1000000 in
theorem setCell_leaf (g i A sz kl c b o : Nat) (kb X : List Int) (w : World) (h : w.heap[g]? = some (.cells (bcells X).toArray 5 (0, 0))) (hX : X.length = sz) (hs : sz < 65536) (h2 : X.getD 0 0 = ((1 : Nat) : Int))
    (hi : 4 + 2 * i + 2 ≤ A) (hfit : A + 4 + kl + 8 ≤ sz) (hK : Kinds w) (hg0 : 0 ≠ g) (hk0 : 0 < kl) (hkl : kb.length = kl) (hb : b ≠ g) (hcells : ∀ j, j < kl → w.cell? ⟨b, o + j, none⟩ = some (.int .u8 (kb.getD j 0))) :
    Calls Ybaf.prog 21 #[.slice (some ⟨g, 0, none⟩) sz sz, .int .i64 i, .int .i64 A, .agg #[.slice (some ⟨b, o, none⟩) kl c, .slice none 0 0, .int .u32 0]] w fun e w' => e = .returned (.tuple #[]) ∧
      w'.heap[g]? = some (.cells (bcells (cellX 1 i A 4 kl kb X)).toArray 5 (0, 0)) ∧ Upd [g] w w' := by
  have hlt := lt_of_block h
  have HG : Hid (X.length = sz ∧ X.getD 0 0 = ((1 : Nat) : Int)) := ⟨hX, h2⟩
  have HC : Hid (kb.length = kl ∧ ∀ j, j < kl → w.cell? ⟨b, o + j, none⟩ = some (.int .u8 (kb.getD j 0))) := ⟨hkl, hcells⟩
  have HL : Hid ((bcells kb).length = kl ∧ kl = Nat.min kl (sz - (A + 4))) := ⟨by rw [bcells_len]; exact hkl, by show kl = min kl (sz - (A + 4)); omega⟩
  have HM : ∀ ob, Hid (Mid w ((w.alloc (.cells #[.slice (some ⟨b, o, none⟩) kl c, .slice none 0 0, .int .u32 0] 55)).alloc ob) g X w.heap.size (.slice (some ⟨b, o, none⟩) kl c)) := fun ob => Mid.start h hK ob
  have hne : w.heap.size ≠ g := by omega
  have hlt0 := World.block_lt_of_cell? w _ hK.leaf
  obtain ⟨q, hq⟩ : ∃ q : Nat, q = 0 := ⟨0, rfl⟩
  have hsl1 := slice_from g sz (4 + 2 * i) (by omega) (4 + 2 * (i : Int)) (by omega)
  have hsl2 := slice_from g sz A (by omega) (A : Int) rfl
  have hsl3 := slice_from g sz (A + 2) (by omega) ((A : Int) + 2) (by omega)
  have hsl4 := slice_from g sz (A + 4) (by omega) ((A : Int) + 4) (by omega)
  have hsl5 := slice_from g sz (A + 4 + kl) (by omega) ((A : Int) + 4 + (kl : Int)) (by omega)
  have hw1 : IntKind.i64.wrap (2 * (i : Int)) = 2 * (i : Int) := i64_in (by omega)
  have hw2 : IntKind.i64.wrap (4 + 2 * (i : Int)) = 4 + 2 * (i : Int) := i64_in (by omega)
  have hwA : IntKind.u16.wrap (A : Int) = (A : Int) := u16_in (by omega) (by omega)
  have hwk : IntKind.u16.wrap (kl : Int) = (kl : Int) := u16_in (by omega) (by omega)
  have hw0 : IntKind.u16.wrap (0 : Int) = 0 := u16_in (by omega) (by omega)
  have hwA2 : IntKind.i64.wrap ((A : Int) + 2) = (A : Int) + 2 := i64_in (by omega)
  have hwA4 : IntKind.i64.wrap ((A : Int) + 4) = (A : Int) + 4 := i64_in (by omega)
  have hwA5 : IntKind.i64.wrap ((A : Int) + 4 + (kl : Int)) = (A : Int) + 4 + (kl : Int) := i64_in (by omega)
  clear h hX h2 hK hq hkl hcells
  go_enter Ybaf.func21, Ybaf.ntmps21
  go_wp2
  go_region_held3 (fun w' => True) (go_keep) (first | (go_at_call 20; refine (put16_any g (4 + 2 * i) (sz - (4 + 2 * i)) (sz - (4 + 2 * i)) A X _ (by exact (HM _).out.page) (by have := HG.out.1; omega) (by omega) (by omega)).mono ?_; rintro e w2 ⟨rfl, hp2, hu2⟩))
  have M2 : Hid (Mid w w2 g (put16 X (4 + 2 * i) A) w.heap.size (.slice (some ⟨b, o, none⟩) kl c)) := Mid.next (Mid.drew (HM _).out) hp2 hu2 hne hg0
  obtain ⟨m9, m0, m1, m2, m8, ⟨n0, n1⟩⟩ := M2.out
  clear m9 m8
  have z2 := World.block_lt_of_cell? w2 _ m0
  have y2 := World.block_lt_of_cell? w2 _ n0
  have e2 : w2.cell? ⟨w.heap.size + 1, 0, none⟩ = none ∨ True := Or.inr trivial
  clear hp2 hu2 hsl1 HM
  go_wp2
  go_region_held3 (fun w' => w'.cell? ⟨w.heap.size, 0, none⟩ = some (.slice (some ⟨b, o, none⟩) kl c)) (first | go_keep | (exact cell_upd hu3 ‹_› (by simpa using hne))) (first | (go_at_call 20; refine (put16_any g A (sz - A) (sz - A) kl (put16 X (4 + 2 * i) A) _ (by exact M2.out.page) (by rw [len_put16]; have := HG.out.1; omega) (by omega) (by omega)).mono ?_; rintro e w3 ⟨rfl, hp3, hu3⟩))
  have M3 : Hid (Mid w w3 g (put16 (put16 X (4 + 2 * i) A) A kl) w.heap.size (.slice (some ⟨b, o, none⟩) kl c)) := Mid.next (Mid.drew M2.out) hp3 hu3 hne hg0
  clear m0 m1 m2 n0 n1 hp3 hu3 hsl2 M2 z2 y2
  obtain ⟨m9, m0, m1, m2, m8, ⟨n0, n1⟩⟩ := M3.out
  clear m9 m8
  have z3 := World.block_lt_of_cell? w3 _ m0
  have y3 := World.block_lt_of_cell? w3 _ n0
  go_wp2_with fail
  refine (typ_any g sz 1 (put16 (put16 X (4 + 2 * i) A) A kl) _ M3.out.page (by rw [len_put16, len_put16]; exact HG.out.1) (by omega) (by rw [put16_ne (by omega), put16_ne (by omega)]; exact HG.out.2)).mono ?_
  rintro e w4 ⟨rfl, rfl⟩
  go_wp2
  go_region_held3 (fun w' => w'.cell? ⟨w.heap.size, 1, none⟩ = some (.slice none 0 0)) (first | go_keep | (exact cell_upd hu5 ‹_› (by simpa using hne))) (first | (go_at_call 20; refine (put16_any g (A + 2) (sz - (A + 2)) (sz - (A + 2)) 0 (put16 (put16 X (4 + 2 * i) A) A kl) _ (by exact M3.out.page) (by rw [len_put16, len_put16]; have := HG.out.1; omega) (by omega) (by omega)).mono ?_; rintro e w5 ⟨rfl, hp5, hu5⟩))
  have M5 : Hid (Mid w w5 g (mid 1 (put16 (put16 X (4 + 2 * i) A) A kl) (A + 2)) w.heap.size (.slice (some ⟨b, o, none⟩) kl c)) := Mid.next (Mid.drew M3.out) (by unfold mid; simp only [if_true, show ¬ (2 = 1) from by omega, if_false]; exact hp5) hu5 hne hg0
  clear m0 m1 m2 n0 n1 hp5 hu5 hsl3 M3 z3 y3
  obtain ⟨m9, m0, m1, m2, m8, ⟨n0, n1⟩⟩ := M5.out
  clear m9 m8
  have z5 := World.block_lt_of_cell? w5 _ m0
  have y5 := World.block_lt_of_cell? w5 _ n0
  go_wp2_with fail
  refine (typ_any g sz 1 (mid 1 (put16 (put16 X (4 + 2 * i) A) A kl) (A + 2)) _ M5.out.page (by rw [len_mid, len_put16, len_put16]; exact HG.out.1) (by omega) (by rw [mid_ne (by omega), put16_ne (by omega), put16_ne (by omega)]; exact HG.out.2)).mono ?_
  rintro e w6 ⟨rfl, rfl⟩
  go_wp2
  go_region_held3 (fun w' => w'.cell? ⟨w.heap.size, 0, none⟩ = some (.slice (some ⟨b, o, none⟩) kl c)) (first | go_keep | (exact cell_upd M7.out.2 ‹_› (by simpa using hne))) (first | (refine step_copy_upd (by rfl) (.tmp 59) (.tmp 61) 27 23 (by rfl) 5 Ybaf.underlying27 Ybaf.size5 g (A + 4) (sz - (A + 4)) (sz - (A + 4)) ⟨b, o, none⟩ kl c (by rfl) (by rfl) (bcells (mid 1 (put16 (put16 X (4 + 2 * i) A) A kl) (A + 2))) 5 (bcells kb) kl HL.out.1 HL.out.2 (by exact M5.out.page) (by exact src_of M5.out.upd.drew HC.out.1 HC.out.2 hb) (by rw [bcells_len, bcells_len, len_mid, len_put16, len_put16, HC.out.1, HG.out.1]; omega) (bcells_one _) ?_; intro w7 M7))
  have M8 : Hid (Mid w w7 g (cellX 1 i A 4 kl kb X) w.heap.size (.slice (some ⟨b, o, none⟩) kl c)) := Mid.next (Mid.drew M5.out) (by unfold cellX; rw [← bcells_splice]; exact M7.out.1) M7.out.2 hne hg0
  clear m0 m1 m2 n0 n1 M5 M7 z5 y5
  obtain ⟨m9, m0, m1, m2, m8, ⟨n0, n1⟩⟩ := M8.out
  clear m9 m8
  have z7 := World.block_lt_of_cell? w7 _ m0
  go_wp2
  go_region_held3 (fun w' => w'.cell? ⟨w.heap.size, 0, none⟩ = some (.slice (some ⟨b, o, none⟩) kl c) ∧ w'.cell? ⟨w.heap.size, 1, none⟩ = some (.slice none 0 0)) (go_keep) (first | (refine step_copy_nothing (by rfl) (.tmp 69) (.tmp 71) 27 23 (by rfl) 5 Ybaf.underlying27 Ybaf.size5 (some ⟨g, A + 4 + kl, none⟩) none (sz - (A + 4 + kl)) (sz - (A + 4 + kl)) 0 0 (by rfl) (by rfl) (Nat.zero_min _) ?_))
  go_wp2
  go_end0
  exact ⟨rfl, M8.out.page, M8.out.upd.drew⟩

set_option maxRecDepth 20000 in
set_option maxHeartbeats 1000000 in
theorem setCell_leaf0 (g i A sz c : Nat) (P : Option Addr) (X : List Int) (w : World) (h : w.heap[g]? = some (.cells (bcells X).toArray 5 (0, 0))) (hX : X.length = sz) (hs : sz < 65536) (h2 : X.getD 0 0 = ((1 : Nat) : Int))
    (hi : 4 + 2 * i + 2 ≤ A) (hfit : A + 4 + 0 + 8 ≤ sz) (hK : Kinds w) (hg0 : 0 ≠ g) :
    Calls Ybaf.prog 21 #[.slice (some ⟨g, 0, none⟩) sz sz, .int .i64 i, .int .i64 A, .agg #[.slice P 0 c, .slice none 0 0, .int .u32 0]] w fun e w' => e = .returned (.tuple #[]) ∧
      w'.heap[g]? = some (.cells (bcells (cellX 1 i A 4 0 [] X)).toArray 5 (0, 0)) ∧ Upd [g] w w' := by
  have hlt := lt_of_block h
  have HG : Hid (X.length = sz ∧ X.getD 0 0 = ((1 : Nat) : Int)) := ⟨hX, h2⟩
  have HM : ∀ ob, Hid (Mid w ((w.alloc (.cells #[.slice P 0 c, .slice none 0 0, .int .u32 0] 55)).alloc ob) g X w.heap.size (.slice P 0 c)) := fun ob => Mid.start h hK ob
  have hne : w.heap.size ≠ g := by omega
  have hlt0 := World.block_lt_of_cell? w _ hK.leaf
  obtain ⟨q, hq⟩ : ∃ q : Nat, q = 0 := ⟨0, rfl⟩
  have hsl1 := slice_from g sz (4 + 2 * i) (by omega) (4 + 2 * (i : Int)) (by omega)
  have hsl2 := slice_from g sz A (by omega) (A : Int) rfl
  have hsl3 := slice_from g sz (A + 2) (by omega) ((A : Int) + 2) (by omega)
  have hsl4 := slice_from g sz (A + 4) (by omega) ((A : Int) + 4) (by omega)
  have hw1 : IntKind.i64.wrap (2 * (i : Int)) = 2 * (i : Int) := i64_in (by omega)
  have hw2 : IntKind.i64.wrap (4 + 2 * (i : Int)) = 4 + 2 * (i : Int) := i64_in (by omega)
  have hwA : IntKind.u16.wrap (A : Int) = (A : Int) := u16_in (by omega) (by omega)
  have hw0 : IntKind.u16.wrap (0 : Int) = 0 := u16_in (by omega) (by omega)
  have hwA2 : IntKind.i64.wrap ((A : Int) + 2) = (A : Int) + 2 := i64_in (by omega)
  have hwA4 : IntKind.i64.wrap ((A : Int) + 4) = (A : Int) + 4 := i64_in (by omega)
  clear h hX h2 hK hq
  go_enter Ybaf.func21, Ybaf.ntmps21
  go_wp2
  go_region_held3 (fun w' => True) (go_keep) (first | (go_at_call 20; refine (put16_any g (4 + 2 * i) (sz - (4 + 2 * i)) (sz - (4 + 2 * i)) A X _ (by exact (HM _).out.page) (by have := HG.out.1; omega) (by omega) (by omega)).mono ?_; rintro e w2 ⟨rfl, hp2, hu2⟩))
  have M2 : Hid (Mid w w2 g (put16 X (4 + 2 * i) A) w.heap.size (.slice P 0 c)) := Mid.next (Mid.drew (HM _).out) hp2 hu2 hne hg0
  obtain ⟨m9, m0, m1, m2, m8, ⟨n0, n1⟩⟩ := M2.out
  clear m9 m8
  have z2 := World.block_lt_of_cell? w2 _ m0
  have y2 := World.block_lt_of_cell? w2 _ n0
  have e2 : w2.cell? ⟨w.heap.size + 1, 0, none⟩ = none ∨ True := Or.inr trivial
  clear hp2 hu2 hsl1 HM
  go_wp2
  go_region_held3 (fun w' => w'.cell? ⟨w.heap.size, 0, none⟩ = some (.slice P 0 c)) (first | go_keep | (exact cell_upd hu3 ‹_› (by simpa using hne))) (first | (go_at_call 20; refine (put16_any g A (sz - A) (sz - A) 0 (put16 X (4 + 2 * i) A) _ (by exact M2.out.page) (by rw [len_put16]; have := HG.out.1; omega) (by omega) (by omega)).mono ?_; rintro e w3 ⟨rfl, hp3, hu3⟩))
  have M3 : Hid (Mid w w3 g (put16 (put16 X (4 + 2 * i) A) A 0) w.heap.size (.slice P 0 c)) := Mid.next (Mid.drew M2.out) hp3 hu3 hne hg0
  clear m0 m1 m2 n0 n1 hp3 hu3 hsl2 M2 z2 y2
  obtain ⟨m9, m0, m1, m2, m8, ⟨n0, n1⟩⟩ := M3.out
  clear m9 m8
  have z3 := World.block_lt_of_cell? w3 _ m0
  have y3 := World.block_lt_of_cell? w3 _ n0
  go_wp2_with fail
  refine (typ_any g sz 1 (put16 (put16 X (4 + 2 * i) A) A 0) _ M3.out.page (by rw [len_put16, len_put16]; exact HG.out.1) (by omega) (by rw [put16_ne (by omega), put16_ne (by omega)]; exact HG.out.2)).mono ?_
  rintro e w4 ⟨rfl, rfl⟩
  go_wp2
  go_region_held3 (fun w' => w'.cell? ⟨w.heap.size, 1, none⟩ = some (.slice none 0 0)) (first | go_keep | (exact cell_upd hu5 ‹_› (by simpa using hne))) (first | (go_at_call 20; refine (put16_any g (A + 2) (sz - (A + 2)) (sz - (A + 2)) 0 (put16 (put16 X (4 + 2 * i) A) A 0) _ (by exact M3.out.page) (by rw [len_put16, len_put16]; have := HG.out.1; omega) (by omega) (by omega)).mono ?_; rintro e w5 ⟨rfl, hp5, hu5⟩))
  have M5 : Hid (Mid w w5 g (mid 1 (put16 (put16 X (4 + 2 * i) A) A 0) (A + 2)) w.heap.size (.slice P 0 c)) := Mid.next (Mid.drew M3.out) (by unfold mid; simp only [if_true, show ¬ (2 = 1) from by omega, if_false]; exact hp5) hu5 hne hg0
  clear m0 m1 m2 n0 n1 hp5 hu5 hsl3 M3 z3 y3
  obtain ⟨m9, m0, m1, m2, m8, ⟨n0, n1⟩⟩ := M5.out
  clear m9 m8
  have z5 := World.block_lt_of_cell? w5 _ m0
  have y5 := World.block_lt_of_cell? w5 _ n0
  go_wp2_with fail
  refine (typ_any g sz 1 (mid 1 (put16 (put16 X (4 + 2 * i) A) A 0) (A + 2)) _ M5.out.page (by rw [len_mid, len_put16, len_put16]; exact HG.out.1) (by omega) (by rw [mid_ne (by omega), put16_ne (by omega), put16_ne (by omega)]; exact HG.out.2)).mono ?_
  rintro e w6 ⟨rfl, rfl⟩
  go_wp2
  go_region_held3 (fun w' => w'.cell? ⟨w.heap.size, 0, none⟩ = some (.slice P 0 c)) (go_keep) (first | (refine step_copy_nothing (by rfl) (.tmp 59) (.tmp 61) 27 23 (by rfl) 5 Ybaf.underlying27 Ybaf.size5 (some ⟨g, A + 4, none⟩) P (sz - (A + 4)) (sz - (A + 4)) 0 c (by rfl) (by rfl) (Nat.zero_min _) ?_))
  go_wp2
  go_region_held3 (fun w' => w'.cell? ⟨w.heap.size, 0, none⟩ = some (.slice P 0 c) ∧ w'.cell? ⟨w.heap.size, 1, none⟩ = some (.slice none 0 0)) (go_keep) (first | (refine step_copy_nothing (by rfl) (.tmp 69) (.tmp 71) 27 23 (by rfl) 5 Ybaf.underlying27 Ybaf.size5 (some ⟨g, A + 4, none⟩) none (sz - (A + 4)) (sz - (A + 4)) 0 0 (by rfl) (by rfl) (Nat.zero_min _) ?_))
  go_wp2
  go_end0
  exact ⟨rfl, by unfold cellX; rw [splice_none]; exact M5.out.page, M5.out.upd.drew.drew⟩

set_option maxRecDepth 20000 in
set_option maxHeartbeats 1000000 in
theorem setCell_int (g i A sz kl c b o : Nat) (kb X : List Int) (w : World) (h : w.heap[g]? = some (.cells (bcells X).toArray 5 (0, 0))) (hX : X.length = sz) (hs : sz < 65536) (h2 : X.getD 0 0 = ((2 : Nat) : Int))
    (hi : 4 + 2 * i + 2 ≤ A) (hfit : A + 6 + kl + 8 ≤ sz) (hK : Kinds w) (hg0 : 0 ≠ g) (hk0 : 0 < kl) (hkl : kb.length = kl) (hb : b ≠ g) (hcells : ∀ j, j < kl → w.cell? ⟨b, o + j, none⟩ = some (.int .u8 (kb.getD j 0))) :
    Calls Ybaf.prog 21 #[.slice (some ⟨g, 0, none⟩) sz sz, .int .i64 i, .int .i64 A, .agg #[.slice (some ⟨b, o, none⟩) kl c, .slice none 0 0, .int .u32 0]] w fun e w' => e = .returned (.tuple #[]) ∧
      w'.heap[g]? = some (.cells (bcells (cellX 2 i A 6 kl kb X)).toArray 5 (0, 0)) ∧ Upd [g] w w' := by
  have hlt := lt_of_block h
  have HG : Hid (X.length = sz ∧ X.getD 0 0 = ((2 : Nat) : Int)) := ⟨hX, h2⟩
  have HC : Hid (kb.length = kl ∧ ∀ j, j < kl → w.cell? ⟨b, o + j, none⟩ = some (.int .u8 (kb.getD j 0))) := ⟨hkl, hcells⟩
  have HL : Hid ((bcells kb).length = kl ∧ kl = Nat.min kl (sz - (A + 6))) := ⟨by rw [bcells_len]; exact hkl, by show kl = min kl (sz - (A + 6)); omega⟩
  have HM : ∀ ob, Hid (Mid w ((w.alloc (.cells #[.slice (some ⟨b, o, none⟩) kl c, .slice none 0 0, .int .u32 0] 55)).alloc ob) g X w.heap.size (.slice (some ⟨b, o, none⟩) kl c)) := fun ob => Mid.start h hK ob
  have hne : w.heap.size ≠ g := by omega
  have hlt0 := World.block_lt_of_cell? w _ hK.leaf
  obtain ⟨q, hq⟩ : ∃ q : Nat, q = 0 := ⟨0, rfl⟩
  have hsl1 := slice_from g sz (4 + 2 * i) (by omega) (4 + 2 * (i : Int)) (by omega)
  have hsl2 := slice_from g sz A (by omega) (A : Int) rfl
  have hsl3 := slice_from g sz (A + 2) (by omega) ((A : Int) + 2) (by omega)
  have hsl4 := slice_from g sz (A + 6) (by omega) ((A : Int) + 6) (by omega)
  have hsl5 := slice_from g sz (A + 6 + kl) (by omega) ((A : Int) + 6 + (kl : Int)) (by omega)
  have hw1 : IntKind.i64.wrap (2 * (i : Int)) = 2 * (i : Int) := i64_in (by omega)
  have hw2 : IntKind.i64.wrap (4 + 2 * (i : Int)) = 4 + 2 * (i : Int) := i64_in (by omega)
  have hwA : IntKind.u16.wrap (A : Int) = (A : Int) := u16_in (by omega) (by omega)
  have hwk : IntKind.u16.wrap (kl : Int) = (kl : Int) := u16_in (by omega) (by omega)
  have hw0 : IntKind.u16.wrap (0 : Int) = 0 := u16_in (by omega) (by omega)
  have hwA2 : IntKind.i64.wrap ((A : Int) + 2) = (A : Int) + 2 := i64_in (by omega)
  have hwA4 : IntKind.i64.wrap ((A : Int) + 6) = (A : Int) + 6 := i64_in (by omega)
  have hwA5 : IntKind.i64.wrap ((A : Int) + 6 + (kl : Int)) = (A : Int) + 6 + (kl : Int) := i64_in (by omega)
  clear h hX h2 hK hq hkl hcells
  go_enter Ybaf.func21, Ybaf.ntmps21
  go_wp2
  go_region_held3 (fun w' => True) (go_keep) (first | (go_at_call 20; refine (put16_any g (4 + 2 * i) (sz - (4 + 2 * i)) (sz - (4 + 2 * i)) A X _ (by exact (HM _).out.page) (by have := HG.out.1; omega) (by omega) (by omega)).mono ?_; rintro e w2 ⟨rfl, hp2, hu2⟩))
  have M2 : Hid (Mid w w2 g (put16 X (4 + 2 * i) A) w.heap.size (.slice (some ⟨b, o, none⟩) kl c)) := Mid.next (Mid.drew (HM _).out) hp2 hu2 hne hg0
  obtain ⟨m9, m0, m1, m2, m8, ⟨n0, n1⟩⟩ := M2.out
  clear m9 m8
  have z2 := World.block_lt_of_cell? w2 _ m0
  have y2 := World.block_lt_of_cell? w2 _ n0
  have e2 : w2.cell? ⟨w.heap.size + 1, 0, none⟩ = none ∨ True := Or.inr trivial
  clear hp2 hu2 hsl1 HM
  go_wp2
  go_region_held3 (fun w' => w'.cell? ⟨w.heap.size, 0, none⟩ = some (.slice (some ⟨b, o, none⟩) kl c)) (first | go_keep | (exact cell_upd hu3 ‹_› (by simpa using hne))) (first | (go_at_call 20; refine (put16_any g A (sz - A) (sz - A) kl (put16 X (4 + 2 * i) A) _ (by exact M2.out.page) (by rw [len_put16]; have := HG.out.1; omega) (by omega) (by omega)).mono ?_; rintro e w3 ⟨rfl, hp3, hu3⟩))
  have M3 : Hid (Mid w w3 g (put16 (put16 X (4 + 2 * i) A) A kl) w.heap.size (.slice (some ⟨b, o, none⟩) kl c)) := Mid.next (Mid.drew M2.out) hp3 hu3 hne hg0
  clear m0 m1 m2 n0 n1 hp3 hu3 hsl2 M2 z2 y2
  obtain ⟨m9, m0, m1, m2, m8, ⟨n0, n1⟩⟩ := M3.out
  clear m9 m8
  have z3 := World.block_lt_of_cell? w3 _ m0
  have y3 := World.block_lt_of_cell? w3 _ n0
  go_wp2_with fail
  refine (typ_any g sz 2 (put16 (put16 X (4 + 2 * i) A) A kl) _ M3.out.page (by rw [len_put16, len_put16]; exact HG.out.1) (by omega) (by rw [put16_ne (by omega), put16_ne (by omega)]; exact HG.out.2)).mono ?_
  rintro e w4 ⟨rfl, rfl⟩
  go_wp2
  go_region_held3 (fun w' => w'.cell? ⟨w.heap.size, 2, none⟩ = some (.int .u32 0)) (first | go_keep | (exact cell_upd hu5 ‹_› (by simpa using hne))) (first | (go_at_call 40; refine (put32_any g (A + 2) (sz - (A + 2)) (sz - (A + 2)) 0 (put16 (put16 X (4 + 2 * i) A) A kl) _ (by exact M3.out.page) (by rw [len_put16, len_put16]; have := HG.out.1; omega) (by omega) (by omega)).mono ?_; rintro e w5 ⟨rfl, hp5, hu5⟩))
  have M5 : Hid (Mid w w5 g (mid 2 (put16 (put16 X (4 + 2 * i) A) A kl) (A + 2)) w.heap.size (.slice (some ⟨b, o, none⟩) kl c)) := Mid.next (Mid.drew M3.out) (by unfold mid; simp only [if_true, show ¬ (2 = 1) from by omega, if_false]; exact hp5) hu5 hne hg0
  clear m0 m1 m2 n0 n1 hp5 hu5 hsl3 M3 z3 y3
  obtain ⟨m9, m0, m1, m2, m8, ⟨n0, n1⟩⟩ := M5.out
  clear m9 m8
  have z5 := World.block_lt_of_cell? w5 _ m0
  have y5 := World.block_lt_of_cell? w5 _ n0
  go_wp2_with fail
  refine (typ_any g sz 2 (mid 2 (put16 (put16 X (4 + 2 * i) A) A kl) (A + 2)) _ M5.out.page (by rw [len_mid, len_put16, len_put16]; exact HG.out.1) (by omega) (by rw [mid_ne (by omega), put16_ne (by omega), put16_ne (by omega)]; exact HG.out.2)).mono ?_
  rintro e w6 ⟨rfl, rfl⟩
  go_wp2
  go_region_held3 (fun w' => w'.cell? ⟨w.heap.size, 0, none⟩ = some (.slice (some ⟨b, o, none⟩) kl c)) (first | go_keep | (exact cell_upd M7.out.2 ‹_› (by simpa using hne))) (first | (refine step_copy_upd (by rfl) (.tmp 59) (.tmp 61) 27 23 (by rfl) 5 Ybaf.underlying27 Ybaf.size5 g (A + 6) (sz - (A + 6)) (sz - (A + 6)) ⟨b, o, none⟩ kl c (by rfl) (by rfl) (bcells (mid 2 (put16 (put16 X (4 + 2 * i) A) A kl) (A + 2))) 5 (bcells kb) kl HL.out.1 HL.out.2 (by exact M5.out.page) (by exact src_of M5.out.upd.drew HC.out.1 HC.out.2 hb) (by rw [bcells_len, bcells_len, len_mid, len_put16, len_put16, HC.out.1, HG.out.1]; omega) (bcells_one _) ?_; intro w7 M7))
  have M8 : Hid (Mid w w7 g (cellX 2 i A 6 kl kb X) w.heap.size (.slice (some ⟨b, o, none⟩) kl c)) := Mid.next (Mid.drew M5.out) (by unfold cellX; rw [← bcells_splice]; exact M7.out.1) M7.out.2 hne hg0
  clear m0 m1 m2 n0 n1 M5 M7 z5 y5
  obtain ⟨m9, m0, m1, m2, m8, ⟨n0, n1⟩⟩ := M8.out
  clear m9 m8
  have z7 := World.block_lt_of_cell? w7 _ m0
  go_wp2
  go_region_held3 (fun w' => w'.cell? ⟨w.heap.size, 0, none⟩ = some (.slice (some ⟨b, o, none⟩) kl c) ∧ w'.cell? ⟨w.heap.size, 1, none⟩ = some (.slice none 0 0)) (go_keep) (first | (refine step_copy_nothing (by rfl) (.tmp 69) (.tmp 71) 27 23 (by rfl) 5 Ybaf.underlying27 Ybaf.size5 (some ⟨g, A + 6 + kl, none⟩) none (sz - (A + 6 + kl)) (sz - (A + 6 + kl)) 0 0 (by rfl) (by rfl) (Nat.zero_min _) ?_))
  go_wp2
  go_end0
  exact ⟨rfl, M8.out.page, M8.out.upd.drew⟩

set_option maxRecDepth 20000 in
set_option maxHeartbeats 1000000 in
theorem setCell_int0 (g i A sz c : Nat) (P : Option Addr) (X : List Int) (w : World) (h : w.heap[g]? = some (.cells (bcells X).toArray 5 (0, 0))) (hX : X.length = sz) (hs : sz < 65536) (h2 : X.getD 0 0 = ((2 : Nat) : Int))
    (hi : 4 + 2 * i + 2 ≤ A) (hfit : A + 6 + 0 + 8 ≤ sz) (hK : Kinds w) (hg0 : 0 ≠ g) :
    Calls Ybaf.prog 21 #[.slice (some ⟨g, 0, none⟩) sz sz, .int .i64 i, .int .i64 A, .agg #[.slice P 0 c, .slice none 0 0, .int .u32 0]] w fun e w' => e = .returned (.tuple #[]) ∧
      w'.heap[g]? = some (.cells (bcells (cellX 2 i A 6 0 [] X)).toArray 5 (0, 0)) ∧ Upd [g] w w' := by
  have hlt := lt_of_block h
  have HG : Hid (X.length = sz ∧ X.getD 0 0 = ((2 : Nat) : Int)) := ⟨hX, h2⟩
  have HM : ∀ ob, Hid (Mid w ((w.alloc (.cells #[.slice P 0 c, .slice none 0 0, .int .u32 0] 55)).alloc ob) g X w.heap.size (.slice P 0 c)) := fun ob => Mid.start h hK ob
  have hne : w.heap.size ≠ g := by omega
  have hlt0 := World.block_lt_of_cell? w _ hK.leaf
  obtain ⟨q, hq⟩ : ∃ q : Nat, q = 0 := ⟨0, rfl⟩
  have hsl1 := slice_from g sz (4 + 2 * i) (by omega) (4 + 2 * (i : Int)) (by omega)
  have hsl2 := slice_from g sz A (by omega) (A : Int) rfl
  have hsl3 := slice_from g sz (A + 2) (by omega) ((A : Int) + 2) (by omega)
  have hsl4 := slice_from g sz (A + 6) (by omega) ((A : Int) + 6) (by omega)
  have hw1 : IntKind.i64.wrap (2 * (i : Int)) = 2 * (i : Int) := i64_in (by omega)
  have hw2 : IntKind.i64.wrap (4 + 2 * (i : Int)) = 4 + 2 * (i : Int) := i64_in (by omega)
  have hwA : IntKind.u16.wrap (A : Int) = (A : Int) := u16_in (by omega) (by omega)
  have hw0 : IntKind.u16.wrap (0 : Int) = 0 := u16_in (by omega) (by omega)
  have hwA2 : IntKind.i64.wrap ((A : Int) + 2) = (A : Int) + 2 := i64_in (by omega)
  have hwA4 : IntKind.i64.wrap ((A : Int) + 6) = (A : Int) + 6 := i64_in (by omega)
  clear h hX h2 hK hq
  go_enter Ybaf.func21, Ybaf.ntmps21
  go_wp2
  go_region_held3 (fun w' => True) (go_keep) (first | (go_at_call 20; refine (put16_any g (4 + 2 * i) (sz - (4 + 2 * i)) (sz - (4 + 2 * i)) A X _ (by exact (HM _).out.page) (by have := HG.out.1; omega) (by omega) (by omega)).mono ?_; rintro e w2 ⟨rfl, hp2, hu2⟩))
  have M2 : Hid (Mid w w2 g (put16 X (4 + 2 * i) A) w.heap.size (.slice P 0 c)) := Mid.next (Mid.drew (HM _).out) hp2 hu2 hne hg0
  obtain ⟨m9, m0, m1, m2, m8, ⟨n0, n1⟩⟩ := M2.out
  clear m9 m8
  have z2 := World.block_lt_of_cell? w2 _ m0
  have y2 := World.block_lt_of_cell? w2 _ n0
  have e2 : w2.cell? ⟨w.heap.size + 1, 0, none⟩ = none ∨ True := Or.inr trivial
  clear hp2 hu2 hsl1 HM
  go_wp2
  go_region_held3 (fun w' => w'.cell? ⟨w.heap.size, 0, none⟩ = some (.slice P 0 c)) (first | go_keep | (exact cell_upd hu3 ‹_› (by simpa using hne))) (first | (go_at_call 20; refine (put16_any g A (sz - A) (sz - A) 0 (put16 X (4 + 2 * i) A) _ (by exact M2.out.page) (by rw [len_put16]; have := HG.out.1; omega) (by omega) (by omega)).mono ?_; rintro e w3 ⟨rfl, hp3, hu3⟩))
  have M3 : Hid (Mid w w3 g (put16 (put16 X (4 + 2 * i) A) A 0) w.heap.size (.slice P 0 c)) := Mid.next (Mid.drew M2.out) hp3 hu3 hne hg0
  clear m0 m1 m2 n0 n1 hp3 hu3 hsl2 M2 z2 y2
  obtain ⟨m9, m0, m1, m2, m8, ⟨n0, n1⟩⟩ := M3.out
  clear m9 m8
  have z3 := World.block_lt_of_cell? w3 _ m0
  have y3 := World.block_lt_of_cell? w3 _ n0
  go_wp2_with fail
  refine (typ_any g sz 2 (put16 (put16 X (4 + 2 * i) A) A 0) _ M3.out.page (by rw [len_put16, len_put16]; exact HG.out.1) (by omega) (by rw [put16_ne (by omega), put16_ne (by omega)]; exact HG.out.2)).mono ?_
  rintro e w4 ⟨rfl, rfl⟩
  go_wp2
  go_region_held3 (fun w' => w'.cell? ⟨w.heap.size, 2, none⟩ = some (.int .u32 0)) (first | go_keep | (exact cell_upd hu5 ‹_› (by simpa using hne))) (first | (go_at_call 40; refine (put32_any g (A + 2) (sz - (A + 2)) (sz - (A + 2)) 0 (put16 (put16 X (4 + 2 * i) A) A 0) _ (by exact M3.out.page) (by rw [len_put16, len_put16]; have := HG.out.1; omega) (by omega) (by omega)).mono ?_; rintro e w5 ⟨rfl, hp5, hu5⟩))
  have M5 : Hid (Mid w w5 g (mid 2 (put16 (put16 X (4 + 2 * i) A) A 0) (A + 2)) w.heap.size (.slice P 0 c)) := Mid.next (Mid.drew M3.out) (by unfold mid; simp only [if_true, show ¬ (2 = 1) from by omega, if_false]; exact hp5) hu5 hne hg0
  clear m0 m1 m2 n0 n1 hp5 hu5 hsl3 M3 z3 y3
  obtain ⟨m9, m0, m1, m2, m8, ⟨n0, n1⟩⟩ := M5.out
  clear m9 m8
  have z5 := World.block_lt_of_cell? w5 _ m0
  have y5 := World.block_lt_of_cell? w5 _ n0
  go_wp2_with fail
  refine (typ_any g sz 2 (mid 2 (put16 (put16 X (4 + 2 * i) A) A 0) (A + 2)) _ M5.out.page (by rw [len_mid, len_put16, len_put16]; exact HG.out.1) (by omega) (by rw [mid_ne (by omega), put16_ne (by omega), put16_ne (by omega)]; exact HG.out.2)).mono ?_
  rintro e w6 ⟨rfl, rfl⟩
  go_wp2
  go_region_held3 (fun w' => w'.cell? ⟨w.heap.size, 0, none⟩ = some (.slice P 0 c)) (go_keep) (first | (refine step_copy_nothing (by rfl) (.tmp 59) (.tmp 61) 27 23 (by rfl) 5 Ybaf.underlying27 Ybaf.size5 (some ⟨g, A + 6, none⟩) P (sz - (A + 6)) (sz - (A + 6)) 0 c (by rfl) (by rfl) (Nat.zero_min _) ?_))
  go_wp2
  go_region_held3 (fun w' => w'.cell? ⟨w.heap.size, 0, none⟩ = some (.slice P 0 c) ∧ w'.cell? ⟨w.heap.size, 1, none⟩ = some (.slice none 0 0)) (go_keep) (first | (refine step_copy_nothing (by rfl) (.tmp 69) (.tmp 71) 27 23 (by rfl) 5 Ybaf.underlying27 Ybaf.size5 (some ⟨g, A + 6, none⟩) none (sz - (A + 6)) (sz - (A + 6)) 0 0 (by rfl) (by rfl) (Nat.zero_min _) ?_))
  go_wp2
  go_end0
  exact ⟨rfl, by unfold cellX; rw [splice_none]; exact M5.out.page, M5.out.upd.drew.drew⟩

end Go.Proofs.YbulkczrmFmt
