import Derived.Test.YbulkczrmFmtCompact
import Derived.Lib.JoinLaws
namespace Go.Proofs.YbulkczrmFmt
open Go.RowKit Go.Extern.Stop Go.Stop Go.Extern
set_option linter.unusedVariables false
set_option linter.unusedSimpArgs false

/-- A key that came in: readable in w, at most 1000 bytes long. -/
structure Old (w : World) (k : Key) : Prop where
  bin : BIn w k.P k.N k.xs
  mx : k.N ≤ 1000
  bytes : Bytes k.xs
theorem Old.none (w : World) : Old w noKey := ⟨⟨rfl, fun h => absurd h (Nat.lt_irrefl _)⟩, Nat.zero_le _, fun x hx => by cases hx⟩
theorem Old.good {w W : World} {blk : Nat} {k : Key} (h : Old w k) (hb : Below w.heap.size w W) (hblk : w.heap.size ≤ blk) : Good W blk k := by
  refine ⟨bin_in h.bin hb, by have := h.mx; omega, fun b o h0 e => ?_⟩
  obtain ⟨b2, o2, e2, hc⟩ := h.bin.at' h0
  have hlt := World.block_lt_of_cell? _ _ (hc 0 h0)
  rw [e] at e2
  simp only [Option.some.injEq, Addr.mk.injEq, and_true] at e2
  have : b2 < w.heap.size := hlt
  omega

/-- The keys ks lie in the row that the law makes, which has room for c. -/
structure Row (w W : World) (c : Nat) (ks : List Key) : Prop where
  row : RowK W w.heap.size 0 ks
  old : ∀ k ∈ ks, Old w k
  bel : Below w.heap.size w W
  there : ∀ j, j < c → (W.cell? ⟨w.heap.size, j, none⟩).isSome = true ∧ W.frozen? ⟨w.heap.size, j, none⟩ = false
  lt : w.heap.size < W.heap.size

theorem Row.made {w W : World} {c : Nat} (hown : W.ownsRow w.heap.size 23 1 (.slice (some ⟨w.heap.size, 0, none⟩) 0 c) 0 []) (hg : w.grownBy W none) : Row w W c [] := by
  rcases hown.2 with ⟨h, _⟩ | ⟨g', c', cur, hv, _, hh, _, _, hs, ht⟩
  · cases h
  · simp only [Value.slice.injEq, Option.some.injEq, Addr.mk.injEq, and_true, true_and] at hv
    obtain ⟨hg', hc'⟩ := hv
    subst hc'
    rw [← hg'] at hh
    refine ⟨fun j hj => absurd hj (Nat.not_lt_zero _), fun k hk => (by cases hk), (Below.refl _ _).grown hg (Nat.le_refl _) (by simp), fun j hj => ⟨?_, frozen_of_row _ _ _ _ _ hh⟩, lt_of_block hh⟩
    rw [cell_of_row _ _ _ _ _ _ hh]
    have : j < cur.size := by omega
    simp [this]

theorem Row.push {w W W' : World} {c : Nat} {ks : List Key} {k : Key} {o : Obj} (h : Row w W c ks) (hc : ks.length < c) (hk : Old w k) (hW : W' = (W.alloc o).setCells w.heap.size (0 + ks.length) [encK k]) : Row w W' c (ks ++ [k]) := by
  have hlt := h.lt
  have ha : ∀ j, (W.alloc o).cell? ⟨w.heap.size, j, none⟩ = W.cell? ⟨w.heap.size, j, none⟩ := fun j => World.cell?_alloc_past _ _ _ hlt
  have hfa : ∀ j, (W.alloc o).frozen? ⟨w.heap.size, j, none⟩ = W.frozen? ⟨w.heap.size, j, none⟩ := fun j => World.frozen?_alloc_past _ _ _ hlt
  have hsome : ∀ j, j < c → ((W.alloc o).cell? ⟨w.heap.size, j, none⟩).isSome = true := fun j hj => by rw [ha]; exact (h.there j hj).1
  have hin : W'.cell? ⟨w.heap.size, ks.length, none⟩ = some (encK k) := by
    have := World.cell?_setCells_in w.heap.size [encK k] (0 + ks.length) (W.alloc o) (fun j hj => by
      simp only [List.length_cons, List.length_nil, Nat.zero_add, Nat.lt_one_iff] at hj
      subst hj
      rw [Nat.add_zero, Nat.zero_add]; exact hsome _ hc) 0 (by simp)
    rw [hW]
    simpa using this
  have hout : ∀ j, j ≠ ks.length → W'.cell? ⟨w.heap.size, j, none⟩ = W.cell? ⟨w.heap.size, j, none⟩ := fun j hj => by
    rw [hW, World.cell?_setCells_out _ _ _ _ _ (fun _ _ => by simp only [List.length_cons, List.length_nil]; omega), ha]
  have hfr : ∀ j, W'.frozen? ⟨w.heap.size, j, none⟩ = W.frozen? ⟨w.heap.size, j, none⟩ := fun j => by rw [hW, World.frozen?_setCells, hfa]
  have hu : Upd [w.heap.size] W W' := by rw [hW]; exact ((Upd.refl _ _).alloc o).trans (upd_setCells _ _ _ _)
  refine ⟨fun j hj => ?_, fun x hx => ?_, Upd.below h.bel hu (by simp) h.bel.size, fun j hj => ⟨?_, by rw [hfr]; exact (h.there j hj).2⟩, Nat.lt_of_lt_of_le hlt hu.size⟩
  · simp only [List.length_append, List.length_cons, List.length_nil] at hj
    rw [Nat.zero_add, getD_snoc, hfr]
    refine ⟨?_, (h.there j (by omega)).2⟩
    by_cases e : j = ks.length
    · rw [if_pos e, e]; exact hin
    · rw [if_neg e, hout j e]
      have := (h.row j (by omega)).1
      rw [Nat.zero_add] at this
      exact this
  · rcases List.mem_append.1 hx with hx | hx
    · exact h.old x hx
    · obtain rfl := List.mem_singleton.1 hx
      exact hk
  · by_cases e : j = ks.length
    · rw [e, hin]; rfl
    · rw [hout j e]; exact (h.there j hj).1

/-- The row, its first keys pre and the keys behind them: what the sort and the compaction keep. -/
structure Row2 (w W : World) (pre body : List Key) : Prop where
  row : RowK W w.heap.size 0 (pre ++ body)
  old : ∀ k ∈ pre ++ body, Old w k
  pos : ∀ k ∈ body, 1 ≤ k.N
  bel : Below w.heap.size w W
  lt : w.heap.size < W.heap.size

theorem getD_right (pre body : List Key) (j : Nat) : (pre ++ body).getD (pre.length + j) noKey = body.getD j noKey := by
  have : ¬ pre.length + j < pre.length := by omega
  simp [List.getD, List.getElem?_append, this]
theorem getD_left {pre : List Key} (body : List Key) {j : Nat} (h : j < pre.length) : (pre ++ body).getD j noKey = pre.getD j noKey := by
  simp [List.getD, List.getElem?_append, h]

theorem Row2.body {w W : World} {pre body : List Key} (h : Row2 w W pre body) : RowK W w.heap.size pre.length body := fun j hj => by
  have := h.row (pre.length + j) (by simp; omega)
  rw [Nat.zero_add, getD_right] at this
  exact this
theorem Row2.good {w W : World} {pre body : List Key} (h : Row2 w W pre body) : ∀ k ∈ body, Good W w.heap.size k := fun k hk => (h.old k (List.mem_append_right _ hk)).good h.bel (Nat.le_refl _)
theorem Row2.next {w W W' : World} {pre body body' : List Key} (h : Row2 w W pre body) (hr : RowK W' w.heap.size pre.length body') (hm : ∀ k ∈ body', k ∈ body) (hu : Upd [w.heap.size] W W') (hl : Low w.heap.size pre.length W W') : Row2 w W' pre body' := by
  refine ⟨fun j hj => ?_, fun k hk => ?_, fun k hk => h.pos k (hm k hk), Upd.below h.bel hu (by simp) h.bel.size, Nat.lt_of_lt_of_le h.lt hu.size⟩
  · rw [Nat.zero_add]
    by_cases e : j < pre.length
    · rw [getD_left _ e, (hl j e).1, (hl j e).2]
      have := h.row j (by simp; omega)
      rw [Nat.zero_add, getD_left _ e] at this
      exact this
    · obtain ⟨i, rfl⟩ : ∃ i, j = pre.length + i := ⟨j - pre.length, by omega⟩
      rw [getD_right]
      exact hr i (by simp at hj; omega)
  · rcases List.mem_append.1 hk with hk | hk
    · exact h.old k (List.mem_append_left _ hk)
    · exact h.old k (List.mem_append_right _ (hm k hk))

/-- slices.SortFunc of the keys behind pre. -/
theorem sort_row {w W : World} {pre body : List Key} {f m : Nat} (cap : Nat) (h : Row2 w W pre body) (hf : pre.length = f) (hm : body.length = m) (hn : m ≤ 1026) :
    Calls Ybaf.prog 5 #[.slice (some ⟨w.heap.size, f, none⟩) m cap, .func (.func 6) #[] #[]] W fun e w' => e = .returned (.tuple #[]) ∧ ∃ body', Hid (Row2 w w' pre body' ∧ Srt body' ∧ body'.length = m) := by
  subst hf hm
  refine (sort_low w.heap.size pre.length cap body W h.body h.good h.lt hn).mono ?_
  rintro e w' ⟨rfl, body', hp, hs, hr, hu, hl⟩
  exact ⟨rfl, body', h.next hr (fun k hk => hp.mem_iff.1 hk) hu hl, hs, hp.length_eq⟩

/-- slices.CompactFunc of them. -/
theorem compact_row {w W : World} {pre body : List Key} {f m : Nat} (cap : Nat) (h : Row2 w W pre body ∧ Srt body ∧ body.length = m) (hf : pre.length = f) (hn : m ≤ 1026) (hc : m ≤ cap) :
    Calls Ybaf.prog 13 #[.slice (some ⟨w.heap.size, f, none⟩) m cap, .func (.func 14) #[] #[]] W fun e w' => ∃ out l, e = .returned (.slice (some ⟨w.heap.size, f, none⟩) l cap) ∧ l ≤ m ∧ Hid (Row2 w w' pre out ∧ Asc out ∧ out.length = l) := by
  obtain ⟨h1, h2, h3⟩ := h
  subst hf
  refine (compact_any w.heap.size pre.length cap m body W h1.body h1.good h3 hn hc h2).mono ?_
  rintro e w' ⟨out, rfl, hk⟩
  exact ⟨out, out.length, rfl, by rw [← h3]; exact hk.out.le, h1.next hk.out.row hk.out.mem hk.out.upd hk.out.low, hk.out.asc, rfl⟩

/-- append(ks[:1], body...), body being ks[1:] all along. -/
theorem Row2.append {w W W' : World} {pre out : List Key} (h : Row2 w W pre out) (hW : W' = W.setCells w.heap.size (0 + pre.length) (out.map encK)) : Row2 w W' pre out := by
  have hb := h.body
  have hu : Upd [w.heap.size] W W' := by rw [hW]; exact upd_setCells _ _ _ _
  refine h.next (fun j hj => ?_) (fun k hk => hk) hu (fun j hj => ⟨?_, by rw [hW, World.frozen?_setCells]⟩)
  · refine ⟨?_, by rw [hW, World.frozen?_setCells]; exact (hb j hj).2⟩
    have := World.cell?_setCells_in w.heap.size (out.map encK) (0 + pre.length) W (fun j hj => by
      rw [Nat.zero_add, (hb j (by simpa using hj)).1]; rfl) j (by simpa using hj)
    rw [show pre.length + j = 0 + pre.length + j by omega, hW, this]
    simp [hj]
  · rw [hW, World.cell?_setCells_out _ _ _ _ _ (fun _ _ => Or.inl (by show j < 0 + pre.length; omega))]

theorem Row2.rdy {F : Interp} {w W : World} {pre out : List Key} {k : Nat} (h : Row2 w W pre out) (hs : sumK (pre ++ out) ≤ 41100) (hk : (pre ++ out).length = k) (hn : k ≤ 1026) (hK : Kinds w) (hF : F.answers w.tape) : Rdy F w W w.heap.size (pre ++ out) k :=
  ⟨⟨h.row, fun x hx => (h.old x hx).good h.bel (Nat.le_refl _), fun x hx => (h.old x hx).bytes⟩, hk, hn, hs, hK.cell fun a v ha => cell_in h.bel ha, by rw [h.bel.tape]; exact hF, h.bel⟩

/-- The keys of such a page ascend. -/
theorem asc_ok {w W : World} {pre out : List Key} {f k : Nat} (h : Row2 w W pre out) (ha : Asc out) (hf : pre.length = f) (hk : (pre ++ out).length = k) : okB (xsOf (pre ++ out)) f k = true := by
  subst hf
  refine okB_iff.2 fun i h1 h2 => ?_
  obtain ⟨j, rfl⟩ : ∃ j, i = pre.length + j := ⟨i - pre.length, by omega⟩
  have hj : j < out.length := by rw [← hk] at h2; simp at h2; omega
  have hm := getD_mem hj
  have ho := h.old _ (List.mem_append_right pre hm)
  have hp := h.pos _ hm
  have hl := ho.bin.len
  have hx := ho.mx
  unfold xsOf
  rw [getD_right]
  refine ⟨by omega, fun hlt => ?_⟩
  rw [show pre.length + j - 1 = pre.length + (j - 1) by omega, getD_right]
  have := ha (j - 1) (by omega)
  rw [show j - 1 + 1 = j by omega] at this
  exact this

/-- The last key once more behind them: they ascend no more. -/
theorem asc_bad {pre out : List Key} {f l : Nat} (hf : pre.length = f) (hl : out.length = l) (h0 : 0 < l) : okB (xsOf (pre ++ out ++ [out.getD (l - 1) noKey])) f (f + l + 1) = false := by
  subst hf hl
  refine okB_false (OkTo.bad_cmp (i := pre.length + out.length) (by omega) (by omega) ?_)
  unfold xsOf
  rw [getD_snoc, getD_snoc, if_pos (by simp), if_neg (by simp; omega), show pre.length + out.length - 1 = pre.length + (out.length - 1) by omega, getD_right, cmpI_self]
  exact Int.le_refl _

/-- The row that append makes anew. -/
theorem dup_rdy {F : Interp} {w W W' : World} {pre out : List Key} {g l k : Nat} {cs : List Value} (h : Row2 w W pre out) (hs : sumK (pre ++ out) ≤ 40000) (hl : out.length = l) (h0 : 0 < l) (hk : (pre ++ out).length + 1 = k) (hn : k ≤ 1026) (hK : Kinds w) (hF : F.answers w.tape)
    (hb : Below W.heap.size W W') (hg : W.heap.size ≤ g) (hc : W'.heap[g]? = some (.cells cs.toArray 23 (0, 0))) (ht : cs.take k = (pre ++ out ++ [out.getD (l - 1) noKey]).map encK) :
    Rdy F w W' g (pre ++ out ++ [out.getD (l - 1) noKey]) k := by
  subst hl
  have hlast := getD_mem (ks := out) (i := out.length - 1) (by omega)
  have hbel : Below w.heap.size w W' := h.bel.trans (hb.mono h.bel.size)
  have hold : ∀ x ∈ pre ++ out ++ [out.getD (out.length - 1) noKey], Old w x := fun x hx => by
    rcases List.mem_append.1 hx with hx | hx
    · exact h.old x hx
    · obtain rfl := List.mem_singleton.1 hx
      exact h.old _ (List.mem_append_right _ hlast)
  have hgw : w.heap.size ≤ g := Nat.le_trans (Nat.le_of_lt h.lt) hg
  refine ⟨⟨fun j hj => ?_, fun x hx => (hold x hx).good hbel hgw, fun x hx => (hold x hx).bytes⟩, by rw [← hk]; simp; omega, hn, ?_, hK.cell fun a v ha => cell_in hbel ha, by rw [hbel.tape]; exact hF, hbel⟩
  · refine ⟨?_, frozen_of_row _ _ _ _ _ hc⟩
    rw [Nat.zero_add, cell_of_row _ _ _ _ _ _ hc]
    have hjk : j < k := by rw [← hk]; simp at hj ⊢; omega
    have e : (cs.take k)[j]? = cs[j]? := by rw [List.getElem?_take]; simp [hjk]
    rw [List.getElem?_toArray, ← e, ht]
    generalize pre ++ out ++ [out.getD (out.length - 1) noKey] = L at hj ⊢
    rw [List.getElem?_map, List.getElem?_eq_getElem hj]
    simp [List.getD, List.getElem?_eq_getElem hj]
  · rw [sumK_append]
    have := (h.old _ (List.mem_append_right pre hlast)).mx
    simp only [sumK]
    omega
end Go.Proofs.YbulkczrmFmt
