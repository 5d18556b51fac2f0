import Derived.Test.YbulkczrmDoorKit
namespace Go.Proofs.YbulkczrmDoor
open Go.RowKit

theorem Ybad.comp81 : (Ybad.prog.info? 81).map (·.comparable) = some true := by kernel_rfl
theorem Ybad.size83 : (Ybad.prog.info? 83).map (·.size) = some 1 := by kernel_rfl

/-- The store, its cache without a spare buffer, the file before its first read. -/
structure Laid (w : World) (Bs Bc Bf gd n : Nat) (path : ByteArray) (k : Int) (aE aP : Addr) (D : List Int) : Prop where
  s0 : w.cell? ⟨Bs, 0, none⟩ = some (.string path)
  s1 : w.cell? ⟨Bs, 1, none⟩ = some (.iface 26 (.pointer (some ⟨Bf, 0, none⟩)))
  s17 : w.cell? ⟨Bs, 17, none⟩ = some (.pointer (some ⟨Bc, 0, none⟩))
  s18 : w.cell? ⟨Bs, 18, none⟩ = some (.int .i64 k)
  sf : w.frozen? ⟨Bs, 18, none⟩ = false
  f : w.heap[Bf]? = some (.cells #[.slice (some ⟨gd, 0, none⟩) n n, .nilIface, .slice none 0 0, .slice none 0 0] 32 (0, 0))
  d : w.heap[gd]? = some (.cells (bcells D).toArray 5 (0, 0))
  e : w.cell? ⟨2, 0, none⟩ = some (.iface 81 (.pointer (some aE)))
  p : w.cell? ⟨0, 0, none⟩ = some (.iface 81 (.pointer (some aP)))
  dl : D.length = n
  sF : Bs ≠ Bf
  sd : Bs ≠ gd
  fd : Bf ≠ gd
  s2 : 2 < Bs
  f2 : 2 < Bf
  d2 : 2 < gd
  nn : n < 30000

theorem hReadAt (Bf : Nat) (w : World) : (method 256 26 (.pointer (some ⟨Bf, 0, none⟩)) "ReadAt").run Ybad.prog w = .ok (39, .pointer (some ⟨Bf, 0, none⟩)) w := by kernel_rfl

/-- What readPage leaves: the file's one read, the count, all else as it was. -/
structure Left (w w' : World) (Bs Bf gd n q : Nat) (k : Int) : Prop where
  file : FileAt w' Bf (.slice (some ⟨gd, 0, none⟩) n n) .nilIface (q * 4096 : Nat)
  count : w'.cell? ⟨Bs, 18, none⟩ = some (.int .i64 (k + 1))
  upd : Upd [Bs, Bf] w w'

theorem cell_alloc {w : World} {a : Addr} {v : Value} (o : Obj) (h : w.cell? a = some v) : (w.alloc o).cell? a = some v := by
  rw [World.cell?_alloc_lt _ _ _ (World.block_lt_of_cell? w _ h)]; exact h
theorem FileAt.alloc {w : World} {Bf : Nat} {dv fv : Value} {o : Int} (h : FileAt w Bf dv fv o) (ob : Obj) : FileAt (w.alloc ob) Bf dv fv o := by
  obtain ⟨go, co, gl, cl, h1, h2, h3⟩ := h
  exact ⟨go, co, gl, cl, (Below.heap_alloc _ _ _ (lt_of_block h1)).trans h1, cell_alloc _ h2, cell_alloc _ h3⟩
theorem Left.alloc {w w' : World} {Bs Bf gd n q : Nat} {k : Int} (h : Left w w' Bs Bf gd n q k) (o : Obj) : Left w (w'.alloc o) Bs Bf gd n q k :=
  ⟨h.file.alloc o, cell_alloc o h.count, h.upd.alloc o⟩
theorem splice_all {α : Type} (l x : List α) (h : l.length = x.length) : splice l 0 x = x := by
  simp [splice, ← h]

set_option maxRecDepth 20000 in
set_option maxHeartbeats 1000000 in
theorem readPage_new (Bs Bc Bf gd n L q : Nat) (path : ByteArray) (k : Int) (aE aP : Addr) (D : List Int) (w : World) (H : Laid w Bs Bc Bf gd n path k aE aP D)
    (hc : w.cell? ⟨Bc, 9, none⟩ = some (.slice none 0 0)) (hk0 : 0 ≤ k) (hk1 : k < 1000) (hq : q < 6) (hL1 : L ≤ 4096) (hL2 : 4096 ≤ L) :
    Calls Ybad.prog 6 #[.pointer (some ⟨Bs, 0, none⟩), .int .u32 q] w fun e w' => Left w w' Bs Bf gd n q k ∧
      ((q * 4096 + 4096 ≤ n ∧ e = .returned (.tuple #[.slice (some ⟨w.heap.size, 0, none⟩) L L, .nilIface]) ∧ w'.heap[w.heap.size]? = some (.cells (bcells ((D.drop (q * 4096)).take L)).toArray 5 (0, 0))) ∨
       (n < q * 4096 + 4096 ∧ ∃ g, e = .returned (.tuple #[.slice none 0 0, .iface 56 (.pointer (some ⟨g, 0, none⟩))]) ∧ w'.heap[g]? = some (.cells #[.string path, .int .i64 q, .iface 81 (.pointer (some aP))] 59 (0, 0)))) := by
  obtain ⟨h0, h1, h17, h18, hsf, hf, hd, hE, hP, hDl, hsF, hsd, hfd, hs2, hf2, hd2, hnn⟩ := H
  have F0 : Hid (w.heap[Bf]? = some (.cells #[.slice (some ⟨gd, 0, none⟩) n n, .nilIface, .slice none 0 0, .slice none 0 0] 32 (0, 0)) ∧ w.heap[gd]? = some (.cells (bcells D).toArray 5 (0, 0)) ∧ D.length = n ∧ L = 4096) := ⟨hf, hd, hDl, by omega⟩
  have hBs := World.block_lt_of_cell? w _ h0
  have hBf := lt_of_block hf
  have hgd := lt_of_block hd
  clear hf hd hDl
  have hm := hReadAt Bf
  go_enter Ybad.func6, Ybad.ntmps6
  go_wp2_with fail
  refine (buffer_new L _ _ hc F0.out.2.2.2).mono ?_
  rintro e w1 ⟨rfl, hp1, hu1⟩
  have old1 : ∀ k, k < w.heap.size → w1.heap[k]? = w.heap[k]? := fun k hk => hu1.block k hk (by simp)
  have c1 : ∀ b o, b < w.heap.size → w1.cell? ⟨b, o, none⟩ = w.cell? ⟨b, o, none⟩ := fun b o hb => World.cell?_of_block (old1 b hb)
  have a0 := (c1 Bs 0 hBs).trans h0
  have a1 := (c1 Bs 1 hBs).trans h1
  have a18 := (c1 Bs 18 hBs).trans h18
  have afr : w1.frozen? ⟨Bs, 18, none⟩ = false := (World.frozen?_of_block (old1 Bs hBs)).trans hsf
  have bE := (c1 2 0 (by omega)).trans hE
  have bP := (c1 0 0 (by omega)).trans hP
  have F1 : Hid _ := And.intro hp1 (And.intro hu1 old1)
  clear hp1 hu1 old1 c1 h0 h1 h17 h18 hsf hE hP hc
  go_wp2_with fail
  obtain ⟨hp1, hu1, old1⟩ := F1.out
  rw [show ((q : Int) * 4096) = ((q * 4096 : Nat) : Int) by omega]
  obtain ⟨v, hv⟩ : ∃ v : Value, (q * 4096 + L ≤ n ∧ v = .nilIface) ∨ (n < q * 4096 + L ∧ v = .iface 81 (.pointer (some aE))) := by
    by_cases h : q * 4096 + L ≤ n
    · exact ⟨_, .inl ⟨h, rfl⟩⟩
    · exact ⟨_, .inr ⟨by omega, rfl⟩⟩
  refine (readAt_ok Bf gd w.heap.size n (q * 4096) L (min (n - q * 4096) L) v D (List.replicate L 0) 81 (.pointer (some aE)) _ ?_ ?_ ?_ ?_ (by simp) F0.out.2.2.1 (by omega) hfd (by omega) (by omega) (by omega) (by omega) (by omega) (by omega) (by omega) rfl hv).mono ?_
  · rw [heap_setCell_other _ _ _ _ (by simp; omega), old1 _ hBf]; exact F0.out.1
  · rw [heap_setCell_other _ _ _ _ (by simp; omega)]; exact hp1
  · rw [heap_setCell_other _ _ _ _ (by simp; omega), old1 _ hgd]; exact F0.out.2.1
  · rw [← bE]; exact World.cell?_of_block (heap_setCell_other _ _ _ _ (by simp; omega))
  rintro e w2 ⟨rfl, hfile, hpg, hu2⟩
  have hs1 := hu1.size
  have hs2' := hu2.size
  have hs3 : (w1.setCell ⟨Bs, 18, none⟩ (.int .i64 (k + 1))).heap.size = w1.heap.size := by simp
  rw [hs3] at hs2'
  have old2 : ∀ k, k < w.heap.size → k ≠ Bf → k ≠ Bs → w2.heap[k]? = w1.heap[k]? := fun j hj h1 h2 => (hu2.block j (by simp; omega) (by simp; omega)).trans (heap_setCell_other _ _ _ _ h2)
  have b0 : w2.cell? ⟨Bs, 0, none⟩ = some (.string path) := by
    rw [World.cell?_of_block (hu2.block Bs (by simp; omega) (by simp; omega)), World.cell?_setCell_other _ _ _ _ (by simp)]; exact a0
  have b18 : w2.cell? ⟨Bs, 18, none⟩ = some (.int .i64 (k + 1)) := by
    rw [World.cell?_of_block (hu2.block Bs (by simp; omega) (by simp; omega))]; exact World.cell?_setCell_same _ _ _ a18
  have cE : w2.cell? ⟨2, 0, none⟩ = some (.iface 81 (.pointer (some aE))) := (World.cell?_of_block (old2 2 (by omega) (by omega) (by omega))).trans bE
  have cP : w2.cell? ⟨0, 0, none⟩ = some (.iface 81 (.pointer (some aP))) := (World.cell?_of_block (old2 0 (by omega) (by omega) (by omega))).trans bP
  have FIN : Hid (Left w w2 Bs Bf gd n q k ∧ w2.heap[w.heap.size]? = some (.cells (splice (bcells (List.replicate L 0)) 0 (bcells ((D.drop (q * 4096)).take (min (n - q * 4096) L)))).toArray 5 (0, 0))) := by
    refine ⟨⟨hfile, b18, ?_⟩, hpg⟩
    refine ⟨hu2.os.trans hu1.os, hu2.tape.trans hu1.tape, hu2.output.trans hu1.output, by omega, fun j hj hn => ?_⟩
    simp at hn
    rw [old2 j hj (by omega) (by omega), old1 j hj]
  clear hfile hpg hu2 hu1 old1 old2 hp1 a0 a1 a18 afr bE bP F1 hm
  rcases hv with ⟨hle, rfl⟩ | ⟨hlt, rfl⟩
  · have hq1 := run_eql_iface_nil_left (P := Ybad.prog) w2 81 (.pointer (some aE)) Ybad.underlying28
    go_wp2
    go_ret2
    refine ⟨FIN.out.1, .inl ⟨by omega, rfl, ?_⟩⟩
    rw [FIN.out.2, show min (n - q * 4096) L = L by omega, splice_all]
    have := F0.out.2.2.1
    simp [bcells]; omega
  · obtain ⟨i, hi, hcmp⟩ := Option.map_eq_some_iff.1 Ybad.comp81
    obtain ⟨j, hj, _⟩ := Option.map_eq_some_iff.1 Ybad.size83
    have hq1 := run_eql_iface_ptr_same (P := Ybad.prog) w2 aE Ybad.underlying28 Ybad.underlying81 hi hcmp hj
    go_wp2_with fail
    refine (pageError_any Bs q 81 (.pointer (some aP)) path _ b0 (by omega) (by omega)).mono ?_
    rintro e w3 ⟨rfl, rfl⟩
    go_wp2
    go_ret2
    have hL := FIN.out.1
    exact ⟨hL.alloc _, .inr ⟨by omega, w2.heap.size, rfl, heap_alloc_new _ _⟩⟩
end Go.Proofs.YbulkczrmDoor
