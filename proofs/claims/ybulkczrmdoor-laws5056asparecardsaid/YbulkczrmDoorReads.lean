import Derived.Test.YbulkczrmDoorPage
import Derived.OpenShut
import Derived.Carry
namespace Go.Proofs.YbulkczrmDoor
open Go.RowKit

/-- WHAT THE WALK IS TOLD OF A SLICE OF INTEGERS THAT CAME IN. -/
def IsRow (k : IntKind) (w : World) (a : Option Addr) (len cap : Nat) (zs : List Int) : Prop :=
  (a = none ∧ len = 0 ∧ cap = 0 ∧ zs = []) ∨
  ∃ x, a = some x ∧ len ≤ cap ∧ cap ≤ maxLen ∧ zs.length = cap ∧ (∀ i, i < zs.length → w.cell? (x.add i) = some (.int k (zs.getD i 0))) ∧ ∀ n ∈ zs, (Lit.int k n).wf = true

theorem row_of_own {w : World} {base g n : Nat} {e : TypeId} {xs : List Value} (h : w.ownsRow base e 1 (.slice (some ⟨g, 0, none⟩) n n) n xs) : w.heap[g]? = some (.cells xs.toArray e (0, 0)) := by
  rcases h.2 with ⟨h', _⟩ | ⟨g', c, cur, hv, _, hh, _, _, hs, ht⟩
  · cases h'
  · simp only [Value.slice.injEq, Option.some.injEq, Addr.mk.injEq, and_true, true_and] at hv
    obtain ⟨rfl, rfl⟩ := hv
    rw [List.take_of_length_le (by simp [hs])] at ht
    rw [hh, ← ht]

theorem bcells_cell {w : World} {g k : Nat} {X : List Int} (h : w.heap[g]? = some (.cells (bcells X).toArray 5 (0, 0))) (hk : k < X.length) : w.cell? ⟨g, k, none⟩ = some (.int .u8 (X.getD k 0)) := by
  rw [cell_of_row w _ _ _ _ _ h]; simp [bcells, hk]

theorem bcells_set {w : World} {g k : Nat} {X : List Int} (h : w.heap[g]? = some (.cells (bcells X).toArray 5 (0, 0))) (v : Int) :
    (w.setCell ⟨g, k, none⟩ (.int .u8 v)).heap[g]? = some (.cells (bcells (X.set k v)).toArray 5 (0, 0)) := by
  rw [heap_setCell_same _ _ _ _ _ _ h]
  simp [bcells, List.map_set]

theorem cell_before {W : World} {C : Array Value} {t : TypeId} {st : Obj} {b j : Nat} {v : Value} (hb : b = W.heap.size) (hC : C[j]? = some v) : ((W.alloc (.cells C t)).alloc st).cell? ⟨b, j, none⟩ = some v := by
  subst hb
  refine cell_alloc _ ?_
  rw [World.cell?_alloc_new]; exact hC

/-- The four blocks that the law lays ahead of readPage. -/
theorem laid_of {wr : World} {gd n : Nat} {path : ByteArray} {k : Int} {aE aP : Addr} {X : List Int} {mp ca : Obj} {S : Array Value}
    (hd : wr.heap[gd]? = some (.cells (bcells X).toArray 5 (0, 0))) (hE : wr.cell? ⟨2, 0, none⟩ = some (.iface 81 (.pointer (some aE)))) (hP : wr.cell? ⟨0, 0, none⟩ = some (.iface 81 (.pointer (some aP)))) (hX : X.length = n)
    (hd2 : 2 < gd) (hnn : n < 30000) (s0 : S[0]? = some (.string path)) (s1 : S[1]? = some (.iface 26 (.pointer (some ⟨wr.heap.size, 0, none⟩)))) (s17 : S[17]? = some (.pointer (some ⟨wr.heap.size + 1 + 1, 0, none⟩))) (s18 : S[18]? = some (.int .i64 k)) :
    Laid ((((wr.alloc (.cells #[.slice (some ⟨gd, 0, none⟩) n n, .nilIface, .slice none 0 0, .slice none 0 0] 32)).alloc mp).alloc ca).alloc (.cells S 53)) (wr.heap.size + 1 + 1 + 1) (wr.heap.size + 1 + 1) wr.heap.size gd n path k aE aP X := by
  have hlt := lt_of_block hd
  have hs : (((wr.alloc (.cells #[.slice (some ⟨gd, 0, none⟩) n n, .nilIface, .slice none 0 0, .slice none 0 0] 32)).alloc mp).alloc ca).heap.size = wr.heap.size + 1 + 1 + 1 := by simp
  have hS := heap_alloc_new (((wr.alloc (.cells #[.slice (some ⟨gd, 0, none⟩) n n, .nilIface, .slice none 0 0, .slice none 0 0] 32)).alloc mp).alloc ca) (.cells S 53)
  rw [hs] at hS
  refine ⟨?_, ?_, ?_, ?_, ?_, ?_, ?_, ?_, ?_, hX, by omega, by omega, by omega, by omega, by omega, hd2, hnn⟩
  · rw [cell_of_row _ _ _ _ _ _ hS]; exact s0
  · rw [cell_of_row _ _ _ _ _ _ hS]; exact s1
  · rw [cell_of_row _ _ _ _ _ _ hS]; exact s17
  · rw [cell_of_row _ _ _ _ _ _ hS]; exact s18
  · exact frozen_of_row _ _ _ _ _ hS
  · rw [Below.heap_alloc _ _ _ (by simp; omega), Below.heap_alloc _ _ _ (by simp; omega), Below.heap_alloc _ _ _ (by simp)]; exact heap_alloc_new _ _
  · rw [Below.heap_alloc _ _ _ (by simp; omega), Below.heap_alloc _ _ _ (by simp; omega), Below.heap_alloc _ _ _ (by simp; omega), Below.heap_alloc _ _ _ hlt]; exact hd
  · exact cell_alloc _ (cell_alloc _ (cell_alloc _ (cell_alloc _ hE)))
  · exact cell_alloc _ (cell_alloc _ (cell_alloc _ (cell_alloc _ hP)))

theorem hNilSlice (w : World) : (binOp .eql 23 (.slice none 0 0) (.slice none 0 0)).run Ybad.prog w = .ok (.bool true) w := by kernel_rfl

theorem hAssert (g : Nat) (w : World) : (Instr.typeAssert (.iface 56 (.pointer (some ⟨g, 0, none⟩))) 28 56 true).run Ybad.prog w = .ok (.tuple #[.pointer (some ⟨g, 0, none⟩), .bool true]) w := by kernel_rfl

set_option maxRecDepth 20000 in
set_option maxHeartbeats 1000000 in
theorem reads_any (a0 a1 a3 N q L : Nat) (a2 : Option Addr) (len2 cap2 : Nat) (z2 : List Int) (path : ByteArray) (aE aP : Addr) (w : World) (h0 : a0 < 256) (h1 : a1 < 65536) (h3 : a3 < 256)
    (hN : N = a0 % 4 * 4096 + a1 % 4096) (hq : q = a3 % 6) (hlen : len2 ≤ 1024) (hL1 : L ≤ 4096) (hL2 : 4096 ≤ L)
    (w2 : IsRow .u8 w a2 len2 cap2 z2) (hE : w.cell? ⟨2, 0, none⟩ = some (.iface 81 (.pointer (some aE)))) (hP : w.cell? ⟨0, 0, none⟩ = some (.iface 81 (.pointer (some aP)))) :
    Calls Ybad.prog 3 #[.int .u8 a0, .int .u16 a1, .slice a2 len2 cap2, .int .u8 a3, .string path] w fun e w' => e = .returned (.bool true) ∧ Below w.heap.size w w' := by
  obtain ⟨i0, hi, hz0, hz1, hz2⟩ := info_parts Ybad.info5
  have HN : Hid (N = a0 % 4 * 4096 + a1 % 4096) := hN
  have hN1 : N < 16384 := by omega
  have HB : Hid (2 < w.heap.size) := World.block_lt_of_cell? _ _ hE
  have hq6 : q < 6 := by omega
  have HQ : Hid (q = a3 % 6) := hq
  clear hN hq
  go_enter Ybad.func3, Ybad.ntmps3
  go_wp2_with (first | (at_make; refine wpList_make_full _ rfl _ _ 23 rfl w.heap.size 5 i0 (.int .u8 0) 1 Ybad.underlying23 hi hz0 hz1 _ _ _ _ N rfl rfl (by have := HN.out; omega) (by have := HN.out; omega) (by rw [hz2]; omega) (by unfold maxLen; omega) (Nat.le_refl _) ?_))
  intro w1 hown hg
  have hNe : ((a0 : Int) % 4 * 4096 + (a1 : Int) % 4096) = (N : Int) := by have := HN.out; omega
  simp only [hNe]
  have R1 : Hid (w1.heap[w.heap.size]? = some (.cells (bcells (List.replicate N 0)).toArray 5 (0, 0)) ∧ Below w.heap.size w w1) := by
    refine ⟨?_, (Below.refl _ _).grown hg (Nat.le_refl _) (by simp)⟩
    rw [row_of_own hown, toList_madeCells_one]; simp [bcells]
  clear hown hg hNe HN
  go_wp2
  go_loopw [15] (fun i wr => ∃ (k : Nat) (X : List Int), k ≤ N ∧ i = .int .i64 k ∧ X.length = N ∧ Below w.heap.size w wr ∧ w.heap.size < wr.heap.size ∧ Hid (wr.heap[w.heap.size]? = some (.cells (bcells X).toArray 5 (0, 0)))) (fun i _ => N - (intOf i).toNat)
  case atStart => exact ⟨0, List.replicate N 0, Nat.zero_le _, rfl, by simp, R1.out.2, lt_of_block R1.out.1, R1.out.1⟩
  case round =>
    obtain ⟨k, X, hk, rfl, hX, hbel, hsz, HX⟩ := hrel
    by_cases hlt : k < N
    · have hck : wr.cell? ⟨w.heap.size, k, none⟩ = some (.int .u8 (X.getD k 0)) := bcells_cell HX.out (by omega)
      have hfr : wr.frozen? ⟨w.heap.size, k, none⟩ = false := frozen_of_row _ _ _ _ _ HX.out
      by_cases hl0 : 0 < len2
      · rcases w2 with ⟨_, h, _⟩ | ⟨x, rfl, hlc, hcm, hz, hcell, hwf⟩
        · omega
        obtain ⟨b, off, rfl, hc⟩ := ints_at hcell (by omega)
        have hkm : k % len2 < len2 := Nat.mod_lt _ hl0
        have hcs : wr.cell? ⟨b, off + k % len2, none⟩ = some (.int .u8 (z2.getD (k % len2) 0)) := by
          have h' := hc (k % len2) (by omega)
          rw [hbel.cell (World.block_lt_of_cell? _ _ h')]; exact h'
        clear hcell hc hwf hE hP
        go_wp2
        go_roundw
        case rel => exact ⟨k + 1, X.set k _, by omega, by go_num, by simpa using hX, hbel.setCell (Nat.le_refl _) _, by simpa using hsz, bcells_set HX.out _⟩
        case measure => simp [intOf]; omega
      · obtain rfl : len2 = 0 := by omega
        clear w2 hE hP
        go_wp2
        go_roundw
        case rel => exact ⟨k + 1, X.set k _, by omega, by go_num, by simpa using hX, hbel.setCell (Nat.le_refl _) _, by simpa using hsz, bcells_set HX.out _⟩
        case measure => simp [intOf]; omega
    · have hE' := (hbel.cell (World.block_lt_of_cell? _ _ hE)).trans hE
      have hP' := (hbel.cell (World.block_lt_of_cell? _ _ hP)).trans hP
      clear w2 hE hP R1
      have hmm := @run_makeMap Ybad.prog
      go_wp2_with fail
      have hqe : (a3 : Int) % 6 = (q : Int) := by have := HQ.out; omega
      simp only [hqe]
      have hgb : 2 < w.heap.size := HB.out
      refine (readPage_new _ _ _ w.heap.size N L q path 5 aE aP X _ (laid_of HX.out hE' hP' hX hgb (by omega) rfl rfl rfl rfl) ?_ (by omega) (by omega) (by omega) (by omega) (by omega)).mono ?_
      · exact cell_before (by simp) rfl
      rintro e w' ⟨⟨hfile, hcount, hupd⟩, hcase⟩
      obtain ⟨go, co, gl, cl, f1, f2, f3⟩ := hfile
      have c2 : w'.cell? ⟨wr.heap.size, 2, none⟩ = some (.slice (some ⟨go, 0, none⟩) 1 co) := by rw [cell_of_row _ _ _ _ _ _ f1]; rfl
      have c3 : w'.cell? ⟨wr.heap.size, 3, none⟩ = some (.slice (some ⟨gl, 0, none⟩) 1 cl) := by rw [cell_of_row _ _ _ _ _ _ f1]; rfl
      rw [show ((q * 4096 : Nat) : Int) = (q : Int) * 4096 by omega] at f2
      have hb' : Below w.heap.size w w' := Upd.below ((((hbel.alloc (by omega) _).alloc (by simp; omega) _).alloc (by simp; omega) _).alloc (by simp; omega) _) hupd (by intro x hx; simp at hx; omega) (by simp; omega)
      have hdat : w'.heap[w.heap.size]? = some (.cells (bcells X).toArray 5 (0, 0)) := by
        rw [hupd.block _ (by simp; omega) (by simp; omega), Below.heap_alloc _ _ _ (by simp; omega), Below.heap_alloc _ _ _ (by simp; omega), Below.heap_alloc _ _ _ (by simp; omega), Below.heap_alloc _ _ _ hsz]; exact HX.out
      have HD : Hid (Below w.heap.size w w' ∧ w'.heap[w.heap.size]? = some (.cells (bcells X).toArray 5 (0, 0))) := ⟨hb', hdat⟩
      have hP2 : w'.cell? ⟨0, 0, none⟩ = some (.iface 81 (.pointer (some aP))) := by
        rw [hb'.cell (by simp; omega), ← hbel.cell (by simp; omega)]; exact hP'
      clear f1 hupd hdat hb' hE' hP' hmm
      rcases hcase with ⟨hle, rfl, hpg⟩ | ⟨hlt2, g, rfl, hpe⟩
      · have HPG : Hid (w'.heap[wr.heap.size + 1 + 1 + 1 + 1]? = some (.cells (bcells ((X.drop (q * 4096)).take L)).toArray 5 (0, 0))) := by simp at hpg; exact hpg
        clear hpg
        go_wp2
        generalize hBw : wr.heap.size = Bw at *
        clear hBw
        go_loopw [22] (fun i wv => ∃ j : Nat, j ≤ 4096 ∧ i = .int .i64 j ∧ Below w.heap.size w wv ∧ Hid (wv.heap[w.heap.size]? = some (.cells (bcells X).toArray 5 (0, 0)) ∧ wv.heap[Bw + 1 + 1 + 1 + 1]? = some (.cells (bcells ((X.drop (q * 4096)).take L)).toArray 5 (0, 0)))) (fun i _ => 4096 - (intOf i).toNat)
        case atStart => exact ⟨0, Nat.zero_le _, rfl, HD.out.1, HD.out.2, HPG.out⟩
        case round =>
          obtain ⟨j, hj, rfl, hbv, HV⟩ := hrel
          clear c2 c3 f2 f3 hcount hP2
          by_cases hjl : j < 4096
          · have d1 : wr.cell? ⟨w.heap.size, q * 4096 + j, none⟩ = some (.int .u8 (X.getD (q * 4096 + j) 0)) := bcells_cell HV.out.1 (by omega)
            have d2 : wr.cell? ⟨Bw + 1 + 1 + 1 + 1, j, none⟩ = some (.int .u8 (X.getD (q * 4096 + j) 0)) := by
              rw [bcells_cell HV.out.2 (by simp; omega)]
              simp [List.getElem?_drop, show j < L by omega]
            go_wp2
            go_region
            all_goals
              go_wp2
              go_roundw
              case rel => exact ⟨j + 1, by omega, by go_num, hbv.drew, HV⟩
              case measure => simp [intOf]; omega
          · go_wp2
            go_ret
            exact ⟨rfl, hbv⟩
      · have p0 : w'.cell? ⟨g, 0, none⟩ = some (.string path) := by rw [cell_of_row _ _ _ _ _ _ hpe]; rfl
        have p1 : w'.cell? ⟨g, 1, none⟩ = some (.int .i64 q) := by rw [cell_of_row _ _ _ _ _ _ hpe]; rfl
        have p2 : w'.cell? ⟨g, 2, none⟩ = some (.iface 81 (.pointer (some aP))) := by rw [cell_of_row _ _ _ _ _ _ hpe]; rfl
        clear hpe
        obtain ⟨it, hit, hcmp⟩ := Option.map_eq_some_iff.1 Ybad.comp81
        obtain ⟨jt, hjt, _⟩ := Option.map_eq_some_iff.1 Ybad.size83
        have hqa := fun W : World => run_eql_iface_ptr_same (P := Ybad.prog) W aP Ybad.underlying28 Ybad.underlying81 hit hcmp hjt
        have hta := hAssert g
        have hsl := hNilSlice
        go_wp2
        go_quiet (fail)
        go_wp2
        go_ret
        exact ⟨rfl, below_drewN HD.out.1 _⟩

set_option maxRecDepth 20000 in
theorem reads_long (a0 a1 a3 : Nat) (a2 : Option Addr) (len2 cap2 : Nat) (path : ByteArray) (w : World) (hlen : 1024 < len2) :
    Calls Ybad.prog 3 #[.int .u8 a0, .int .u16 a1, .slice a2 len2 cap2, .int .u8 a3, .string path] w fun e w' => e = .returned (.bool true) ∧ Below w.heap.size w w' := by
  go_enter Ybad.func3, Ybad.ntmps3
  go_wp2
  go_ret
  exact ⟨rfl, Below.refl _ _⟩
end Go.Proofs.YbulkczrmDoor
