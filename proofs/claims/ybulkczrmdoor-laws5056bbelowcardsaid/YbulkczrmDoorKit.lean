import Derived.Test.YbulkczrmDoorRows
import Derived.WalkKit
import Derived.WalkSmall
import Derived.Laws.CopyOwn
import Derived.LaidEql
import Derived.BigQuiet
import Derived.Deep.QuietTactic
namespace Go.Proofs.YbulkczrmDoor
open Go.RowKit

/-- Blocks of w other than those in S stand as they stood. -/
structure Upd (S : List Nat) (w w' : World) : Prop where
  os : w'.os = w.os
  tape : w'.tape = w.tape
  output : w'.output = w.output
  size : w.heap.size ≤ w'.heap.size
  block : ∀ k, k < w.heap.size → k ∉ S → w'.heap[k]? = w.heap[k]?

theorem Upd.refl (S : List Nat) (w : World) : Upd S w w := ⟨rfl, rfl, rfl, Nat.le_refl _, fun _ _ _ => rfl⟩
theorem Upd.trans {S : List Nat} {a b c : World} (h : Upd S a b) (k : Upd S b c) : Upd S a c :=
  ⟨k.os.trans h.os, k.tape.trans h.tape, k.output.trans h.output, Nat.le_trans h.size k.size, fun i hi hs => (k.block i (Nat.lt_of_lt_of_le hi h.size) hs).trans (h.block i hi hs)⟩
theorem Upd.mono {S T : List Nat} {a b : World} (h : Upd S a b) (hs : ∀ x ∈ S, x ∈ T) : Upd T a b := ⟨h.os, h.tape, h.output, h.size, fun k hk hT => h.block k hk (fun e => hT (hs k e))⟩
theorem Upd.drew {S : List Nat} {a w : World} (h : Upd S a w) : Upd S a w.drew := ⟨h.os, h.tape, h.output, h.size, h.block⟩
theorem Upd.alloc {S : List Nat} {a w : World} (h : Upd S a w) (o : Obj) : Upd S a (w.alloc o) :=
  h.trans ⟨rfl, rfl, rfl, by simp, fun k hk _ => Below.heap_alloc _ _ _ hk⟩
theorem Upd.setCell {S : List Nat} {a w : World} (h : Upd S a w) {p : Addr} (hp : p.block ∈ S ∨ a.heap.size ≤ p.block) (u : Value) : Upd S a (w.setCell p u) :=
  ⟨h.os, h.tape, h.output, by have := h.size; simp [World.setCell]; omega, fun k hk hs => by
    rw [Below.heap_setCell _ _ _ _ (fun e => by rcases hp with hp | hp; exact hs (e ▸ hp); omega)]; exact h.block k hk hs⟩
theorem Upd.setRow {S : List Nat} {a w : World} (h : Upd S a w) {g : Nat} (hp : g ∈ S ∨ a.heap.size ≤ g) (cs : Array Value) : Upd S a (w.setRow g cs) :=
  ⟨h.os, h.tape, h.output, by have := h.size; simp [World.setRow]; omega, fun k hk hs => by
    rw [setRow_other w g k cs (fun e => by rcases hp with hp | hp; exact hs (e ▸ hp); omega)]; exact h.block k hk hs⟩
theorem Upd.grown {S : List Nat} {a w w' : World} {row : Option Nat} (h : Upd S a w) (hg : w.grownBy w' row) (hr : ∀ k, row = some k → k ∈ S ∨ a.heap.size ≤ k) : Upd S a w' :=
  ⟨hg.os.trans h.os, hg.tape.trans h.tape, hg.output.trans h.output, Nat.le_trans h.size hg.size, fun k hk hs => by
    rw [hg.block k (Nat.lt_of_lt_of_le hk h.size) (fun e => by rcases hr k e.symm with h' | h'; exact hs h'; omega)]; exact h.block k hk hs⟩
theorem Upd.below {S : List Nat} {B : Nat} {w0 a b : World} (h0 : Below B w0 a) (h : Upd S a b) (hs : ∀ x ∈ S, B ≤ x) (hB : B ≤ a.heap.size) : Below B w0 b :=
  h0.trans ⟨h.os, h.tape, h.output, h.size, fun k hk => h.block k (by omega) (fun e => by have := hs k e; omega)⟩

theorem Ybad.info5 : (Ybad.prog.info? 5).map (fun i => (i.zero, i.size, i.bytes)) = some (some (.int .u8 0), 1, 1) := by kernel_rfl
theorem Ybad.info2 : (Ybad.prog.info? 2).map (fun i => (i.zero, i.size, i.bytes)) = some (some (.int .i64 0), 1, 8) := by kernel_rfl
theorem Ybad.info3 : (Ybad.prog.info? 3).map (fun i => (i.zero, i.size, i.bytes)) = some (some (.int .i64 0), 1, 8) := by kernel_rfl
theorem Ybad.size5 : (Ybad.prog.info? 5).map (·.size) = some 1 := by kernel_rfl

/-- the cells of a list of bytes -/
def bcells (l : List Int) : List Value := l.map (Value.int .u8)

/-- 'buffer' with no spare. (L: 4096, kept as a letter: a Nat's literal in the frame is dear.) -/
theorem buffer_new (L Bc : Nat) (w : World) (hc : w.cell? ⟨Bc, 9, none⟩ = some (.slice none 0 0)) (hL : L = 4096) :
    Calls Ybad.prog 14 #[.pointer (some ⟨Bc, 0, none⟩)] w fun e w' => e = .returned (.slice (some ⟨w.heap.size, 0, none⟩) L L) ∧
      w'.heap[w.heap.size]? = some (.cells (bcells (List.replicate L 0)).toArray 5 (0, 0)) ∧ Upd [] w w' := by
  obtain ⟨i0, hi, hz0, hz1, hz2⟩ := info_parts Ybad.info5
  have h1 : L ≤ 4096 := by omega
  have h2 : 4096 ≤ L := by omega
  have HL : Hid (L = 4096) := hL
  clear hL
  go_enter Ybad.func14, Ybad.ntmps14
  go_wp2_with (first | (at_make; refine wpList_make_full _ rfl _ _ 36 rfl 0 5 i0 (.int .u8 0) 1 Ybad.underlying36 hi hz0 hz1 _ _ _ _ L rfl rfl (by omega) (by omega) (by rw [hz2]; omega) (by unfold maxLen; omega) (Nat.zero_le _) ?_))
  intro w1 hown hg
  go_wp2
  go_ret
  refine ⟨rfl, ?_, (Upd.refl _ _).grown hg (fun k hk => by cases hk)⟩
  rcases hown.2 with ⟨h, _⟩ | ⟨g, c, cur, hv, _, hh, _, _, hs, ht⟩
  · cases h
  · simp only [Value.slice.injEq, Option.some.injEq, Addr.mk.injEq, and_true, true_and] at hv
    obtain ⟨rfl, rfl⟩ := hv
    rw [hh]
    have : cur.toList = bcells (List.replicate L 0) := by
      rw [List.take_of_length_le (by simp [hs])] at ht
      rw [ht]
      rw [toList_madeCells_one]; simp [bcells]
    rw [← this]

theorem pageError_any (Bs : Nat) (n : Int) (tx : TypeId) (x : Value) (path : ByteArray) (w : World) (h0 : w.cell? ⟨Bs, 0, none⟩ = some (.string path)) (hn0 : 0 ≤ n) (hn1 : n < 4294967296) :
    Calls Ybad.prog 15 #[.pointer (some ⟨Bs, 0, none⟩), .int .u32 n, .iface tx x] w fun e w' => e = .returned (.iface 56 (.pointer (some ⟨w.heap.size, 0, none⟩))) ∧
      w' = w.alloc (.cells #[.string path, .int .i64 n, .iface tx x] 59) := by
  go_enter Ybad.func15, Ybad.ntmps15
  go_wp2
  go_ret
  exact ⟨rfl, rfl⟩

theorem own_one {w : World} {base : Nat} {e : TypeId} {v u : Value} (h : w.ownsRow base e 1 v 1 [u]) :
    ∃ g c cur, v = .slice (some ⟨g, 0, none⟩) 1 c ∧ base ≤ g ∧ w.heap[g]? = some (.cells cur e (0, 0)) ∧ cur[0]? = some u := by
  rcases h.2 with ⟨_, h0⟩ | ⟨g, c, cur, hv, hb, hh, hc, hm, hs, ht⟩
  · cases h0
  · refine ⟨g, c, cur, hv, hb, hh, ?_⟩
    have : (cur.toList.take 1)[0]? = some u := by rw [show cur.toList.take 1 = [u] from by simpa using ht]; rfl
    simpa using this

theorem one_at (w : World) (v : Value) (t : TypeId) (b : Nat) (hb : b = w.heap.size) : ∀ j u, [v][j]? = some u → (w.alloc (.cells #[v] t)).cell? ((⟨b, 0, none⟩ : Addr).add j) = some u := by
  intro j u hj
  match j, hj with
  | 0, hj =>
    simp at hj
    subst hj; subst hb
    rw [Addr.add_lit, cell_of_row _ _ _ _ _ _ (heap_alloc_new w _)]; rfl

/-- What a 'ReadAt' leaves of the file: its two new rows. -/
def FileAt (w : World) (Bf : Nat) (dv fv : Value) (o : Int) : Prop :=
  ∃ go co gl cl, w.heap[Bf]? = some (.cells #[dv, fv, .slice (some ⟨go, 0, none⟩) 1 co, .slice (some ⟨gl, 0, none⟩) 1 cl] 32 (0, 0)) ∧
    w.cell? ⟨go, 0, none⟩ = some (.int .i64 o) ∧ w.cell? ⟨gl, 0, none⟩ = some (.int .i64 4096)

theorem wpList_copy_named {P : Program} {w : World} {ops : Array Oper} {rest : List Oper} {o : Oper} {a : Act} {Q : Exit → Act → World → Prop} (hgd : o.guard = none) (d s : Operand) (dT sT : TypeId)
    (ho : o.op = .call { callee := .builtin .copy, args := #[d, s], argTypes := #[dT, sT] }) (elem : TypeId) (hu : P.underlying dT = some (.slice elem)) (hsz : (P.info? elem).map (·.size) = some 1)
    (g off dLen dCap : Nat) (ad : Addr) (sLen sCap : Nat) (hd : a.eval d = .slice (some ⟨g, off, none⟩) dLen dCap) (hs : a.eval s = .slice (some ad) sLen sCap)
    (cur : List Value) (t : TypeId) (cs : List Value) (c : Nat) (hc : cs.length = c) (hn : c = Nat.min sLen dLen)
    (hg : w.heap[g]? = some (.cells cur.toArray t (0, 0))) 
    (hsrc : ∀ j v, cs[j]? = some v → w.cell? (ad.add j) = some v) (hfit : off + cs.length ≤ cur.length) (h1 : ∀ v ∈ cs, v.oneCell' = true)
    (h : ∀ w', Hid (w' = w.setRow g (splice cur off cs).toArray ∧ w'.heap[g]? = some (.cells (splice cur off cs).toArray t (0, 0))) → wpList P ops Q rest (a.put o.dst (.int .i64 c)) w') : wpList P ops Q (o :: rest) a w := by
  subst hc
  refine wpList_copy_own hgd d s dT sT ho elem hu hsz g off dLen dCap ad sLen sCap hd hs cur.toArray t hg cs hn hsrc (by simpa using hfit) h1 ?_
  exact h _ ⟨by simp [splice], by simpa [splice] using setRow_heap w g _ _ t _ hg⟩

theorem bcells_len (l : List Int) : (bcells l).length = l.length := by simp [bcells]
theorem bcells_one (l : List Int) : ∀ v ∈ bcells l, v.oneCell' = true := by
  intro v hv
  obtain ⟨x, _, rfl⟩ := List.mem_map.1 hv
  rfl

theorem fileAt_of {w2 w3 : World} {Bf go co gl cl : Nat} {o : Int} {dv fv x : Value} {L : Nat} {curo curl : Array Value} (hL : L = 4096)
    (h0 : w2.heap[Bf]? = some (.cells #[dv, fv, .slice (some ⟨go, 0, none⟩) 1 co, x] 32 (0, 0))) (h1 : w2.heap[go]? = some (.cells curo 2 (0, 0))) (h2 : curo[0]? = some (.int .i64 o))
    (h3 : w2.heap[gl]? = some (.cells curl 3 (0, 0))) (h4 : curl[0]? = some (.int .i64 L)) (ho : go ≠ Bf) (hl : gl ≠ Bf)
    (hw : ∀ k, k = Bf ∨ k = go ∨ k = gl → w3.heap[k]? = (w2.setCell ⟨Bf, 3, none⟩ (.slice (some ⟨gl, 0, none⟩) 1 cl)).heap[k]?) : FileAt w3 Bf dv fv o := by
  refine ⟨go, co, gl, cl, ?_, ?_, ?_⟩
  · rw [hw _ (.inl rfl), heap_setCell_same _ _ _ _ _ _ h0]; rfl
  · rw [cell_of_row w3 _ _ _ _ _ ((hw _ (.inr (.inl rfl))).trans ((heap_setCell_other _ _ _ _ ho).trans h1)), h2]
  · rw [cell_of_row w3 _ _ _ _ _ ((hw _ (.inr (.inr rfl))).trans ((heap_setCell_other _ _ _ _ hl).trans h3)), h4]; subst hL; rfl

theorem splice_nil {α : Type} (L : List α) : splice L 0 [] = L := by simp [splice]

set_option maxRecDepth 20000 in
set_option maxHeartbeats 1000000 in
theorem readAt_ok (Bf gd gp n o L c : Nat) (v : Value) (D P : List Int) (tE : TypeId) (xE : Value) (w : World)
    (hf : w.heap[Bf]? = some (.cells #[.slice (some ⟨gd, 0, none⟩) n n, .nilIface, .slice none 0 0, .slice none 0 0] 32 (0, 0)))
    (hp : w.heap[gp]? = some (.cells (bcells P).toArray 5 (0, 0))) (hd : w.heap[gd]? = some (.cells (bcells D).toArray 5 (0, 0))) (hE : w.cell? ⟨2, 0, none⟩ = some (.iface tE xE))
    (hPl : P.length = L) (hDl : D.length = n) (hfp : Bf ≠ gp) (hfd : Bf ≠ gd) (hpd : gp ≠ gd) (hB2 : 2 < Bf) (hp2 : 2 < gp) (ho : o < 30000) (hn : n < 30000) (hL1 : L ≤ 4096) (hL2 : 4096 ≤ L) (hc : c = min (n - o) L) (hv : (o + L ≤ n ∧ v = .nilIface) ∨ (n < o + L ∧ v = .iface tE xE)) :
    Calls Ybad.prog 39 #[.pointer (some ⟨Bf, 0, none⟩), .slice (some ⟨gp, 0, none⟩) L L, .int .i64 o] w fun e w' =>
      e = .returned (.tuple #[.int .i64 c, v]) ∧ FileAt w' Bf (.slice (some ⟨gd, 0, none⟩) n n) .nilIface o ∧
      w'.heap[gp]? = some (.cells (splice (bcells P) 0 (bcells ((D.drop o).take c))).toArray 5 (0, 0)) ∧ Upd [Bf, gp] w w' := by
  obtain ⟨i0, hi, hz0, hz1, hz2⟩ := info_parts Ybad.info2
  obtain ⟨i1, hi1, hz01, hz11, hz21⟩ := info_parts Ybad.info3
  have hBf := lt_of_block hf
  have hgp := lt_of_block hp
  have hgd := lt_of_block hd
  have hf2 : w.cell? ⟨Bf, 2, none⟩ = some (.slice none 0 0) := by rw [cell_of_row w _ _ _ _ _ hf]; rfl
  have HP : Hid (P.length = L ∧ D.length = n) := ⟨hPl, hDl⟩
  have hcl : (bcells ((D.drop o).take c)).length = c := by simp [bcells]; omega
  have HC : Hid (c = min (n - o) L ∧ (bcells ((D.drop o).take c)).length = c) := ⟨hc, hcl⟩
  have hc1 : c ≤ n - o := by omega
  have hc2 : c ≤ L := by omega
  have HV : Hid ((o + L ≤ n ∧ v = .nilIface) ∨ (n < o + L ∧ v = .iface tE xE)) := hv
  clear hPl hDl hc hcl hv
  go_enter Ybad.func39, Ybad.ntmps39
  go_wp2_with (first | (at_builtin; refine wpList_append_own _ rfl (.tmp 13) (.tmp 15) 29 rfl w.heap.size 2 i0 (.int .i64 0) 1 8 Ybad.underlying29 hi hz0 hz1 hz2 rfl (by decide) (.slice none 0 0) 0 [] rfl (World.ownsRow_nil _ _ _ _) ⟨w.heap.size, 0, none⟩ 1 1 [.int .i64 o] rfl rfl (one_at _ _ _ _ (by simp)) (by intro u hu; simp at hu; subst hu; rfl) (by decide) (by decide) (by simp) ?_))
  intro vo w1 hown1 hg1 _
  obtain ⟨go, co, curo, rfl, hgo, hho, hco⟩ := own_one hown1
  have old1 : ∀ k, k < w.heap.size → w1.heap[k]? = w.heap[k]? := fun k hk => (hg1.block k (by simp; omega) (by simp [Value.ownBlock])).trans (Below.heap_alloc _ _ _ hk)
  have hf1 := (old1 Bf hBf).trans hf
  have hs1 : w.heap.size < w1.heap.size := by have := hg1.size; simp at this; omega
  have e0 : w1.cell? ⟨Bf, 0, none⟩ = some (.slice (some ⟨gd, 0, none⟩) n n) := by rw [cell_of_row w1 _ _ _ _ _ hf1]; rfl
  have e1 : w1.cell? ⟨Bf, 1, none⟩ = some .nilIface := by rw [cell_of_row w1 _ _ _ _ _ hf1]; rfl
  have e2 : w1.cell? ⟨Bf, 2, none⟩ = some (.slice none 0 0) := by rw [cell_of_row w1 _ _ _ _ _ hf1]; rfl
  have e3 : w1.cell? ⟨Bf, 3, none⟩ = some (.slice none 0 0) := by rw [cell_of_row w1 _ _ _ _ _ hf1]; rfl
  have fr : ∀ j, w1.frozen? ⟨Bf, j, none⟩ = false := fun j => frozen_of_row w1 _ _ _ _ hf1
  have F1 : Hid (w1.heap[Bf]? = some (.cells #[.slice (some ⟨gd, 0, none⟩) n n, .nilIface, .slice none 0 0, .slice none 0 0] 32 (0, 0)) ∧ (∀ k, k < w.heap.size → w1.heap[k]? = w.heap[k]?) ∧ w1.heap[go]? = some (.cells curo 2 (0, 0)) ∧ curo[0]? = some (.int .i64 o)) := ⟨hf1, old1, hho, hco⟩
  have F0 : Hid (w.heap[gp]? = some (.cells (bcells P).toArray 5 (0, 0)) ∧ w.heap[gd]? = some (.cells (bcells D).toArray 5 (0, 0))) := ⟨hp, hd⟩
  have G1 : Hid _ := hg1
  clear hf hf1 hp hd old1 hho hco hown1 hf2 hg1
  go_wp2_with (first | (at_builtin; refine wpList_append_own _ rfl (.tmp 23) (.tmp 26) 30 rfl w.heap.size 3 i1 (.int .i64 0) 1 8 Ybad.underlying30 hi1 hz01 hz11 hz21 rfl (by decide) (.slice none 0 0) 0 [] rfl (World.ownsRow_nil _ _ _ _) ⟨w1.heap.size, 0, none⟩ 1 1 [.int .i64 L] rfl rfl (one_at _ _ _ _ (by simp)) (by intro u hu; simp at hu; subst hu; rfl) (by decide) (by decide) (by simp; omega) ?_))
  intro vl w2 hown2 hg2 _
  obtain ⟨gl, cl, curl, rfl, hgl, hhl, hcl⟩ := own_one hown2
  obtain ⟨a1, a2, a3, a4⟩ := F1.out
  obtain ⟨hp, hd⟩ := F0.out
  have old2 : ∀ k, k < w1.heap.size → k ≠ Bf → w2.heap[k]? = w1.heap[k]? := fun k hk hne =>
    (hg2.block k (by simp; omega) (by simp [Value.ownBlock])).trans ((Below.heap_alloc _ _ _ (by simpa using hk)).trans (heap_setCell_other _ _ _ _ hne))
  have hf2 : w2.heap[Bf]? = some (.cells #[.slice (some ⟨gd, 0, none⟩) n n, .nilIface, .slice (some ⟨go, 0, none⟩) 1 co, .slice none 0 0] 32 (0, 0)) :=
    (hg2.block Bf (by simp; omega) (by simp [Value.ownBlock])).trans ((Below.heap_alloc _ _ _ (by simp; omega)).trans (heap_setCell_same _ _ _ _ _ _ a1))
  have hs2 : w1.heap.size < w2.heap.size := by have := hg2.size; simp at this; omega
  have e20 : w2.cell? ⟨Bf, 0, none⟩ = some (.slice (some ⟨gd, 0, none⟩) n n) := by rw [cell_of_row w2 _ _ _ _ _ hf2]; rfl
  have e21 : w2.cell? ⟨Bf, 1, none⟩ = some .nilIface := by rw [cell_of_row w2 _ _ _ _ _ hf2]; rfl
  have e23 : w2.cell? ⟨Bf, 3, none⟩ = some (.slice none 0 0) := by rw [cell_of_row w2 _ _ _ _ _ hf2]; rfl
  have fr2 : ∀ j, w2.frozen? ⟨Bf, j, none⟩ = false := fun j => frozen_of_row w2 _ _ _ _ hf2
  have hE2 : w2.cell? ⟨2, 0, none⟩ = some (.iface tE xE) := by
    rw [← hE]; exact World.cell?_of_block ((old2 2 (by omega) (by omega)).trans (a2 2 (by omega)))
  have F2 : Hid (w2.heap[Bf]? = some (.cells #[.slice (some ⟨gd, 0, none⟩) n n, .nilIface, .slice (some ⟨go, 0, none⟩) 1 co, .slice none 0 0] 32 (0, 0)) ∧ w2.heap[go]? = some (.cells curo 2 (0, 0)) ∧ curo[0]? = some (.int .i64 o) ∧ w2.heap[gl]? = some (.cells curl 3 (0, 0)) ∧ curl[0]? = some (.int .i64 L) ∧
     w2.heap[gp]? = some (.cells (bcells P).toArray 5 (0, 0)) ∧ w2.heap[gd]? = some (.cells (bcells D).toArray 5 (0, 0)) ∧ Upd [Bf, gp] w w2) := by
    refine ⟨hf2, (old2 go (lt_of_block a3) (by omega)).trans a3, a4, hhl, hcl, (old2 gp (by omega) (by omega)).trans ((a2 _ hgp).trans hp), (old2 gd (by omega) (by omega)).trans ((a2 _ hgd).trans hd), ?_⟩
    exact ((((Upd.refl [Bf, gp] w).alloc _).grown G1 (by simp [Value.ownBlock])).setCell (by simp) _).alloc _ |>.grown hg2 (by simp [Value.ownBlock])
  clear F1 F0 G1 a1 a2 a3 a4 hp hd old2 hf2 hg2 hown2 hhl hcl e0 e1 e2 e3 fr hE
  have hd0 : decide ((o : Int) < 0) = false := by simp
  by_cases hlt : o < n
  · have hd1 : decide ((n : Int) ≤ (o : Int)) = false := by simp; omega
    go_wp2_with (refine wpList_copy_named rfl (.tmp 51) (.tmp 57) 23 23 rfl 5 Ybad.underlying23 Ybad.size5 gp 0 L L ⟨gd, o, none⟩ (n - o) (n - o) rfl rfl (bcells P) 5 (bcells ((D.drop o).take c)) c HC.out.2 HC.out.1 ?_ ?_ ?_ ?_ ?_)
    · obtain ⟨b1, b2, b3, b4, b5, b6, b7, b8⟩ := F2.out
      rw [heap_setCell_other _ _ _ _ (by simpa using hfp.symm)]; exact b6
    · obtain ⟨b1, b2, b3, b4, b5, b6, b7, b8⟩ := F2.out
      intro j u hj
      rw [Addr.add_lit, cell_of_row _ _ _ _ _ _ ((heap_setCell_other _ _ _ _ (by simpa using hfd.symm)).trans b7)]
      have h' := hj
      simp only [bcells, List.getElem?_map, List.getElem?_take, List.getElem?_drop] at h'
      split at h'
      · simpa [bcells] using h'
      · simp at h'
    · rw [HC.out.2, bcells_len]; have := HP.out; omega
    · exact bcells_one _
    · intro w3 hw3
      have hE3 : w3.cell? ⟨2, 0, none⟩ = some (.iface tE xE) := by
        rw [hw3.out.1, ← hE2]; exact World.cell?_of_block ((setRow_other _ _ _ _ (by simp; omega)).trans (heap_setCell_other _ _ _ _ (by simp; omega)))
      have FIN : Hid (FileAt w3 Bf (.slice (some ⟨gd, 0, none⟩) n n) .nilIface o ∧ w3.heap[gp]? = some (.cells (splice (bcells P) 0 (bcells ((D.drop o).take c))).toArray 5 (0, 0)) ∧ Upd [Bf, gp] w w3) := by
        obtain ⟨b1, b2, b3, b4, b5, b6, b7, b8⟩ := F2.out
        refine ⟨fileAt_of (w2 := w2) (by omega) b1 b2 b3 b4 b5 (by omega) (by omega) (cl := cl) fun k hk => ?_, hw3.out.2, ?_⟩
        · rw [hw3.out.1]; exact setRow_other _ _ _ _ (by omega)
        · rw [hw3.out.1]; exact (b8.setCell (by simp) _).setRow (by simp) _
      clear F2 hw3 e20 e21 e23 hE2
      by_cases hfull : o + L ≤ n
      · have hcc : L ≤ c := by have := HC.out.1; omega
        go_wp2
        go_ret2
        refine ⟨?_, FIN.out⟩
        rcases HV.out with ⟨_, rfl⟩ | ⟨h, _⟩
        · rfl
        · omega
      · have hcc : c < L := by have := HC.out.1; omega
        go_wp2
        go_region
        all_goals
          go_wp2
          go_ret2
          refine ⟨?_, FIN.out.1, FIN.out.2.1, FIN.out.2.2.drew⟩
          rcases HV.out with ⟨h, _⟩ | ⟨_, rfl⟩
          · omega
          · rfl
  · have hd1 : decide ((n : Int) ≤ (o : Int)) = true := by simp; omega
    go_wp2
    have FIN : Hid (FileAt (w2.setCell ⟨Bf, 3, none⟩ (.slice (some ⟨gl, 0, none⟩) 1 cl)) Bf (.slice (some ⟨gd, 0, none⟩) n n) .nilIface o ∧ (w2.setCell ⟨Bf, 3, none⟩ (.slice (some ⟨gl, 0, none⟩) 1 cl)).heap[gp]? = some (.cells (splice (bcells P) 0 (bcells ((D.drop o).take c))).toArray 5 (0, 0)) ∧ Upd [Bf, gp] w (w2.setCell ⟨Bf, 3, none⟩ (.slice (some ⟨gl, 0, none⟩) 1 cl))) := by
      obtain ⟨b1, b2, b3, b4, b5, b6, b7, b8⟩ := F2.out
      refine ⟨fileAt_of (w2 := w2) (by omega) b1 b2 b3 b4 b5 (by omega) (by omega) (cl := cl) fun k hk => rfl, ?_, ?_⟩
      · have : c = 0 := by omega
        subst this
        rw [List.take_zero, show bcells [] = [] from rfl, splice_nil, heap_setCell_other _ _ _ _ (by simpa using hfp.symm)]; exact b6
      · exact b8.setCell (by simp) _
    go_region
    all_goals
      go_wp2
      go_ret2
      refine ⟨?_, FIN.out.1, FIN.out.2.1, FIN.out.2.2.drew⟩
      have : c = 0 := by omega
      subst this
      rcases HV.out with ⟨h, _⟩ | ⟨_, rfl⟩
      · omega
      · rfl
end Go.Proofs.YbulkczrmDoor
