import Derived.Test.YbulkczrmFmtRows
import Derived.WalkKit
import Derived.WalkSmall
import Derived.Laws.CopyOwn
import Derived.LaidEql
import Derived.BigQuiet
import Derived.Deep.QuietTactic
namespace Go.Proofs.YbulkczrmFmt
open Go.RowKit

/-- Blocks of w other than those in S stand as they stood. -/
structure Upd (S : List Nat) (w w' : World) : Prop where
  os : w'.os = w.os
  tape : w'.tape = w.tape
  output : w'.output = w.output
  size : w.heap.size ≤ w'.heap.size
  block : ∀ k, k < w.heap.size → k ∉ S → w'.heap[k]? = w.heap[k]?

theorem Upd.refl (S : List Nat) (w : World) : Upd S w w := ⟨rfl, rfl, rfl, Nat.le_refl _, fun _ _ _ => rfl⟩
theorem Upd.trans {S : List Nat} {a b c : World} (h : Upd S a b) (k : Upd S b c) : Upd S a c :=
  ⟨k.os.trans h.os, k.tape.trans h.tape, k.output.trans h.output, Nat.le_trans h.size k.size, fun i hi hs => (k.block i (Nat.lt_of_lt_of_le hi h.size) hs).trans (h.block i hi hs)⟩
theorem Upd.mono {S T : List Nat} {a b : World} (h : Upd S a b) (hs : ∀ x ∈ S, x ∈ T) : Upd T a b := ⟨h.os, h.tape, h.output, h.size, fun k hk hT => h.block k hk (fun e => hT (hs k e))⟩
theorem Upd.drew {S : List Nat} {a w : World} (h : Upd S a w) : Upd S a w.drew := ⟨h.os, h.tape, h.output, h.size, h.block⟩
theorem Upd.alloc {S : List Nat} {a w : World} (h : Upd S a w) (o : Obj) : Upd S a (w.alloc o) :=
  h.trans ⟨rfl, rfl, rfl, by simp, fun k hk _ => Below.heap_alloc _ _ _ hk⟩
theorem Upd.setCell {S : List Nat} {a w : World} (h : Upd S a w) {p : Addr} (hp : p.block ∈ S ∨ a.heap.size ≤ p.block) (u : Value) : Upd S a (w.setCell p u) :=
  ⟨h.os, h.tape, h.output, by have := h.size; simp [World.setCell]; omega, fun k hk hs => by
    rw [Below.heap_setCell _ _ _ _ (fun e => by rcases hp with hp | hp; exact hs (e ▸ hp); omega)]; exact h.block k hk hs⟩
theorem Upd.setRow {S : List Nat} {a w : World} (h : Upd S a w) {g : Nat} (hp : g ∈ S ∨ a.heap.size ≤ g) (cs : Array Value) : Upd S a (w.setRow g cs) :=
  ⟨h.os, h.tape, h.output, by have := h.size; simp [World.setRow]; omega, fun k hk hs => by
    rw [setRow_other w g k cs (fun e => by rcases hp with hp | hp; exact hs (e ▸ hp); omega)]; exact h.block k hk hs⟩
theorem Upd.grown {S : List Nat} {a w w' : World} {row : Option Nat} (h : Upd S a w) (hg : w.grownBy w' row) (hr : ∀ k, row = some k → k ∈ S ∨ a.heap.size ≤ k) : Upd S a w' :=
  ⟨hg.os.trans h.os, hg.tape.trans h.tape, hg.output.trans h.output, Nat.le_trans h.size hg.size, fun k hk hs => by
    rw [hg.block k (Nat.lt_of_lt_of_le hk h.size) (fun e => by rcases hr k e.symm with h' | h'; exact hs h'; omega)]; exact h.block k hk hs⟩
theorem Upd.below {S : List Nat} {B : Nat} {w0 a b : World} (h0 : Below B w0 a) (h : Upd S a b) (hs : ∀ x ∈ S, B ≤ x) (hB : B ≤ a.heap.size) : Below B w0 b :=
  h0.trans ⟨h.os, h.tape, h.output, h.size, fun k hk => h.block k (by omega) (fun e => by have := hs k e; omega)⟩

theorem Ybaf.info5 : (Ybaf.prog.info? 5).map (fun i => (i.zero, i.size, i.bytes)) = some (some (.int .u8 0), 1, 1) := by kernel_rfl
theorem Ybaf.info2 : (Ybaf.prog.info? 2).map (fun i => (i.zero, i.size, i.bytes)) = some (some (.int .i64 0), 1, 8) := by kernel_rfl
theorem Ybaf.info3 : (Ybaf.prog.info? 3).map (fun i => (i.zero, i.size, i.bytes)) = some (some (.int .i64 0), 1, 8) := by kernel_rfl
theorem Ybaf.size5 : (Ybaf.prog.info? 5).map (·.size) = some 1 := by kernel_rfl

/-- the cells of a list of bytes -/
def bcells (l : List Int) : List Value := l.map (Value.int .u8)

theorem own_one {w : World} {base : Nat} {e : TypeId} {v u : Value} (h : w.ownsRow base e 1 v 1 [u]) :
    ∃ g c cur, v = .slice (some ⟨g, 0, none⟩) 1 c ∧ base ≤ g ∧ w.heap[g]? = some (.cells cur e (0, 0)) ∧ cur[0]? = some u := by
  rcases h.2 with ⟨_, h0⟩ | ⟨g, c, cur, hv, hb, hh, hc, hm, hs, ht⟩
  · cases h0
  · refine ⟨g, c, cur, hv, hb, hh, ?_⟩
    have : (cur.toList.take 1)[0]? = some u := by rw [show cur.toList.take 1 = [u] from by simpa using ht]; rfl
    simpa using this

theorem one_at (w : World) (v : Value) (t : TypeId) (b : Nat) (hb : b = w.heap.size) : ∀ j u, [v][j]? = some u → (w.alloc (.cells #[v] t)).cell? ((⟨b, 0, none⟩ : Addr).add j) = some u := by
  intro j u hj
  match j, hj with
  | 0, hj =>
    simp at hj
    subst hj; subst hb
    rw [Addr.add_lit, cell_of_row _ _ _ _ _ _ (heap_alloc_new w _)]; rfl

theorem wpList_copy_named {P : Program} {w : World} {ops : Array Oper} {rest : List Oper} {o : Oper} {a : Act} {Q : Exit → Act → World → Prop} (hgd : o.guard = none) (d s : Operand) (dT sT : TypeId)
    (ho : o.op = .call { callee := .builtin .copy, args := #[d, s], argTypes := #[dT, sT] }) (elem : TypeId) (hu : P.underlying dT = some (.slice elem)) (hsz : (P.info? elem).map (·.size) = some 1)
    (g off dLen dCap : Nat) (ad : Addr) (sLen sCap : Nat) (hd : a.eval d = .slice (some ⟨g, off, none⟩) dLen dCap) (hs : a.eval s = .slice (some ad) sLen sCap)
    (cur : List Value) (t : TypeId) (cs : List Value) (c : Nat) (hc : cs.length = c) (hn : c = Nat.min sLen dLen)
    (hg : w.heap[g]? = some (.cells cur.toArray t (0, 0))) 
    (hsrc : ∀ j v, cs[j]? = some v → w.cell? (ad.add j) = some v) (hfit : off + cs.length ≤ cur.length) (h1 : ∀ v ∈ cs, v.oneCell' = true)
    (h : ∀ w', Hid (w' = w.setRow g (splice cur off cs).toArray ∧ w'.heap[g]? = some (.cells (splice cur off cs).toArray t (0, 0))) → wpList P ops Q rest (a.put o.dst (.int .i64 c)) w') : wpList P ops Q (o :: rest) a w := by
  subst hc
  refine wpList_copy_own hgd d s dT sT ho elem hu hsz g off dLen dCap ad sLen sCap hd hs cur.toArray t hg cs hn hsrc (by simpa using hfit) h1 ?_
  exact h _ ⟨by simp [splice], by simpa [splice] using setRow_heap w g _ _ t _ hg⟩

theorem bcells_len (l : List Int) : (bcells l).length = l.length := by simp [bcells]
theorem bcells_one (l : List Int) : ∀ v ∈ bcells l, v.oneCell' = true := by
  intro v hv
  obtain ⟨x, _, rfl⟩ := List.mem_map.1 hv
  rfl

theorem splice_nil {α : Type} (L : List α) : splice L 0 [] = L := by simp [splice]
end Go.Proofs.YbulkczrmFmt
