import Derived.Test.YbulkczrmFmtSame
namespace Go.Proofs.YbulkczrmFmt
open Go.RowKit
set_option linter.unusedVariables false
set_option linter.unusedSimpArgs false

def put16 (X : List Int) (p v : Nat) : List Int := (X.set p (v % 256 : Nat)).set (p + 1) (v / 256 : Nat)
def put32 (X : List Int) (p v : Nat) : List Int := (((X.set p (v % 256 : Nat)).set (p + 1) (v / 256 % 256 : Nat)).set (p + 2) (v / 65536 % 256 : Nat)).set (p + 3) (v / 16777216 : Nat)

theorem len_put16 (X : List Int) (p v : Nat) : (put16 X p v).length = X.length := by simp [put16]
theorem len_put32 (X : List Int) (p v : Nat) : (put32 X p v).length = X.length := by simp [put32]
theorem getD_set_ne {X : List Int} {p q : Nat} {v : Int} (h : q ≠ p) : (X.set p v).getD q 0 = X.getD q 0 := by
  have h' : p ≠ q := fun e => h e.symm
  simp [List.getElem?_set, h']
theorem getD_set_eq {X : List Int} {p : Nat} {v : Int} (h : p < X.length) : (X.set p v).getD p 0 = v := by simp [h]
theorem put16_ne {X : List Int} {p v q : Nat} (h : q < p ∨ p + 2 ≤ q) : (put16 X p v).getD q 0 = X.getD q 0 := by
  unfold put16; rw [getD_set_ne (by omega), getD_set_ne (by omega)]
theorem put32_ne {X : List Int} {p v q : Nat} (h : q < p ∨ p + 4 ≤ q) : (put32 X p v).getD q 0 = X.getD q 0 := by
  unfold put32; rw [getD_set_ne (by omega), getD_set_ne (by omega), getD_set_ne (by omega), getD_set_ne (by omega)]
theorem put16_U {X : List Int} {p v : Nat} (h : p + 2 ≤ X.length) (hv : v < 65536) : U16 (put16 X p v) p v := by
  refine ⟨by rw [len_put16]; exact h, ?_, ?_, hv⟩
  · unfold put16; rw [getD_set_ne (by omega), getD_set_eq (by omega)]
  · unfold put16; rw [getD_set_eq (by simp; omega)]
theorem put32_U {X : List Int} {p v : Nat} (h : p + 4 ≤ X.length) (hv : v < 4294967296) : U32 (put32 X p v) p v := by
  refine ⟨by rw [len_put32]; exact h, ?_, ?_, ?_, ?_, hv⟩
  · unfold put32; rw [getD_set_ne (by omega), getD_set_ne (by omega), getD_set_ne (by omega), getD_set_eq (by omega)]
  · unfold put32; rw [getD_set_ne (by omega), getD_set_ne (by omega), getD_set_eq (by simp; omega)]
  · unfold put32; rw [getD_set_ne (by omega), getD_set_eq (by simp; omega)]
  · unfold put32; rw [getD_set_eq (by simp; omega)]

theorem len_splice {α : Type} (L : List α) (off : Nat) (cs : List α) (h : off + cs.length ≤ L.length) : (splice L off cs).length = L.length := length_splice L off cs h
theorem splice_out {X ks : List Int} {p q : Nat} (h : p + ks.length ≤ X.length) (hq : q < p ∨ p + ks.length ≤ q) : (splice X p ks).getD q 0 = X.getD q 0 := by
  unfold splice
  rcases hq with hq | hq
  · have h2 : min p X.length = p := by omega
    simp [List.getElem?_append, List.getElem?_take, hq, h2, show q < X.length by omega]
  · have h1 : ¬ q < p := by omega
    have h2 : min p X.length = p := by omega
    have h3 : ¬ q - p < ks.length := by omega
    simp [List.getElem?_append, List.getElem?_take, List.getElem?_drop, h1, h2, h3]
    rw [show p + ks.length + (q - p - ks.length) = q by omega]
theorem splice_in {X ks : List Int} {p t : Nat} (h : p + ks.length ≤ X.length) (ht : t < ks.length) : (splice X p ks).getD (p + t) 0 = ks.getD t 0 := by
  unfold splice
  have h2 : min p X.length = p := by omega
  have h3 : ¬ p + t < p := by omega
  simp [List.getElem?_append, List.getElem?_take, h2, h3, ht]

theorem U16.agree {X Y : List Int} {p v : Nat} (h : U16 X p v) (hl : Y.length = X.length) (h0 : Y.getD p 0 = X.getD p 0) (h1 : Y.getD (p + 1) 0 = X.getD (p + 1) 0) : U16 Y p v :=
  ⟨by rw [hl]; exact h.len, h0.trans h.b0, h1.trans h.b1, h.bd⟩
theorem U32.agree {X Y : List Int} {p v : Nat} (h : U32 X p v) (hl : Y.length = X.length) (hh : ∀ t, t < 4 → Y.getD (p + t) 0 = X.getD (p + t) 0) : U32 Y p v :=
  ⟨by rw [hl]; exact h.len, (hh 0 (by omega)).trans h.b0, (hh 1 (by omega)).trans h.b1, (hh 2 (by omega)).trans h.b2, (hh 3 (by omega)).trans h.b3, h.bd⟩

/-- Where cell j lies in a page of n cells with keys of kl bytes. -/
def ofsN (n hd : Nat) (kl : Nat → Nat) : Nat → Nat
  | 0 => 4 + 2 * n
  | j + 1 => ofsN n hd kl j + hd + kl j + 8
theorem ofsN_mono (n hd : Nat) (kl : Nat → Nat) (i : Nat) : ∀ d, ofsN n hd kl i + d ≤ ofsN n hd kl (i + d)
  | 0 => Nat.le_refl _
  | d + 1 => by
    have := ofsN_mono n hd kl i d
    show _ ≤ ofsN n hd kl (i + d) + hd + kl (i + d) + 8
    omega
theorem ofsN_le {n hd : Nat} {kl : Nat → Nat} {i j : Nat} (h : i ≤ j) : ofsN n hd kl i ≤ ofsN n hd kl j := by
  have := ofsN_mono n hd kl i (j - i)
  rw [show i + (j - i) = j by omega] at this; omega
theorem ofsN_lt {n hd : Nat} {kl : Nat → Nat} {i j : Nat} (h : i < j) : ofsN n hd kl i + hd + kl i + 8 ≤ ofsN n hd kl j :=
  ofsN_le (n := n) (hd := hd) (kl := kl) (show i + 1 ≤ j from h)
theorem ofsN_ge (n hd : Nat) (kl : Nat → Nat) (j : Nat) : 4 + 2 * n ≤ ofsN n hd kl j := ofsN_le (i := 0) (Nat.zero_le _)

/-- the two or four bytes behind a cell's key length -/
def mid (t : Nat) (Y : List Int) (p : Nat) : List Int := if t = 1 then put16 Y p 0 else put32 Y p 0
theorem len_mid (t : Nat) (Y : List Int) (p : Nat) : (mid t Y p).length = Y.length := by
  unfold mid; split
  · exact len_put16 _ _ _
  · exact len_put32 _ _ _
theorem mid_ne {t : Nat} {Y : List Int} {p q : Nat} (h : q < p ∨ p + 4 ≤ q) : (mid t Y p).getD q 0 = Y.getD q 0 := by
  unfold mid; split
  · exact put16_ne (by omega)
  · exact put32_ne h
/-- The bytes behind a 'setCell'. -/
def cellX (t i at' hd kl : Nat) (kb X : List Int) : List Int :=
  splice (mid t (put16 (put16 X (4 + 2 * i) at') at' kl) (at' + 2)) (at' + hd) kb

/-- The page of which c cells are laid. -/
structure Built (X : List Int) (sz n c t hd : Nat) (kl : Nat → Nat) (kb : Nat → List Int) : Prop where
  len : X.length = sz
  typ : X.getD 0 0 = (t : Int)
  cnt : U16 X 2 n
  off : ∀ j, j < c → U16 X (4 + 2 * j) (ofsN n hd kl j)
  klen : ∀ j, j < c → U16 X (ofsN n hd kl j) (kl j)
  keys : ∀ j, j < c → ∀ i, i < kl j → X.getD (ofsN n hd kl j + hd + i) 0 = (kb j).getD i 0

theorem Built.step {X : List Int} {sz n c t hd : Nat} {kl : Nat → Nat} {kb : Nat → List Int} (h : Built X sz n c t hd kl kb) (hc : c < n) (hsz : ofsN n hd kl n ≤ sz) (hs : sz < 65536) (hk : (kb c).length = kl c) (hd4 : KH t hd) :
    Built (cellX t c (ofsN n hd kl c) hd (kl c) (kb c) X) sz n (c + 1) t hd kl kb := by
  have o1 := ofsN_lt (n := n) (hd := hd) (kl := kl) hc
  have o0 := ofsN_ge n hd kl c
  have hl := h.len
  have h4 : 4 ≤ hd := by rcases hd4 with ⟨_, h⟩ | ⟨_, h⟩ <;> omega
  have h2 : ∀ {Y : List Int} {p q : Nat}, q < p ∨ p + (hd - 2) ≤ q → (mid t Y p).getD q 0 = Y.getD q 0 := by
    intro Y p q hq
    rcases hd4 with ⟨rfl, rfl⟩ | ⟨rfl, rfl⟩
    · show (if 1 = 1 then put16 Y p 0 else put32 Y p 0).getD q 0 = _
      rw [if_pos rfl]; exact put16_ne (by omega)
    · show (if 2 = 1 then put16 Y p 0 else put32 Y p 0).getD q 0 = _
      rw [if_neg (by omega)]; exact put32_ne (by omega)
  have L1 : (mid t (put16 (put16 X (4 + 2 * c) (ofsN n hd kl c)) (ofsN n hd kl c) (kl c)) (ofsN n hd kl c + 2)).length = X.length := by rw [len_mid, len_put16, len_put16]
  have hfit : ofsN n hd kl c + hd + (kb c).length ≤ (mid t (put16 (put16 X (4 + 2 * c) (ofsN n hd kl c)) (ofsN n hd kl c) (kl c)) (ofsN n hd kl c + 2)).length := by rw [L1]; omega
  have LR : (cellX t c (ofsN n hd kl c) hd (kl c) (kb c) X).length = X.length := by unfold cellX; rw [len_splice _ _ _ hfit, L1]
  have keep : ∀ q, q < 4 + 2 * c ∨ (4 + 2 * c + 2 ≤ q ∧ q < ofsN n hd kl c) → (cellX t c (ofsN n hd kl c) hd (kl c) (kb c) X).getD q 0 = X.getD q 0 := by
    intro q hq
    unfold cellX
    rw [splice_out hfit (by omega), h2 (by omega), put16_ne (by omega), put16_ne (by omega)]
  refine ⟨by omega, (keep 0 (by omega)).trans h.typ, h.cnt.agree LR (keep 2 (by omega)) (keep 3 (by omega)), fun j hj => ?_, fun j hj => ?_, fun j hj i hi => ?_⟩
  · by_cases e : j = c
    · subst e
      have u : U16 (put16 X (4 + 2 * j) (ofsN n hd kl j)) (4 + 2 * j) (ofsN n hd kl j) := put16_U (by omega) (by omega)
      refine u.agree (by rw [LR, len_put16]) ?_ ?_
      · unfold cellX; rw [splice_out hfit (by omega), h2 (by omega), put16_ne (by omega)]
      · unfold cellX; rw [splice_out hfit (by omega), h2 (by omega), put16_ne (by omega)]
    · exact (h.off j (by omega)).agree LR (keep _ (by omega)) (keep _ (by omega))
  · by_cases e : j = c
    · subst e
      have u : U16 (put16 (put16 X (4 + 2 * j) (ofsN n hd kl j)) (ofsN n hd kl j) (kl j)) (ofsN n hd kl j) (kl j) := put16_U (by rw [len_put16]; omega) (by omega)
      refine u.agree (by rw [LR, len_put16, len_put16]) ?_ ?_
      · unfold cellX; rw [splice_out hfit (by omega), h2 (by omega)]
      · unfold cellX; rw [splice_out hfit (by omega), h2 (by omega)]
    · have o2 := ofsN_lt (n := n) (hd := hd) (kl := kl) (show j < c by omega)
      have o3 := ofsN_ge n hd kl j
      exact (h.klen j (by omega)).agree LR (keep _ (by omega)) (keep _ (by omega))
  · by_cases e : j = c
    · subst e
      unfold cellX; rw [splice_in hfit (by omega)]
    · have o2 := ofsN_lt (n := n) (hd := hd) (kl := kl) (show j < c by omega)
      have o3 := ofsN_ge n hd kl j
      rw [keep _ (by omega)]; exact h.keys j (by omega) i hi

theorem built0 (sz n t hd : Nat) (h : 4 ≤ sz) (hn : n < 65536) (kl : Nat → Nat) (kb : Nat → List Int) : Built (put16 ((List.replicate sz (0 : Int)).set 0 t) 2 n) sz n 0 t hd kl kb := by
  refine ⟨by rw [len_put16]; simp, ?_, put16_U (by simp; omega) hn, fun j hj => absurd hj (Nat.not_lt_zero _), fun j hj => absurd hj (Nat.not_lt_zero _), fun j hj => absurd hj (Nat.not_lt_zero _)⟩
  rw [put16_ne (by omega), getD_set_eq (by simp; omega)]
end Go.Proofs.YbulkczrmFmt
