import Derived.Test.YbulkczrmFmtSortLow
import Derived.Lib.SliceRun
namespace Go.Proofs.YbulkczrmFmt
open Go.RowKit
set_option linter.unusedVariables false
set_option linter.unusedSimpArgs false

set_option maxRecDepth 20000 in
/-- The closure by which LawS5056CAscending compacts. -/
theorem eq14 (p1 p2 : Option Addr) (n c m d : Nat) (xs ys : List Int) (w : World) (r : Bool) (hr : r = decide (cmpI xs ys = 0)) (h1 : BIn w p1 n xs) (h2 : BIn w p2 m ys) (hn : n ≤ 9223372036854775807) (hm : m ≤ 9223372036854775807) :
    Calls Ybaf.prog 14 #[.slice p1 n c, .slice p2 m d] w fun e w' => e = .returned (.bool r) ∧ ∃ q, w' = w.drewN q := by
  have HC : Hid (Calls Ybaf.prog 6 #[.slice p1 n c, .slice p2 m d] w fun e w' => e = .returned (.int .i64 (cmpI xs ys)) ∧ ∃ q, w' = w.drewN q) := ccmp_any p1 p2 n c m d xs ys w h1 h2 hn hm
  clear h1 h2
  subst hr
  generalize cmpI xs ys = z at HC
  go_enter Ybaf.func14, Ybaf.ntmps14
  go_wp2_with fail
  refine HC.out.mono ?_
  rintro e w1 ⟨rfl, q, hw⟩
  have HW : Hid (∃ q, w1 = w.drewN q) := ⟨q, hw⟩
  clear hw
  by_cases hz : z = 0
  · go_wp2
    go_ret
    exact ⟨by simp [hz], HW.out⟩
  · go_wp2
    go_ret
    exact ⟨by simp [hz], HW.out⟩

theorem upd_setCells (b : Nat) : ∀ (vs : List Value) (o : Nat) (w : World), Upd [b] w (w.setCells b o vs)
  | [], _, w => Upd.refl _ _
  | v :: r, o, w => ((Upd.refl [b] w).setCell (p := ⟨b, o, none⟩) (by simp) v).trans (upd_setCells b r (o + 1) _)

/-- Neighbours ascend. -/
def Asc (ks : List Key) : Prop := ∀ i, i + 1 < ks.length → 0 < cmpI (ks.getD (i + 1) noKey).xs (ks.getD i noKey).xs
def Srt (ks : List Key) : Prop := ∀ i j, i < j → j < ks.length → 0 ≤ cmpI (ks.getD j noKey).xs (ks.getD i noKey).xs

/-- The second loop: out is what is kept of the first m keys; from m - 1 on the row is as it was. -/
structure Comp (w W : World) (blk off : Nat) (ks : List Key) (m : Nat) (out : List Key) : Prop where
  upd : Upd [blk] w W
  row : ∀ j, j < out.length → W.cell? ⟨blk, off + j, none⟩ = some (encK (out.getD j noKey))
  rest : ∀ j, m - 1 ≤ j → j < ks.length → W.cell? ⟨blk, off + j, none⟩ = some (encK (ks.getD j noKey))
  there : ∀ j, j < ks.length → (W.cell? ⟨blk, off + j, none⟩).isSome = true ∧ W.frozen? ⟨blk, off + j, none⟩ = false
  mem : ∀ k ∈ out, k ∈ ks
  asc : Asc out
  pos : 0 < out.length
  last : (out.getD (out.length - 1) noKey).xs = (ks.getD (m - 1) noKey).xs
  lt : out.length < m
  le : m ≤ ks.length
  low : Low blk off w W

theorem Comp.drew {w W : World} {blk off m : Nat} {ks out : List Key} (h : Comp w W blk off ks m out) (q : Nat) : Comp w (W.drewN q) blk off ks m out :=
  ⟨h.upd.trans ((Upd.refl _ _).drewN q), h.row, h.rest, h.there, h.mem, h.asc, h.pos, h.last, h.lt, h.le, h.low⟩
theorem Comp.skip {w W : World} {blk off m : Nat} {ks out : List Key} (h : Comp w W blk off ks m out) (hm : m < ks.length) (he : cmpI (ks.getD m noKey).xs (ks.getD (m - 1) noKey).xs = 0) : Comp w W blk off ks (m + 1) out :=
  ⟨h.upd, h.row, fun j h1 h2 => h.rest j (by omega) h2, h.there, h.mem, h.asc, h.pos, by rw [h.last, Nat.add_sub_cancel]; exact (cmpI_zero _ _ he).symm, by have := h.lt; omega, hm, h.low⟩
theorem getD_snoc (out : List Key) (x : Key) (j : Nat) : (out ++ [x]).getD j noKey = if j = out.length then x else out.getD j noKey := by
  rcases Nat.lt_trichotomy j out.length with h | h | h
  · simp [List.getD, List.getElem?_append, h, Nat.ne_of_lt h]
  · simp [h, List.getD]
  · have h1 : ¬ j < out.length := by omega
    have h2 : ¬ j = out.length := by omega
    simp [List.getD, List.getElem?_append, h1, h2, show out.length ≤ j by omega, show out.length < j from h]
    rw [List.getElem?_eq_none (by simp; omega)]; rfl
theorem Comp.keep {w W W' : World} {blk off m : Nat} {ks out : List Key} (h : Comp w W blk off ks m out) (hm : m < ks.length) (hs : Srt ks) (he : ¬ cmpI (ks.getD m noKey).xs (ks.getD (m - 1) noKey).xs = 0)
    (hW : W' = W.setCell ⟨blk, off + out.length, none⟩ (encK (ks.getD m noKey))) : Comp w W' blk off ks (m + 1) (out ++ [ks.getD m noKey]) := by
  have hlt := h.lt
  have hpos := h.pos
  have hu : Upd [blk] W W' := by rw [hW]; exact (Upd.refl _ _).setCell (by simp) _
  have hth := h.there out.length (by omega)
  have hsame : W'.cell? ⟨blk, off + out.length, none⟩ = some (encK (ks.getD m noKey)) := by
    obtain ⟨v, hv⟩ := Option.isSome_iff_exists.1 hth.1
    rw [hW, World.cell?_setCell_same _ _ _ hv]
  have hoth : ∀ j, j ≠ out.length → W'.cell? ⟨blk, off + j, none⟩ = W.cell? ⟨blk, off + j, none⟩ := fun j hj => by
    rw [hW, World.cell?_setCell_other _ _ _ _ (by intro e'; apply hj; have := congrArg Addr.off e'; simp at this; omega)]
  refine ⟨h.upd.trans hu, fun j hj => ?_, fun j h1 h2 => ?_, fun j hj => ?_, fun k hk => ?_, fun i hi => ?_, by simp, ?_, by simp; omega, hm, h.low.trans fun j hj => ?_⟩
  · simp only [List.length_append, List.length_cons, List.length_nil] at hj
    rw [getD_snoc]
    by_cases e : j = out.length
    · rw [if_pos e, e]; exact hsame
    · rw [if_neg e, hoth j e]; exact h.row j (by omega)
  · rw [hoth j (by omega)]; exact h.rest j (by omega) h2
  · refine ⟨?_, by rw [hW, World.frozen?_setCell]; exact (h.there j hj).2⟩
    by_cases e : j = out.length
    · rw [e, hsame]; rfl
    · rw [hoth j e]; exact (h.there j hj).1
  · rcases List.mem_append.1 hk with hk | hk
    · exact h.mem k hk
    · obtain rfl := List.mem_singleton.1 hk
      exact getD_mem hm
  · simp only [List.length_append, List.length_cons, List.length_nil] at hi
    rw [getD_snoc, getD_snoc]
    by_cases e : i + 1 = out.length
    · rw [if_pos e, if_neg (by omega), show i = out.length - 1 by omega, h.last]
      have := hs (m - 1) m (by omega) hm
      omega
    · rw [if_neg e, if_neg (by omega)]
      exact h.asc i (by omega)
  · rw [getD_snoc]
    simp
  · refine ⟨?_, by rw [hW, World.frozen?_setCell]⟩
    rw [hW, World.cell?_setCell_other _ _ _ _ (by intro e'; have := congrArg Addr.off e'; simp at this; omega)]
theorem Comp.start {w W : World} {blk off k : Nat} {ks : List Key} (hu : Upd [blk] w W) (hlow : Low blk off w W) (hr : RowK W blk off ks) (hk : 1 ≤ k) (hlt : k < ks.length) (ha : ∀ j, j + 1 < k → 0 < cmpI (ks.getD (j + 1) noKey).xs (ks.getD j noKey).xs) (he : cmpI (ks.getD k noKey).xs (ks.getD (k - 1) noKey).xs = 0) :
    Comp w W blk off ks (k + 1) (ks.take k) := by
  have hl : (ks.take k).length = k := by simp; omega
  have hg : ∀ j, j < k → (ks.take k).getD j noKey = ks.getD j noKey := fun j hj => by simp [List.getD, List.getElem?_take, hj]
  refine ⟨hu, fun j hj => ?_, fun j _ h2 => (hr j h2).1, fun j hj => ⟨by rw [(hr j hj).1]; rfl, (hr j hj).2⟩, fun x hx => List.mem_of_mem_take hx, fun i hi => ?_, by omega, ?_, by omega, hlt, hlow⟩
  · rw [hl] at hj
    rw [hg j hj]; exact (hr j (by omega)).1
  · rw [hl] at hi
    rw [hg _ hi, hg _ (by omega)]; exact ha i hi
  · rw [hl, hg _ (by omega), Nat.add_sub_cancel]
    exact (cmpI_zero _ _ he).symm

/-- What slices.CompactFunc leaves. -/
structure Comped (w W : World) (blk off : Nat) (ks out : List Key) : Prop where
  upd : Upd [blk] w W
  row : RowK W blk off out
  mem : ∀ k ∈ out, k ∈ ks
  asc : Asc out
  le : out.length ≤ ks.length
  low : Low blk off w W

theorem Comp.done {w W W' : World} {blk off : Nat} {ks out : List Key} {z : Value} (h : Comp w W blk off ks ks.length out) (hW : W' = W.setCells blk (off + out.length) (List.replicate (ks.length - out.length) z)) : Comped w W' blk off ks out := by
  have hlt := h.lt
  have hu : Upd [blk] W W' := by rw [hW]; exact upd_setCells blk _ _ W
  refine ⟨h.upd.trans hu, fun j hj => ?_, h.mem, h.asc, by omega, h.low.trans fun j hj => ⟨by rw [hW, World.cell?_setCells_out _ _ _ _ _ (fun _ _ => Or.inl (by show j < off + out.length; omega))], by rw [hW, World.frozen?_setCells]⟩⟩
  rw [hW]
  refine ⟨?_, ?_⟩
  · rw [World.cell?_setCells_out _ _ _ _ _ (fun _ _ => Or.inl (by show off + j < off + out.length; omega))]
    exact h.row j hj
  · rw [World.frozen?_setCells]
    exact (h.there j (by omega)).2
theorem Ybaf.zero23 (W : World) : (zeroValue 23).run Ybaf.prog W = .ok (.slice none 0 0) W := by
  obtain ⟨i0, hi, hz0, hz1, hz2⟩ := info_parts Ybaf.info23
  simp [zeroValue, typeInfo, hi, hz0]

theorem clear_run {W : World} {blk off n c : Nat} (hn : 0 < n) (h : ∀ j, j < n → (W.cell? ⟨blk, off + j, none⟩).isSome = true ∧ W.frozen? ⟨blk, off + j, none⟩ = false) (ty : TypeId) :
    (Builtin.clear_ #[22] ty #[.slice (some ⟨blk, off, none⟩) n c]).run Ybaf.prog W = .ok (.tuple #[]) (W.setCells blk off (List.replicate n (.slice none 0 0))) :=
  Lib.run_clear_slice W 22 23 ty _ Ybaf.underlying22 Ybaf.zero23 rfl rfl blk off n c hn (fun j hj => (h j hj).1) (fun j hj => (h j hj).2)

/-- The closure's answer on two keys. -/
theorem eqK {W : World} {blk : Nat} {k1 k2 : Key} (g1 : Good W blk k1) (g2 : Good W blk k2) (r : Bool) (hr : r = decide (cmpI k1.xs k2.xs = 0)) :
    Calls Ybaf.prog 14 #[.slice k1.P k1.N k1.C, .slice k2.P k2.N k2.C] W fun e w' => e = .returned (.bool r) ∧ ∃ q, w' = W.drewN q :=
  eq14 _ _ _ _ _ _ _ _ _ r hr g1.bin g2.bin g1.mx g2.mx

set_option maxRecDepth 20000 in
set_option maxHeartbeats 2000000 in
/-- slices.CompactFunc (13) of sorted keys, by the law's closure. -/
theorem compact_any (blk off cap n : Nat) (ks : List Key) (w : World) (hR : RowK w blk off ks) (hG : ∀ k ∈ ks, Good w blk k) (hl : ks.length = n) (hn : n ≤ 1026) (hcap : n ≤ cap) (hs : Srt ks) :
    Calls Ybaf.prog 13 #[.slice (some ⟨blk, off, none⟩) n cap, .func (.func 14) #[] #[]] w fun e w' => ∃ out, e = .returned (.slice (some ⟨blk, off, none⟩) out.length cap) ∧ Hid (Comped w w' blk off ks out) := by
  have HR : Hid (RowK w blk off ks ∧ (∀ k ∈ ks, Good w blk k) ∧ ks.length = n ∧ Srt ks) := ⟨hR, hG, hl, hs⟩
  clear hR hG hs hl
  by_cases h2 : n < 2
  · go_enter Ybaf.func13, Ybaf.ntmps13
    go_wp2
    go_ret
    exact ⟨ks, by rw [HR.out.2.2.1]; rfl, Upd.refl _ _, HR.out.1, fun k hk => hk, fun i hi => by rw [HR.out.2.2.1] at hi; omega, Nat.le_refl _, Low.refl _ _ _⟩
  · go_enter Ybaf.func13, Ybaf.ntmps13
    go_wp2
    go_loopw [5] (fun i wr => ∃ k : Nat, 1 ≤ k ∧ k ≤ n ∧ i = .int .i64 k ∧ Hid ((∃ q, wr = w.drewN q) ∧ ∀ j, j + 1 < k → 0 < cmpI (ks.getD (j + 1) noKey).xs (ks.getD j noKey).xs)) (fun i _ => n - (intOf i).toNat)
    case atStart => exact ⟨1, Nat.le_refl _, by omega, rfl, ⟨0, rfl⟩, fun j hj => by omega⟩
    case round =>
      obtain ⟨k, hk1, hkn, rfl, HI⟩ := hrel
      have HRw : ∀ m, Hid (RowK (wr.drewN m) blk off ks ∧ (∀ k ∈ ks, Good (wr.drewN m) blk k)) := fun m => by
        obtain ⟨q, hq⟩ := HI.out.1
        subst wr
        exact ⟨HR.out.1, fun k hk => ⟨(HR.out.2.1 k hk).bin.cell fun a v h => h, (HR.out.2.1 k hk).mx, (HR.out.2.1 k hk).far⟩⟩
      by_cases hlt : k < n
      · have hck : wr.cell? ⟨blk, off + k, none⟩ = some (encK (ks.getD k noKey)) := ((HRw 0).out.1 k (by rw [HR.out.2.2.1]; exact hlt)).1
        have hck1 : wr.cell? ⟨blk, off + (k - 1), none⟩ = some (encK (ks.getD (k - 1) noKey)) := ((HRw 0).out.1 (k - 1) (by rw [HR.out.2.2.1]; omega)).1
        have HC : ∀ m r, r = decide (cmpI (ks.getD k noKey).xs (ks.getD (k - 1) noKey).xs = 0) → Hid (Calls Ybaf.prog 14 #[.slice (ks.getD k noKey).P (ks.getD k noKey).N (ks.getD k noKey).C, .slice (ks.getD (k - 1) noKey).P (ks.getD (k - 1) noKey).N (ks.getD (k - 1) noKey).C] (wr.drewN m) fun e w' => e = .returned (.bool r) ∧ ∃ q, w' = (wr.drewN m).drewN q) := fun m r hr =>
          eqK ((HRw m).out.2 _ (getD_mem (by rw [HR.out.2.2.1]; exact hlt))) ((HRw m).out.2 _ (getD_mem (by rw [HR.out.2.2.1]; omega))) r hr
        have hw1 : IntKind.i64.wrap ((k : Int) - 1) = (k : Int) - 1 := i64_in (by omega)
        have hit : ((k : Int) - 1).toNat = k - 1 := by omega
        have hia : (0 : Int) ≤ (k : Int) - 1 := by omega
        have hib : (k : Int) - 1 < (n : Int) := by omega
        have hka : (0 : Int) ≤ (k : Int) := by omega
        have hkb : (k : Int) ≤ (n : Int) := by omega
        have hne : ¬ cap = k := by omega
        by_cases hz : cmpI (ks.getD k noKey).xs (ks.getD (k - 1) noKey).xs = 0
        · have HZ : Hid (cmpI (ks.getD k noKey).xs (ks.getD (k - 1) noKey).xs = 0) := hz
          have HCt := fun m => HC m true (decide_eq_true hz).symm
          clear HC hz
          unfold encK at hck hck1
          go_wp2_with fail
          go_quiet ((go_at_call 14; exact (HCt _).out.mono fun _ _ h => ⟨h.1, qd h.2⟩))
          have HQ : ∀ q, Hid (Upd [blk] w (wr.drewN q) ∧ Low blk off w (wr.drewN q)) := fun q => by
            obtain ⟨q0, hq⟩ := HI.out.1
            rw [hq]
            exact ⟨((Upd.refl _ _).drewN q0).drewN q, Low.refl _ _ _⟩
          go_wp2
          clear hck hck1 HCt hw1 hit hia hib hka hkb
          generalize hm : n - k = m
          go_loopw [5, 7] (fun i j W => ∃ kk k2 : Nat, i = .int .i64 kk ∧ j = .int .i64 k2 ∧ 1 ≤ k2 ∧ k2 ≤ m ∧ Hid (∃ out : List Key, out.length = kk ∧ Comp w W blk off ks (k + k2) out)) (fun _ j _ => m - (intOf j).toNat)
          case atStart => exact ⟨k, 1, rfl, rfl, Nat.le_refl _, by omega, ks.take k, by simp; rw [HR.out.2.2.1]; omega, Comp.start (HQ _).out.1 (HQ _).out.2 (HRw _).out.1 hk1 (by rw [HR.out.2.2.1]; exact hlt) HI.out.2 HZ.out⟩
          case round =>
            obtain ⟨kk, k2, rfl, rfl, h21, h2m, HO⟩ := hrel
            obtain ⟨out, hol, hcomp⟩ := HO.out
            have HX : Hid (out.length = kk ∧ Comp w wr blk off ks (k + k2) out ∧ k + m = n ∧ ks.length = n) := ⟨hol, hcomp, by omega, HR.out.2.2.1⟩
            have hkk : kk < k + k2 := hol ▸ hcomp.lt
            have hth := hcomp.there kk (by rw [HR.out.2.2.1]; omega)
            clear HO
            by_cases hlt2 : k2 < m
            · have cm : wr.cell? ⟨blk, off + k + k2, none⟩ = some (encK (ks.getD (k + k2) noKey)) := by rw [Nat.add_assoc]; exact hcomp.rest _ (by omega) (by rw [HR.out.2.2.1]; omega)
              have cp : wr.cell? ⟨blk, off + k + (k2 - 1), none⟩ = some (encK (ks.getD (k + k2 - 1) noKey)) := by rw [Nat.add_assoc, show k + (k2 - 1) = k + k2 - 1 by omega]; exact hcomp.rest _ (by omega) (by rw [HR.out.2.2.1]; omega)
              obtain ⟨v0, ck⟩ := Option.isSome_iff_exists.1 hth.1
              have fk := hth.2
              have HG : ∀ q, ∀ x ∈ ks, Hid (Good (wr.drewN q) blk x) := fun q x hx => (HR.out.2.1 x hx).upd (hcomp.upd.drewN q)
              have HC : ∀ q r, r = decide (cmpI (ks.getD (k + k2) noKey).xs (ks.getD (k + k2 - 1) noKey).xs = 0) → Hid (Calls Ybaf.prog 14 #[.slice (ks.getD (k + k2) noKey).P (ks.getD (k + k2) noKey).N (ks.getD (k + k2) noKey).C, .slice (ks.getD (k + k2 - 1) noKey).P (ks.getD (k + k2 - 1) noKey).N (ks.getD (k + k2 - 1) noKey).C] (wr.drewN q) fun e w' => e = .returned (.bool r) ∧ ∃ q', w' = (wr.drewN q).drewN q') := fun q r hr =>
                eqK (HG q _ (getD_mem (by rw [HR.out.2.2.1]; omega))).out (HG q _ (getD_mem (by rw [HR.out.2.2.1]; omega))).out r hr
              have hw1 : IntKind.i64.wrap ((k2 : Int) - 1) = (k2 : Int) - 1 := i64_in (by omega)
              have hit : ((k2 : Int) - 1).toNat = k2 - 1 := by omega
              have hia : (0 : Int) ≤ (k2 : Int) - 1 := by omega
              have hib : (k2 : Int) - 1 < (m : Int) := by omega
              have hka : (0 : Int) ≤ (k2 : Int) := by omega
              have hkb : (k2 : Int) < (m : Int) := by omega
              have hkc : (0 : Int) ≤ (kk : Int) := by omega
              have hkd : (kk : Int) < (n : Int) := by omega
              have hkn2 : kk < n := by omega
              have hm1026 : m ≤ 1026 := by omega
              unfold encK at cm cp
              clear hcomp hol hth hm HG
              by_cases hz : cmpI (ks.getD (k + k2) noKey).xs (ks.getD (k + k2 - 1) noKey).xs = 0
              · have HZ2 : Hid (cmpI (ks.getD (k + k2) noKey).xs (ks.getD (k + k2 - 1) noKey).xs = 0) := hz
                have HCt := fun q => HC q true (decide_eq_true hz).symm
                clear HC hz ck fk
                go_wp2_with fail
                go_quiet ((go_at_call 14; exact (HCt _).out.mono fun _ _ h => ⟨h.1, qd h.2⟩))
                go_wp2
                go_roundw
                case rel =>
                  exact ⟨kk, k2 + 1, rfl, by go_num, by omega, hlt2, out, HX.out.1, (HX.out.2.1.drew _).skip (by rw [HX.out.2.2.2, ← HX.out.2.2.1]; omega) HZ2.out⟩
                case measure => simp [intOf]; omega
              · have HZ2 : Hid (¬ cmpI (ks.getD (k + k2) noKey).xs (ks.getD (k + k2 - 1) noKey).xs = 0) := hz
                have HCt := fun q => HC q false (decide_eq_false hz).symm
                clear HC hz
                go_wp2_with fail
                go_quiet ((go_at_call 14; exact (HCt _).out.mono fun _ _ h => ⟨h.1, qd h.2⟩))
                go_wp2
                go_roundw
                case rel =>
                  refine ⟨kk + 1, k2 + 1, by go_num, by go_num, by omega, hlt2, out ++ [ks.getD (k + k2) noKey], by simp [HX.out.1], ?_⟩
                  exact (HX.out.2.1.drew _).keep (by rw [HX.out.2.2.2, ← HX.out.2.2.1]; omega) HR.out.2.2.2 HZ2.out (by rw [HX.out.1]; rfl)
                case measure => simp [intOf]; omega
            · have hend : k2 = m := by omega
              subst hend
              have hcl : ∀ ty, (Builtin.clear_ #[22] ty #[.slice (some ⟨blk, off + kk, none⟩) (n - kk) (cap - kk)]).run Ybaf.prog wr = .ok (.tuple #[]) (wr.setCells blk (off + kk) (List.replicate (n - kk) (.slice none 0 0))) :=
                fun ty => clear_run (by omega) (fun j hj => by have := hcomp.there (kk + j) (by rw [HR.out.2.2.1]; omega); rw [← Nat.add_assoc] at this; exact this) ty
              have hkc : (0 : Int) ≤ (kk : Int) := by omega
              have hkd : (kk : Int) ≤ (n : Int) := by omega
              have hke : (kk : Int) ≤ (cap : Int) := by omega
              have hkn2 : kk ≤ n := by omega
              have hne2 : ¬ cap = kk := by omega
              clear hcomp hol hth hm
              go_wp2
              go_ret
              refine ⟨out, by rw [HX.out.1]; rfl, ?_⟩
              have hx := HX.out
              have hc := hx.2.1
              rw [show k + k2 = ks.length by omega] at hc
              exact hc.done (z := .slice none 0 0) (by rw [hx.1, hx.2.2.2])
        · have HCf := fun m => HC m false (decide_eq_false hz).symm
          have HZ : Hid (¬ cmpI (ks.getD k noKey).xs (ks.getD (k - 1) noKey).xs = 0) := hz
          clear HC hz
          unfold encK at hck hck1
          have HW : ∀ q, Hid (∃ q', wr.drewN q = w.drewN q') := fun q => qe HI.out.1
          go_wp2_with fail
          go_quiet ((go_at_call 14; exact (HCf _).out.mono fun _ _ h => ⟨h.1, qd h.2⟩))
          go_wp2
          go_roundw
          case rel =>
            refine ⟨k + 1, by omega, hlt, by go_num, (HW _).out, fun j hj => ?_⟩
            by_cases e : j + 1 = k
            · have hs := HR.out.2.2.2 (k - 1) k (by omega) (by rw [HR.out.2.2.1]; exact hlt)
              have := HZ.out
              rw [show j = k - 1 by omega, show k - 1 + 1 = k by omega]
              omega
            · exact HI.out.2 j (by omega)
          case measure => simp [intOf]; omega
      · obtain rfl : k = n := by omega
        go_wp2
        go_ret
        obtain ⟨q, hq⟩ := HI.out.1
        refine ⟨ks, by rw [HR.out.2.2.1]; rfl, ?_, (HRw 0).out.1, fun k hk => hk, fun i hi => HI.out.2 i (by rw [← HR.out.2.2.1]; exact hi), Nat.le_refl _, ?_⟩
        · rw [hq]; exact (Upd.refl _ _).drewN q
        · rw [hq]; exact Low.refl _ _ _
end Go.Proofs.YbulkczrmFmt
