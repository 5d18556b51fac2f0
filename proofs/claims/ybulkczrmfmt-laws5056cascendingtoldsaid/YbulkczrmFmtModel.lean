import Derived.Test.YbulkczrmFmtErr
namespace Go.Proofs.YbulkczrmFmt
open Go.RowKit Go.Extern.Stop Go.Stop Go.Extern
set_option linter.unusedVariables false
set_option linter.unusedSimpArgs false

theorem qd {w w' : World} {m : Nat} (h : ∃ q, w' = (w.drewN m).drewN q) : ∃ q, w' = w.drewN q := by obtain ⟨q, rfl⟩ := h; exact dd2 _ _ _
theorem qe {w wr : World} {m : Nat} (h : ∃ q, wr = w.drewN q) : ∃ q, wr.drewN m = w.drewN q := by obtain ⟨q, rfl⟩ := h; exact dd2 _ _ _

set_option maxRecDepth 20000 in
set_option maxHeartbeats 1000000 in
theorem model_any (a : Option Addr) (n cap f : Nat) (P : Nat → Option Addr) (N C : Nat → Nat) (kbs : Nat → List Int) (w : World) (hK : KeysIn w a n P N C kbs) (hf1 : f ≤ 1) (hfn : f ≤ n) (hn : n ≤ 1026) (hN : ∀ i, i < n → N i < 65536) :
    Calls Ybaf.prog 11 #[.slice a n cap, .int .i64 f] w fun e w' => e = .returned (.bool (okB kbs f n)) ∧ ∃ q, w' = w.drewN q := by
  have HK : Hid _ := hK
  have HN : Hid (∀ i, i < n → N i < 65536) := hN
  clear hK hN
  go_enter Ybaf.func11, Ybaf.ntmps11
  go_wp2
  go_loopw [5] (fun i wr => ∃ k : Nat, f ≤ k ∧ k ≤ n ∧ i = .int .i64 k ∧ Hid (OkTo kbs f k ∧ ∃ q, wr = w.drewN q)) (fun i _ => n - (intOf i).toNat)
  case atStart => exact ⟨f, Nat.le_refl _, hfn, rfl, OkTo.none f, 0, rfl⟩
  case round =>
    obtain ⟨k, hfk, hkn, rfl, HI⟩ := hrel
    have HO' : Hid (OkTo kbs f k) := HI.out.1
    have HW : Hid (∃ q, wr = w.drewN q) := HI.out.2
    have HE : ∀ m, Hid (KeysIn (wr.drewN m) a n P N C kbs) := fun m => by
      obtain ⟨q, hq⟩ := HI.out.2
      subst wr
      exact ⟨HK.out.at', fun i hi => (HK.out.els i hi).cell fun a v h => h⟩
    clear HI
    by_cases hlt : k < n
    · obtain ⟨b, o, rfl, hc0⟩ := (HE 0).out.at' (by omega)
      have hc : ∀ i, i < n → wr.cell? ⟨b, o + i, none⟩ = some (.slice (P i) (N i) (C i)) := hc0
      clear hc0
      have hck := hc k hlt
      have hNk := HN.out k hlt
      have hlen := (HK.out.els k hlt).len
      by_cases hbd : N k = 0 ∨ 1000 < N k
      · have hbad := okB_false (OkTo.bad_len (kb := kbs) (n := n) hfk hlt (by rw [hlen]; exact hbd))
        clear hc
        rcases hbd with hbd | hbd
        · rw [hbd] at hck
          clear hNk
          go_wp2
          go_ret
          exact ⟨ret_bool hbad.symm, HW.out⟩
        · go_wp2
          go_ret
          exact ⟨ret_bool hbad.symm, HW.out⟩
      · have h1 : 1 ≤ N k := by omega
        have h2 : N k ≤ 1000 := by omega
        by_cases hg : f < k
        · have hd : decide ((f : Int) < (k : Int)) = true := by simp; omega
          have hck1 := hc (k - 1) (by omega)
          have hw1 : IntKind.i64.wrap ((k : Int) - 1) = (k : Int) - 1 := i64_in (by omega)
          have hit : ((k : Int) - 1).toNat = k - 1 := by omega
          have hia : (0 : Int) ≤ (k : Int) - 1 := by omega
          have hib : (k : Int) - 1 < (n : Int) := by omega
          have hNk1 := HN.out (k - 1) (by omega)
          have HC : ∀ m, Hid (Calls Ybaf.prog 6 #[.slice (P k) (N k) (C k), .slice (P (k - 1)) (N (k - 1)) (C (k - 1))] (wr.drewN m) fun e w' => e = .returned (.int .i64 (cmpI (kbs k) (kbs (k - 1)))) ∧ ∃ q, w' = (wr.drewN m).drewN q) := fun m =>
            ccmp_any _ _ _ _ _ _ _ _ _ ((HE m).out.els k hlt) ((HE m).out.els (k - 1) (by omega)) (by omega) (by omega)
          obtain ⟨r, hr⟩ : ∃ r, r = cmpI (kbs k) (kbs (k - 1)) := ⟨_, rfl⟩
          have HR : Hid (r = cmpI (kbs k) (kbs (k - 1))) := hr
          rw [← hr] at HC
          clear hr hc
          by_cases hc0 : r ≤ 0
          · go_wp2
            go_quiet ((go_at_call 6; exact (HC _).out.mono fun _ _ h => ⟨h.1, qd h.2⟩))
            go_wp2
            go_ret
            exact ⟨ret_bool (okB_false (OkTo.bad_cmp hg hlt (by rw [← HR.out]; exact hc0))).symm, qe HW.out⟩
          · go_wp2
            go_quiet ((go_at_call 6; exact (HC _).out.mono fun _ _ h => ⟨h.1, qd h.2⟩))
            go_wp2
            go_roundw
            case rel => exact ⟨k + 1, by omega, hlt, by go_num, HO'.out.next (by omega) (fun _ => by rw [← HR.out]; omega), qe HW.out⟩
            case measure => simp [intOf]; omega
        · have hd : decide ((f : Int) < (k : Int)) = false := by simp; omega
          clear hc
          go_wp2
          go_quiet (fail)
          go_wp2
          go_roundw
          case rel => exact ⟨k + 1, by omega, hlt, by go_num, HO'.out.next (by omega) (fun h => absurd h hg), qe HW.out⟩
          case measure => simp [intOf]; omega
    · obtain rfl : k = n := by omega
      go_wp2
      go_ret
      exact ⟨ret_bool (okB_true HO'.out).symm, HW.out⟩
end Go.Proofs.YbulkczrmFmt
