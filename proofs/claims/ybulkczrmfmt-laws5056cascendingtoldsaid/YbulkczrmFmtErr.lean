import Derived.Test.YbulkczrmFmtCmp
import Derived.Stop.CallBack
import Derived.Stop.IfaceNil
import GoSem.ClaimData
namespace Go.Proofs.YbulkczrmFmt
open Go.RowKit Go.Extern.Stop Go.Stop Go.Extern
set_option linter.unusedVariables false
set_option linter.unusedSimpArgs false

/-- the format: "key of %d bytes: a key is 1 to %d bytes" -/
abbrev keyFmt : ByteArray := ⟨#[107, 101, 121, 32, 111, 102, 32, 37, 100, 32, 98, 121, 116, 101, 115, 58, 32, 97, 32, 107, 101, 121, 32, 105, 115, 32, 49, 32, 116, 111, 32, 37, 100, 32, 98, 121, 116, 101, 115]⟩
theorem Ybaf.call50 (args : Array Value) (w : World) : (callFunc 50 args).run Ybaf.prog w = ((FmtStop.errorf #[9, 86] #[58] args).run Ybaf.prog w).andThen fun v w' => .ok (.value v) w' :=
  run_callFunc_extern Ybaf.func50 (by kernel_rfl) (by kernel_rfl) (by kernel_rfl) (by kernel_rfl) args w
theorem Ybaf.guard (name : String) (w : World) : (FmtStop.guard name).run Ybaf.prog w = .ok () w := by kernel_rfl
theorem Ybaf.fmt0 : FmtStop.printed? ⟨#[107, 101, 121, 32, 111, 102, 32, 37, 100, 32, 98, 121, 116, 101, 115, 58, 32, 97, 32, 107, 101, 121, 32, 105, 115, 32, 49, 32, 116, 111, 32, 37, 100, 32, 98, 121, 116, 101, 115]⟩ 2 = some [(0, 100, false), (1, 100, false)] := by kernel_rfl
theorem Ybaf.fmt0r (w : World) : (FmtDoors.printed ⟨#[107, 101, 121, 32, 111, 102, 32, 37, 100, 32, 98, 121, 116, 101, 115, 58, 32, 97, 32, 107, 101, 121, 32, 105, 115, 32, 49, 32, 116, 111, 32, 37, 100, 32, 98, 121, 116, 101, 115]⟩ 2).run Ybaf.prog w = .ok [(0, 100, false), (1, 100, false)] w := by kernel_rfl
def Ybaf.shape3 : List UInt8 := [5, 3, 0, 0, 0, 0, 0, 0, 0, 105, 110, 116]
theorem Ybaf.op3_118 (name : String) (x : Int) (w : World) : (FmtStop.operand name false 118 false (.iface 3 (.int .i64 x))).run Ybaf.prog w = .ok (Ybaf.shape3, Go.Extern.Stop.digits 8 (x % 2 ^ 64).toNat) w := by kernel_rfl
theorem Ybaf.op3_100 (name : String) (x : Int) (w : World) : (FmtStop.operand name false 100 false (.iface 3 (.int .i64 x))).run Ybaf.prog w = .ok (Ybaf.shape3, Go.Extern.Stop.digits 8 (x % 2 ^ 64).toNat) w := by kernel_rfl
theorem Ybaf.op3_100w (name : String) (x : Int) (w : World) : (FmtStop.operand name true 100 false (.iface 3 (.int .i64 x))).run Ybaf.prog w = .ok (Ybaf.shape3, Go.Extern.Stop.digits 8 (x % 2 ^ 64).toNat) w := by kernel_rfl
theorem Ybaf.ptr92 (w : World) : (FmtStop.ptrTo "errors.errorString").run Ybaf.prog w = .ok 92 w := by kernel_rfl
theorem Ybaf.elem92 (w : World) : (elemOf 92).run Ybaf.prog w = .ok 94 w := by kernel_rfl
theorem Ybaf.isError92' (w : World) : (FmtDoors.textMethod 92 "Error").run Ybaf.prog w = .ok true w := by kernel_rfl
attribute [local go_sem] Ybaf.call50 Ybaf.guard Ybaf.fmt0 Ybaf.fmt0r Ybaf.op3_118 Ybaf.op3_100 Ybaf.op3_100w Ybaf.ptr92 Ybaf.elem92 Ybaf.isError92'

set_option maxRecDepth 20000 in
theorem checkKey_bad (F : Interp) (p : Option Addr) (n c : Nat) (w : World) (hF : F.answers w.tape) (hb : n = 0 ∨ 1000 < n) (hn : n ≤ 9223372036854775807) :
    Calls Ybaf.prog 25 #[.slice p n c] w fun e w' => ∃ a, e = .returned (.iface 92 (.pointer (some a))) ∧ Below w.heap.size w w' := by
  have hF' : ∀ i name reading k range, w.tape i (.extern (word name reading k) range) = F name reading k := hF
  rcases hb with hb | hb
  · subst hb
    go_enter Ybaf.func25, Ybaf.ntmps25
    go_wp2
    go_ret
    exact ⟨_, rfl, (((Below.refl _ _).alloc (Nat.le_refl _) _).alloc (by simp) _).drew⟩
  · have hne : ¬ n = 0 := by omega
    go_enter Ybaf.func25, Ybaf.ntmps25
    go_wp2
    go_ret
    exact ⟨_, rfl, (((Below.refl _ _).alloc (Nat.le_refl _) _).alloc (by simp) _).drew⟩

set_option maxRecDepth 20000 in
theorem checkKey_ok (p : Option Addr) (n c : Nat) (w : World) (hb : 1 ≤ n) (hn : n ≤ 1000) :
    Calls Ybaf.prog 25 #[.slice p n c] w fun e w' => e = .returned .nilIface ∧ w' = w := by
  have hne : ¬ n = 0 := by omega
  have hne' : ((n : Int) == 0) = false := by simp; omega
  have hle' : decide ((1000 : Int) < (n : Int)) = false := by simp; omega
  go_enter Ybaf.func25, Ybaf.ntmps25
  go_wp2
  go_ret
  exact ⟨rfl, rfl⟩

/-- What 'keysAscend' asks of the keys from f on. -/
def OkTo (kb : Nat → List Int) (f n : Nat) : Prop := ∀ i, f ≤ i → i < n → (1 ≤ (kb i).length ∧ (kb i).length ≤ 1000) ∧ (f < i → 0 < cmpI (kb i) (kb (i - 1)))
theorem OkTo.bad_len {kb : Nat → List Int} {f n i : Nat} (h1 : f ≤ i) (h2 : i < n) (h : (kb i).length = 0 ∨ 1000 < (kb i).length) : ¬ OkTo kb f n := fun ho => by
  have := (ho i h1 h2).1; omega
theorem OkTo.bad_cmp {kb : Nat → List Int} {f n i : Nat} (h1 : f < i) (h2 : i < n) (h : cmpI (kb i) (kb (i - 1)) ≤ 0) : ¬ OkTo kb f n := fun ho => by
  have := (ho i (by omega) h2).2 h1; omega
theorem OkTo.next {kb : Nat → List Int} {f i : Nat} (h : OkTo kb f i) (hl : 1 ≤ (kb i).length ∧ (kb i).length ≤ 1000) (hc : f < i → 0 < cmpI (kb i) (kb (i - 1))) : OkTo kb f (i + 1) := fun j h1 h2 => by
  by_cases e : j = i
  · subst e; exact ⟨hl, hc⟩
  · exact h j h1 (by omega)
theorem OkTo.none {kb : Nat → List Int} (f : Nat) : OkTo kb f f := fun i h1 h2 => by omega
def okB (kb : Nat → List Int) (f n : Nat) : Bool :=
  (List.range n).all fun i => decide (i < f) || ((decide (1 ≤ (kb i).length) && decide ((kb i).length ≤ 1000)) && (decide (i ≤ f) || decide (0 < cmpI (kb i) (kb (i - 1)))))
theorem okB_iff {kb : Nat → List Int} {f n : Nat} : okB kb f n = true ↔ OkTo kb f n := by
  unfold okB OkTo
  simp only [List.all_eq_true, List.mem_range, Bool.or_eq_true, Bool.and_eq_true, decide_eq_true_eq]
  constructor
  · intro h i h1 h2
    rcases h i h2 with h3 | ⟨h3, h4⟩
    · omega
    · refine ⟨h3, fun h5 => ?_⟩
      rcases h4 with h4 | h4
      · omega
      · exact h4
  · intro h i h2
    by_cases h1 : i < f
    · exact Or.inl h1
    · have h3 := h i (by omega) h2
      refine Or.inr ⟨h3.1, ?_⟩
      by_cases h5 : i ≤ f
      · exact Or.inl h5
      · exact Or.inr (h3.2 (by omega))
theorem okB_true {kb : Nat → List Int} {f n : Nat} (h : OkTo kb f n) : okB kb f n = true := okB_iff.2 h
theorem okB_false {kb : Nat → List Int} {f n : Nat} (h : ¬ OkTo kb f n) : okB kb f n = false := by
  cases e : okB kb f n with
  | false => rfl
  | true => exact absurd (okB_iff.1 e) h
theorem ret_bool {a b : Bool} (h : a = b) : Ending.returned (.bool a) = .returned (.bool b) := by rw [h]

/-- A finished page in memory. -/
structure PageIn (w : World) (g sz n t hd : Nat) (kl : Nat → Nat) (kb : Nat → List Int) (X : List Int) : Prop where
  page : w.heap[g]? = some (.cells (bcells X).toArray 5 (0, 0))
  built : Built X sz n n t hd kl kb
  size : sz = ofsN n hd kl n
  small : sz < 65536
  kinds : Kinds w
  lens : ∀ i, i < n → (kb i).length = kl i
  bytes : ∀ i, i < n → Bytes (kb i)
theorem PageIn.in' {w W : World} {B g sz n t hd : Nat} {kl : Nat → Nat} {kb : Nat → List Int} {X : List Int} (h : PageIn w g sz n t hd kl kb X) (hb : Below B w W) (hg : g < B) (h0 : 0 < B) : PageIn W g sz n t hd kl kb X :=
  ⟨by rw [hb.block g hg]; exact h.page, h.built, h.size, h.small, ⟨by rw [hb.cell h0]; exact h.kinds.leaf, by rw [hb.cell h0]; exact h.kinds.int⟩, h.lens, h.bytes⟩
theorem PageIn.bin {w : World} {g sz n t hd : Nat} {kl : Nat → Nat} {kb : Nat → List Int} {X : List Int} (h : PageIn w g sz n t hd kl kb X) {i : Nat} (hi : i < n) :
    BIn w (some ⟨g, koff (ofsN n hd kl i + hd) (kl i), none⟩) (kl i) (kb i) := by
  refine ⟨h.lens i hi, fun h0 => ⟨g, ofsN n hd kl i + hd, ?_, fun j hj => ?_⟩⟩
  · unfold koff; rw [if_neg (by omega)]
  · have := ofsN_lt (n := n) (hd := hd) (kl := kl) hi
    have hX := h.built.len
    have hs := h.size
    rw [cellB h.page (by omega), h.built.keys i hi j hj]
theorem PageIn.key {w : World} {g sz n t hd : Nat} {kl : Nat → Nat} {kb : Nat → List Int} {X : List Int} (h : PageIn w g sz n t hd kl kb X) (hkh : KH t hd) {i : Nat} (hi : i < n) :
    Calls Ybaf.prog 24 #[.slice (some ⟨g, 0, none⟩) sz sz, .int .i64 i] w fun e w' => e = .returned (keyV g (ofsN n hd kl i + hd) (kl i)) ∧ Below w.heap.size w w' :=
  (key_any g i sz (ofsN n hd kl i) (kl i) t hd X w h.page h.built.len h.small h.built.typ hkh (h.built.off i hi) (h.built.klen i hi) (by have := ofsN_lt (n := n) (hd := hd) (kl := kl) hi; have := h.size; omega) h.kinds).mono fun e w' ⟨he, q, hq⟩ =>
    ⟨he, by rw [hq]; exact below_drewN (((Below.refl _ _).alloc (Nat.le_refl _) _).alloc (by simp) _) _⟩

set_option maxRecDepth 20000 in
set_option maxHeartbeats 1000000 in
theorem ascend_any (F : Interp) (g sz n t hd f : Nat) (kl : Nat → Nat) (kb : Nat → List Int) (X : List Int) (w : World) (hF : F.answers w.tape) (h : PageIn w g sz n t hd kl kb X) (hkh : KH t hd) (hf : (t = 1 ∧ f = 0) ∨ (t = 2 ∧ f = 1)) (hfn : f ≤ n) (hn : n ≤ 1026) :
    Calls Ybaf.prog 10 #[.slice (some ⟨g, 0, none⟩) sz sz] w fun e w' => e = .returned (.bool (okB kb f n)) ∧ Below w.heap.size w w' := by
  have H : Hid (PageIn w g sz n t hd kl kb X) := h
  have hgw := lt_of_block h.page
  have h0w : 0 < w.heap.size := World.block_lt_of_cell? _ _ h.kinds.leaf
  have hszp : 4 ≤ sz := by have := ofsN_ge n hd kl n; have := h.size; omega
  have HF : Hid (F.answers w.tape) := hF
  have HKL : Hid (∀ i, i < n → kl i < 65536) := fun i hi => by have := ofsN_lt (n := n) (hd := hd) (kl := kl) hi; have := h.size; have := h.small; omega
  have HFF : Hid ((t = 1 ∧ (f : Int) = 0) ∨ (t = 2 ∧ (f : Int) = 1)) := by
    rcases hf with ⟨a, b⟩ | ⟨a, b⟩
    · exact Or.inl ⟨a, by omega⟩
    · exact Or.inr ⟨a, by omega⟩
  have hf1 : f ≤ 1 := by omega
  clear h hF hf
  go_enter Ybaf.func10, Ybaf.ntmps10
  go_wp2_with fail
  refine (firstKey_any g sz t f X _ H.out.page H.out.built.len (by omega) H.out.built.typ HFF.out).mono ?_
  rintro e w1 ⟨rfl, hw1⟩
  subst w1
  go_wp2_with fail
  refine (count_any g sz n X _ H.out.page H.out.built.len H.out.small H.out.built.cnt).mono ?_
  rintro e w1 ⟨rfl, q, rfl⟩
  have hb1 : Below w.heap.size w ((w.alloc (.cells #[] 48)).drewN q) := below_drewN ((Below.refl _ _).alloc (Nat.le_refl _) _) _
  generalize (w.alloc (.cells #[] 48)).drewN q = w1 at *
  have HB : Hid (Below w.heap.size w w1) := hb1
  clear hb1
  by_cases hfe : f = n
  · subst hfe
    go_wp2
    go_ret
    exact ⟨ret_bool (okB_true (OkTo.none f)).symm, HB.out⟩
  · have hne : ¬ (f : Int) = (n : Int) := by omega
    have hfl : f < n := by omega
    go_wp2_with fail
    refine ((H.out.in' HB.out hgw h0w).key hkh hfl).mono ?_
    rintro e w2 ⟨rfl, hb2⟩
    have HB2 : Hid (Below w.heap.size w w2) := HB.out.trans (hb2.mono HB.out.size)
    clear hb2 HB
    by_cases hbad : kl f = 0 ∨ 1000 < kl f
    · have hk := HKL.out f hfl
      go_wp2_with fail
      refine (checkKey_bad F _ _ _ _ (by rw [HB2.out.tape]; exact HF.out) hbad (by omega)).mono ?_
      rintro e w3 ⟨a, rfl, hb3⟩
      have HB3 : Hid (Below w.heap.size w w3) := HB2.out.trans (hb3.mono HB2.out.size)
      clear hb3 HB2
      go_wp2
      go_ret
      exact ⟨ret_bool (okB_false (OkTo.bad_len (Nat.le_refl f) hfl (by rw [H.out.lens f hfl]; exact hbad))).symm, HB3.out⟩
    · go_wp2_with fail
      refine (checkKey_ok _ _ _ _ (by omega) (by omega)).mono ?_
      rintro e w3 ⟨rfl, hw3⟩
      subst w3
      have HS0 : Hid (OkTo kb f (f + 1)) := (OkTo.none f).next (by rw [H.out.lens f hfl]; omega) (fun h => absurd h (Nat.lt_irrefl _))
      go_wp2
      go_loopw [5, 6] (fun prev i wr => ∃ k : Nat, f < k ∧ k ≤ n ∧ i = .int .i64 k ∧ prev = keyV g (ofsN n hd kl (k - 1) + hd) (kl (k - 1)) ∧ Hid (OkTo kb f k ∧ Below w.heap.size w wr)) (fun _ i _ => n - (intOf i).toNat)
      case atStart => exact ⟨f + 1, Nat.lt_succ_self _, hfl, by go_num, rfl, HS0.out, HB2.out⟩
      case round =>
        obtain ⟨k, hfk, hkn, rfl, rfl, HI⟩ := hrel
        clear HS0 HB2
        by_cases hlt : k < n
        · go_wp2_with fail
          refine ((H.out.in' HI.out.2 hgw h0w).key hkh hlt).mono ?_
          rintro e w3 ⟨rfl, hb3⟩
          have HB3 : Hid (Below w.heap.size w w3) := HI.out.2.trans (hb3.mono HI.out.2.size)
          clear hb3
          by_cases hbd : kl k = 0 ∨ 1000 < kl k
          · have hk := HKL.out k hlt
            go_wp2_with fail
            refine (checkKey_bad F _ _ _ _ (by rw [HB3.out.tape]; exact HF.out) hbd (by omega)).mono ?_
            rintro e w4 ⟨a, rfl, hb4⟩
            have HB4 : Hid (Below w.heap.size w w4) := HB3.out.trans (hb4.mono HB3.out.size)
            clear hb4 HB3
            go_wp2
            go_ret
            exact ⟨ret_bool (okB_false (OkTo.bad_len (Nat.le_of_lt hfk) hlt (by rw [H.out.lens k hlt]; exact hbd))).symm, HB4.out⟩
          · have hk1 : k - 1 < n := by omega
            go_wp2_with fail
            refine (checkKey_ok _ _ _ _ (by omega) (by omega)).mono ?_
            rintro e w4 ⟨rfl, hw4⟩
            subst w4
            go_wp2_with fail
            refine (compare_any _ _ _ _ _ _ (kb k) (kb (k - 1)) _ ((H.out.in' HB3.out hgw h0w).bin hlt) ((H.out.in' HB3.out hgw h0w).bin hk1) (H.out.bytes k hlt) (H.out.bytes (k - 1) hk1)).mono ?_
            rintro e w4 ⟨rfl, hw4⟩
            subst w4
            obtain ⟨r, hr⟩ : ∃ r, r = cmpI (kb k) (kb (k - 1)) := ⟨_, rfl⟩
            have HR : Hid (r = cmpI (kb k) (kb (k - 1))) := hr
            rw [← hr]
            clear hr
            by_cases hc : r ≤ 0
            · go_wp2
              go_ret
              exact ⟨ret_bool (okB_false (OkTo.bad_cmp hfk hlt (by rw [← HR.out]; exact hc))).symm, HB3.out⟩
            · go_wp2
              go_roundw
              case rel => exact ⟨k + 1, by omega, hlt, by go_num, by rw [Nat.add_sub_cancel], HI.out.1.next (by rw [H.out.lens k hlt]; omega) (fun _ => by rw [← HR.out]; omega), HB3.out⟩
              case measure => simp [intOf]; omega
        · obtain rfl : k = n := by omega
          go_wp2
          go_ret
          exact ⟨ret_bool (okB_true HI.out.1).symm, HI.out.2⟩
end Go.Proofs.YbulkczrmFmt
