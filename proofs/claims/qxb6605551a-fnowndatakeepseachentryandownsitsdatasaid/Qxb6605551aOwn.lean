/-
  ownData: the entries' data copied into one row of their own.
-/
import Derived.Test.Qxb6605551aDeep
import Derived.OwnWalk
namespace Go.Proofs.Qxb6605551a
open Go.RowKit

/-- An entry's bytes, as cells. -/
def ent (c : DD) (k : Nat) : List Value := (List.range (c.dl k)).map fun j => .int .u8 (c.dv k j)
/-- The first k entries' bytes, as cells. -/
def bytesTo (c : DD) : Nat → List Value
  | 0 => []
  | k + 1 => bytesTo c k ++ ent c k

theorem ent_length (c : DD) (k : Nat) : (ent c k).length = c.dl k := by simp [ent]
theorem bytesTo_length (c : DD) : ∀ k, (bytesTo c k).length = sumTo c.dl k
  | 0 => rfl
  | k + 1 => by
    rw [bytesTo, List.length_append, bytesTo_length c k, ent_length]
    rfl
theorem bytesTo_get (c : DD) (i j : Nat) (hj : j < c.dl i) : ∀ k, i < k → (bytesTo c k)[sumTo c.dl i + j]? = some (.int .u8 (c.dv i j))
  | 0, h => by omega
  | k + 1, h => by
    rw [bytesTo]
    by_cases e : i = k
    · subst e
      rw [List.getElem?_append_right (by rw [bytesTo_length]; omega), bytesTo_length]
      have : sumTo c.dl i + j - sumTo c.dl i = j := by omega
      rw [this]
      simp [ent, hj]
    · have h1 := le_sumTo c.dl (i := i) (n := k) (by omega)
      rw [List.getElem?_append_left (by rw [bytesTo_length]; omega)]
      exact bytesTo_get c i j hj k (by omega)

/-- The slices c, their data in one row, block g. -/
def DD.owned (c : DD) (g : Nat) : DD :=
  { c with
    da := fun i => if (c.da i).isNone = true then none else some (if c.dl i = 0 then ⟨g, 0, none⟩ else ⟨g, sumTo c.dl i, none⟩)
    dc := fun i => if (c.da i).isNone = true then 0 else c.dl i
    db := fun _ => g
    off := fun i => sumTo c.dl i }

theorem owned_nil (c : DD) (g k : Nat) (hn : (c.da k).isNone = true) : (c.owned g).da k = none ∧ (c.owned g).dc k = 0 := by
  unfold DD.owned
  exact ⟨if_pos hn, if_pos hn⟩
theorem owned_some (c : DD) (g k : Nat) (hn : (c.da k).isNone = false) : (c.owned g).da k = some (if c.dl k = 0 then ⟨g, 0, none⟩ else ⟨g, sumTo c.dl k, none⟩) ∧ (c.owned g).dc k = c.dl k := by
  unfold DD.owned
  have h : ¬ (c.da k).isNone = true := by rw [hn]; decide
  exact ⟨if_neg h, if_neg h⟩
theorem owned_isNone (c : DD) (g k : Nat) : ((c.owned g).da k).isNone = (c.da k).isNone := by
  cases h : (c.da k).isNone with
  | true => rw [(owned_nil c g k h).1]; rfl
  | false => rw [(owned_some c g k h).1]; rfl

/-- ownData's work, as far as k entries: w the world at the call, block cb the chain's row, the last of w. -/
structure Owning (w wr : World) (c : DD) (cb : Nat) (F : Nat → Value) (k : Nat) : Prop where
  own : wr.ownsRow w.heap.size 5 1 (.slice (some ⟨w.heap.size, 0, none⟩) (sumTo c.dl k) (sumTo c.dl c.n)) (sumTo c.dl k) (bytesTo c k)
  chain : ∃ F', wr.rowIs cb 55 (c.n * 5) F' ∧ (∀ i, i < c.n → ∀ q, q < 4 → F' (i * 5 + q) = F (i * 5 + q)) ∧ (∀ i, i < k → F' (i * 5 + 4) = (c.owned w.heap.size).headOf i) ∧ (∀ i, k ≤ i → i < c.n → F' (i * 5 + 4) = F (i * 5 + 4))
  below : Below cb w wr

theorem Owning.start {w : World} {c : DD} {cb : Nat} {F : Nat → Value} (hr : w.rowIs cb 55 (c.n * 5) F) (hcb : cb < w.heap.size) (hm : sumTo c.dl c.n ≤ maxLen) (z : Value) :
    Owning w (w.alloc (.cells (zrow z (sumTo c.dl c.n)) 5)) c cb F 0 :=
  ⟨World.ownsRow_made w _ _ (Nat.le_refl _) hm (by rw [zrow_size, Nat.mul_one]), ⟨F, hr.alloc _, fun _ _ _ _ => rfl, fun i hi => by omega, fun _ _ _ => rfl⟩, (Below.refl _ _).alloc (by omega) _⟩

theorem Owning.skip {w wr : World} {c : DD} {cb : Nat} {F : Nat → Value} {k : Nat} (h : Owning w wr c cb F k) (hk : k < c.n) (hF : F (k * 5 + 4) = c.headOf k) (hn : (c.da k).isNone = true) (hl : c.dl k = 0) (hc0 : c.dc k = 0) : Owning w wr c cb F (k + 1) := by
  have h1 : sumTo c.dl (k + 1) = sumTo c.dl k := by show sumTo c.dl k + c.dl k = _; omega
  have h2 : bytesTo c (k + 1) = bytesTo c k := by
    show bytesTo c k ++ ent c k = _
    rw [List.eq_nil_of_length_eq_zero (l := ent c k) (by rw [ent_length, hl]), List.append_nil]
  obtain ⟨F', f1, f2, f3, f4⟩ := h.chain
  have hdc : c.da k = none := by simpa using hn
  refine ⟨by rw [h1, h2]; exact h.own, ⟨F', f1, f2, fun i hi => ?_, fun i hi => f4 i (by omega)⟩, h.below⟩
  by_cases e : i = k
  · subst e
    rw [f4 _ (Nat.le_refl _) hk, hF, headOf_eq, headOf_eq, (owned_nil c _ _ hn).1, (owned_nil c _ _ hn).2, hdc, hc0]
    rfl
  · exact f3 i (by omega)

theorem grown_setCell (w : World) (a : Addr) (v : Value) : w.grownBy (w.setCell a v) (some a.block) :=
  ⟨rfl, rfl, rfl, by simp [World.setCell], fun k _ hne => Below.heap_setCell _ _ _ _ (fun e => hne (by rw [e]))⟩

theorem Owning.put {w wr w1 : World} {c : DD} {cb : Nat} {F : Nat → Value} {k : Nat} (h : Owning w wr c cb F k) (hcb : cb < w.heap.size)
    (hown : w1.ownsRow w.heap.size 5 1 (.slice (some ⟨w.heap.size, 0, none⟩) (sumTo c.dl k + c.dl k) (sumTo c.dl c.n)) (sumTo c.dl k + c.dl k) (bytesTo c k ++ ent c k)) (hg : wr.grownBy w1 (some w.heap.size)) (hs : w.heap.size ≤ wr.heap.size) :
    Owning w (w1.setCell ⟨cb, k * 5 + 4, none⟩ ((c.owned w.heap.size).headOf k)) c cb F (k + 1) := by
  obtain ⟨F', f1, f2, f3, f4⟩ := h.chain
  refine ⟨hown.kept (grown_setCell _ _ _) (.inr (fun e => by have : w.heap.size = cb := Option.some.inj e; omega)), ⟨_, (f1.of_block (hg.block cb (by omega) (fun e => by have := Option.some.inj e; omega))).set _ _, fun i hi q hq => ?_, fun i hi => ?_, fun i hi hi' => ?_⟩, ?_⟩
  · have : i * 5 + q ≠ k * 5 + 4 := by omega
    simp only [this, if_false]
    exact f2 i hi q hq
  · by_cases e : i = k
    · subst e; simp
    · have : i * 5 + 4 ≠ k * 5 + 4 := by omega
      simp only [this, if_false]
      exact f3 i (by omega)
  · have : i * 5 + 4 ≠ k * 5 + 4 := by omega
    simp only [this, if_false]
    exact f4 i (by omega) hi'
  · have hb := h.below
    refine Below.setCell ⟨hg.os.trans hb.os, hg.tape.trans hb.tape, hg.output.trans hb.output, Nat.le_trans hb.size hg.size, fun b hlt => (hg.block b (by omega) (fun e => by have := Option.some.inj e; omega)).trans (hb.block b hlt)⟩ (Nat.le_refl _) _

theorem Try.elem30 : Try.prog.elem 30 = 5 := by kernel_rfl
theorem Try.cells5 : Try.prog.cellsOf 5 = 1 := by kernel_rfl

theorem slice_own (wx : World) (c : DD) (g k : Nat) (hs1 : sumTo c.dl k + c.dl k ≤ sumTo c.dl c.n) (hn : (c.da k).isNone = false) :
    (Instr.slice 30 (.slice (some ⟨g, 0, none⟩) (sumTo c.dl k + c.dl k) (sumTo c.dl c.n)) (some (.int .i64 ((sumTo c.dl k : Nat) : Int))) (some (.int .i64 ((sumTo c.dl k : Nat) + (c.dl k : Nat) : Int))) (some (.int .i64 ((sumTo c.dl k : Nat) + (c.dl k : Nat) : Int)))).run Try.prog wx = .ok ((c.owned g).headOf k) wx := by
  obtain ⟨i0, hi0, hz0, hz1, hz2⟩ := info_parts Try.info5
  have ht : Try.prog.underlying 30 = some (.slice (Try.prog.elem 30)) := by rw [Try.elem30]; exact Try.underlying30
  rw [run_slice_lhm (P := Try.prog) (w := wx) 30 _ _ _ ht .i64 .i64 .i64 _ _ _ (by omega) (by omega) (by omega) (by omega), Try.elem30, run_sizeOf (w := wx) (h := hi0), Try.cells5]
  have e1 : ((sumTo c.dl k : Nat) : Int).toNat = sumTo c.dl k := Int.toNat_natCast _
  have e2 : ((sumTo c.dl k : Nat) + (c.dl k : Nat) : Int).toNat = sumTo c.dl k + c.dl k := by omega
  rw [e1, e2, headOf_eq, (owned_some c g k hn).1, (owned_some c g k hn).2]
  show Result.ok (sliced _ _ _ _ _) wx = _
  unfold sliced
  have e3 : sumTo c.dl k + c.dl k - sumTo c.dl k = c.dl k := by omega
  rw [e3]
  by_cases h : c.dl k = 0
  · rw [if_pos (by omega), if_pos h]
    rfl
  · rw [if_neg (by omega), if_neg h]
    simp only [Option.map_some, Addr.add_lit, Nat.zero_add, Nat.mul_one]
    rfl

/-- What ownData leaves. -/
def SaysOwn (w w' : World) (c : DD) (cb : Nat) (F : Nat → Value) (e : Ending) : Prop := e = .returned (.slice (some ⟨cb, 0, none⟩) c.n c.n) ∧ Owning w w' c cb F c.n

set_option maxHeartbeats 1000000 in
theorem ownData (w : World) (c : DD) (cb : Nat) (F : Nat → Value) (hr : w.rowIs cb 55 (c.n * 5) F) (hcb : cb < w.heap.size) (hF : ∀ i, i < c.n → F (i * 5 + 4) = c.headOf i)
    (hat : ∀ i, i < c.n → 0 < c.dl i → c.da i = some ⟨c.db i, c.off i, none⟩) (hnil : ∀ i, i < c.n → c.da i = none → c.dl i = 0 ∧ c.dc i = 0) (hval : ∀ i, i < c.n → Iv w .u8 (c.db i) (c.off i) (c.dl i) (c.dv i)) (hlow : ∀ i, i < c.n → 0 < c.dl i → c.db i < cb) (hn : c.n ≤ 65536) (hN : sumTo c.dl c.n ≤ 1048576) :
    Calls Try.prog 22 #[.slice (some ⟨cb, 0, none⟩) c.n c.n] w fun e w' => SaysOwn w w' c cb F e := by
  have HAT := hid hat
  have HNIL := hid hnil
  have HVAL := hid hval
  have HLOW := hid hlow
  have HF := hid hF
  have HR := hid hr
  clear hat hnil hval hlow hF hr
  have hmk : ∀ wx : World, (Instr.makeSlice 30 (.int .i64 0) (.int .i64 ((sumTo c.dl c.n : Nat) : Int))).run Try.prog wx = .ok (.slice (some ⟨wx.heap.size, 0, none⟩) 0 (sumTo c.dl c.n)) (wx.alloc (.cells (zrow (.int .u8 0) (sumTo c.dl c.n * 1)) 5)) := mk_any 30 5 1 1 (.int .u8 0) Try.underlying30 Try.info5 0 (sumTo c.dl c.n) (Nat.zero_le _) (by omega) (by omega)
  rw [Nat.mul_one] at hmk
  obtain ⟨i0, hi0, hz0, hz1, hz2⟩ := info_parts Try.info5
  go_enter Try.func22, Try.ntmps22
  go_wp2
  go_loop [3, 10] (fun s i => ∃ k : Nat, k ≤ c.n ∧ i = .int .i64 k ∧ s = .int .i64 ((sumTo c.dl k : Nat) : Int)) (fun _ i => c.n - (intOf i).toNat)
  case atStart => exact ⟨0, Nat.zero_le _, rfl, rfl⟩
  case round =>
    obtain ⟨k, hk, rfl, rfl⟩ := hrel
    by_cases hlt : k < c.n
    · have c1 := HR.out.cell (i := k * 5 + 4) (by omega)
      rw [HF.out k hlt, headOf_eq] at c1
      have hs1 : sumTo c.dl k + c.dl k ≤ sumTo c.dl c.n := le_sumTo c.dl hlt
      clear hmk
      go_wp2
      go_round
      case rel => exact ⟨k + 1, by omega, by go_num, by show _ = Value.int .i64 ((sumTo c.dl k + c.dl k : Nat) : Int); go_num⟩
      case measure => simp [intOf]; omega
    · obtain rfl : k = c.n := by omega
      go_wp2
      go_loopw [5, 26] (fun s i wr => ∃ k : Nat, k ≤ c.n ∧ i = .int .i64 k ∧ s = .slice (some ⟨w.heap.size, 0, none⟩) (sumTo c.dl k) (sumTo c.dl c.n) ∧ Owning w wr c cb F k) (fun _ i _ => c.n - (intOf i).toNat)
      case atStart => exact ⟨0, Nat.zero_le _, rfl, rfl, Owning.start HR.out hcb (by unfold maxLen; omega) _⟩
      case round =>
        clear hmk
        obtain ⟨k, hk, rfl, rfl, hown⟩ := hrel
        have HO := hid hown
        have hbel := hown.below
        have hsz := hbel.size
        by_cases hlt : k < c.n
        · obtain ⟨F', f1, f2, f3, f4⟩ := hown.chain
          have c1 := f1.cell (i := k * 5 + 4) (by omega)
          have c2 := f1.frozen (k * 5 + 4)
          rw [f4 k (Nat.le_refl _) hlt, HF.out k hlt, headOf_eq] at c1
          have hne := fun wx => run_neq_slice_nil_any (P := Try.prog) wx 30 5 (c.da k) (c.dl k) (c.dc k) 0 0 Try.underlying30
          have hs1 : sumTo c.dl k + c.dl k ≤ sumTo c.dl c.n := le_sumTo c.dl hlt
          have HROW := hid f1
          clear f1 f2 f3 f4 hown
          cases hnk : (c.da k).isNone with
          | true =>
            rw [hnk] at hne
            simp only [Bool.not_true] at hne
            have HN := hid hnk
            have h0 := HNIL.out k hlt (by simpa using hnk)
            have H0 := hid h0
            clear hnk h0 hbel
            go_wp2
            go_roundw
            case rel => exact ⟨k + 1, by omega, by go_num, by show _ = Value.slice _ (sumTo c.dl k + c.dl k) _; rw [H0.out.1]; rfl, HO.out.skip hlt (HF.out k hlt) HN.out H0.out.1 H0.out.2⟩
            case measure => simp [intOf]; omega
          | false =>
            rw [hnk] at hne
            simp only [Bool.not_false] at hne
            have HN := hid hnk
            have hcells : ∀ ad, c.da k = some ad → ∀ j u, (ent c k)[j]? = some u → wr.cell? (ad.add j) = some u := fun ad had j u hu => by
              have hj : j < c.dl k := by
                have := (List.getElem?_eq_some_iff.1 hu).1
                rwa [ent_length] at this
              have h1 := HAT.out k hlt (by omega)
              rw [h1] at had
              obtain rfl := Option.some.inj had
              have hu' : u = .int .u8 (c.dv k j) := by
                simp only [ent, List.getElem?_map, List.getElem?_range, hj] at hu
                simpa using hu.symm
              have hv := HVAL.out k hlt j hj
              have hb := HLOW.out k hlt (by omega)
              rw [Addr.add_lit, hu', ← hv]
              exact World.cell?_of_block (hbel.block _ hb)
            have HCELLS := hid hcells
            have hslice : ∀ wx, (Instr.slice 30 (.slice (some ⟨w.heap.size, 0, none⟩) (sumTo c.dl k + c.dl k) (sumTo c.dl c.n)) (some (.int .i64 ((sumTo c.dl k : Nat) : Int))) (some (.int .i64 ((sumTo c.dl k : Nat) + (c.dl k : Nat) : Int))) (some (.int .i64 ((sumTo c.dl k : Nat) + (c.dl k : Nat) : Int)))).run Try.prog wx = .ok (.slice ((c.owned w.heap.size).da k) (c.dl k) ((c.owned w.heap.size).dc k)) wx := fun wx => slice_own wx c _ k hs1 hnk
            clear hnk hbel hcells
            go_wp2_with (at_builtin; refine wpList_append_fits_any _ rfl (.tmp 37) (.tmp 42) 30 rfl w.heap.size 5 i0 1 Try.underlying30 hi0 hz1 w.heap.size (sumTo c.dl k) (sumTo c.dl c.n) (bytesTo c k) (by rfl) HO.out.own (c.da k) (c.dl k) (c.dc k) (ent c k) (by rfl) (by rw [ent_length, Nat.mul_one]) (HNIL.out k hlt) HCELLS.out (by intro u hu; simp only [ent, List.mem_map] at hu; obtain ⟨j, _, rfl⟩ := hu; rfl) hs1 ?_; intro w1 hown1 hgrow; have f9 := HROW.out.of_block (hgrow.block cb (by omega) (fun e => by have := Option.some.inj e; omega)); have d1 := f9.cell (i := k * 5 + 4) (by omega); have d2 := f9.frozen (k * 5 + 4); have HG := hid hgrow; have HOWN1 := hid hown1; clear hgrow hown1 f9 c1 c2)
            go_roundw
            case rel => exact ⟨k + 1, by omega, by go_num, rfl, HO.out.put hcb HOWN1.out HG.out hsz⟩
            case measure => simp [intOf]; omega
        · obtain rfl : k = c.n := by omega
          clear hown hbel
          go_wp2
          go_ret
          exact ⟨rfl, HO.out⟩
end Go.Proofs.Qxb6605551a
