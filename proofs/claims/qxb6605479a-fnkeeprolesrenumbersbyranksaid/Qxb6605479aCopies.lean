/-
  zzCloneCA and zzToCA: the rules, copied with their preconditions.
-/
import Derived.Test.Qxb6605479aDeep
import Derived.Deep.DrawnRows
namespace Go.Proofs.Qxb6605479a
open Go.RowKit

/-- What a copy of rules hands back. -/
def SaysCA (w w' : World) (t lt : Nat) (a : Option Addr) (c : CA) (e : Ending) : Prop :=
  (a = none ∧ w = w' ∧ e = .returned (.slice none 0 0)) ∨ (a ≠ none ∧ e = .returned (.slice (some ⟨w.heap.size, 0, none⟩) c.n c.n) ∧ Copied w w' t lt c c.n)

theorem RulesIs.zero {w : World} {b t n : Nat} {c c' : CA} {k : Nat} (h : RulesIs w b t n c k) : RulesIs w b t n c' 0 := by
  obtain ⟨f, hf, _⟩ := h
  exact ⟨f, hf, fun i hi => by omega⟩

set_option maxHeartbeats 2000000 in
theorem cloneCA (w : World) (a : Option Addr) (b o cap : Nat) (c : CA) (hA : 0 < c.n → a = some ⟨b, o, none⟩) (hnil : a = none → c.n = 0 ∧ cap = 0) (hv : CAv w b o c) (hn : c.n ≤ 65536) (hp : ∀ i, i < c.n → c.pl i ≤ 1048576) :
    Calls Try.prog 12 #[.slice a c.n cap] w fun e w' => SaysCA w w' 37 48 a c e := by
  have heq : ∀ wx, (binOp .eql 22 (.slice a c.n cap) (.slice none 0 0)).run Try.prog wx = .ok (.bool a.isNone) wx := fun wx => Lib.run_eql_slice_nil wx 22 37 a c.n cap 0 0 Try.underlying22
  cases a with
  | none =>
    obtain rfl := (hnil rfl).2
    simp only [Option.isNone_none] at heq
    clear hv hp hA hnil
    go_enter Try.func12, Try.ntmps12
    go_wp2
    go_ret
    exact .inl ⟨rfl, rfl, rfl⟩
  | some ad =>
    simp only [Option.isNone_some] at heq
    have hmk := mk_any 22 37 3 40 zRule Try.underlying22 Try.info37 c.n (by omega) (by omega)
    clear hnil
    go_enter Try.func12, Try.ntmps12
    go_wp2
    go_loopw [4] (fun i wr => ∃ k : Nat, k ≤ c.n ∧ i = .int .i64 k ∧ Copied w wr 37 48 c k) (fun i _ => c.n - (intOf i).toNat)
    case atStart => exact ⟨0, Nat.zero_le _, rfl, Copied.start w 37 48 c zRule⟩
    case round =>
      obtain ⟨k, hk, rfl, hcop⟩ := hrel
      have HC := hid hcop
      by_cases hlt : k < c.n
      · cases hA (by omega)
        have c1 := cell_below hcop.below (hv.ad k hlt)
        have c2 := cell_below hcop.below (hv.pre k hlt)
        have c3 := cell_below hcop.below (hv.ro k hlt)
        obtain ⟨f, hf, _⟩ := hcop.rules
        have d1 := hf.cell (i := k * 3) (by omega)
        have d2 := hf.cell (i := k * 3 + 1) (by omega)
        have d3 := hf.cell (i := k * 3 + 2) (by omega)
        have z1 := hf.frozen (k * 3)
        have z2 := hf.frozen (k * 3 + 1)
        have z3 := hf.frozen (k * 3 + 2)
        have hpk := hp k hlt
        have i1 : (0 : Int) ≤ (k : Int) := by omega
        have i2 : (k : Int) < (c.n : Int) := by omega
        have hne := fun wx => run_neq_slice_nil_any (P := Try.prog) wx 35 48 (c.pa k) (c.pl k) (c.pc k) 0 0 Try.underlying35
        cases hnk : (c.pa k).isNone with
        | true =>
          rw [hnk] at hne
          simp only [Bool.not_true] at hne
          have HL := hid (hv.nil k hlt (by simpa using hnk)).1
          have HN := hid hnk
          clear hf hcop hv hA hp hnk
          go_wp2
          go_big_region
          go_wp2
          go_roundw
          case rel => exact ⟨k + 1, by omega, by go_num, (HC.out.putNil HN.out HL.out).drew⟩
          case measure => simp [intOf]; omega
        | false =>
          rw [hnk] at hne
          simp only [Bool.not_false] at hne
          have hmk2 := mk_any 35 48 2 16 zLit Try.underlying35 Try.info48 (c.pl k) (by omega) (by omega)
          have HN := hid hnk
          have hsz := hcop.size
          have HV := hid hv
          clear hf hcop hA hp hnk hv
          go_wp2
          go_loopw [6] (fun j wi => ∃ q : Nat, q ≤ c.pl k ∧ j = .int .i64 q ∧ Copying w wi 37 48 c k q) (fun j _ => c.pl k - (intOf j).toNat)
          case atStart => exact ⟨0, Nat.zero_le _, rfl, HC.out.begin zLit⟩
          case round =>
            clear c1 c2 c3 d1 d2 d3 z1 z2 z3 hmk2 hmk hsz
            obtain ⟨q, hq, rfl, hcp⟩ := hrel
            have HP := hid hcp
            have c1 := cell_below hcp.below (HV.out.ad k hlt)
            have c2 := cell_below hcp.below (HV.out.pre k hlt)
            have c3 := cell_below hcp.below (HV.out.ro k hlt)
            by_cases hqt : q < c.pl k
            · have hpa := HV.out.at_ k hlt (by omega)
              rw [hpa] at c2
              have c4 := cell_below hcp.below (HV.out.lr k hlt q hqt)
              have c5 := cell_below hcp.below (HV.out.ln k hlt q hqt)
              obtain ⟨g, hg, _⟩ := hcp.now
              have d4 := hg.cell (i := q * 2) (by omega)
              have d5 := hg.cell (i := q * 2 + 1) (by omega)
              have z4 := hg.frozen (q * 2)
              have z5 := hg.frozen (q * 2 + 1)
              have j1 : (0 : Int) ≤ (q : Int) := by omega
              have j2 : (q : Int) < (c.pl k : Int) := by omega
              clear hg hcp HV hpa HC hne
              go_wp2
              go_roundw
              case rel => exact ⟨q + 1, by omega, by go_num, HP.out.put⟩
              case measure => simp [intOf]; omega
            · obtain rfl : q = c.pl k := by omega
              obtain ⟨f, hf, _⟩ := hcp.rules
              have d1 := hf.cell (i := k * 3) (by omega)
              have d2 := hf.cell (i := k * 3 + 1) (by omega)
              have d3 := hf.cell (i := k * 3 + 2) (by omega)
              have z1 := hf.frozen (k * 3)
              have z2 := hf.frozen (k * 3 + 1)
              have z3 := hf.frozen (k * 3 + 2)
              clear hf hcp HV HC hne
              go_wp2
              go_big_region
              go_wp2
              go_roundw
              case rel => exact ⟨k + 1, by omega, by go_num, (HP.out.finish HN.out).drew⟩
              case measure => simp [intOf]; omega
      · obtain rfl : k = c.n := by omega
        clear hcop hv hA hp hmk
        go_wp2
        go_ret
        exact .inr ⟨by simp, rfl, HC.out⟩

set_option maxHeartbeats 2000000 in
theorem toCA (w : World) (a : Option Addr) (b o cap : Nat) (c : CA) (hA : 0 < c.n → a = some ⟨b, o, none⟩) (hnil : a = none → c.n = 0 ∧ cap = 0) (hv : CAv w b o c) (hn : c.n ≤ 65536) (hp : ∀ i, i < c.n → c.pl i ≤ 1048576) :
    Calls Try.prog 16 #[.slice a c.n cap] w fun e w' => SaysCA w w' 72 73 a c e := by
  have heq : ∀ wx, (binOp .eql 22 (.slice a c.n cap) (.slice none 0 0)).run Try.prog wx = .ok (.bool a.isNone) wx := fun wx => Lib.run_eql_slice_nil wx 22 37 a c.n cap 0 0 Try.underlying22
  cases a with
  | none =>
    obtain rfl := (hnil rfl).2
    simp only [Option.isNone_none] at heq
    clear hv hp hA hnil
    go_enter Try.func16, Try.ntmps16
    go_wp2
    go_ret
    exact .inl ⟨rfl, rfl, rfl⟩
  | some ad =>
    simp only [Option.isNone_some] at heq
    have hmk := mk_any 31 72 3 40 zRule Try.underlying31 Try.info72 c.n (by omega) (by omega)
    clear hnil
    go_enter Try.func16, Try.ntmps16
    go_wp2
    go_loopw [4] (fun i wr => ∃ k : Nat, k ≤ c.n ∧ i = .int .i64 k ∧ Copied w wr 72 73 c k) (fun i _ => c.n - (intOf i).toNat)
    case atStart => exact ⟨0, Nat.zero_le _, rfl, Copied.start w 72 73 c zRule⟩
    case round =>
      obtain ⟨k, hk, rfl, hcop⟩ := hrel
      have HC := hid hcop
      by_cases hlt : k < c.n
      · cases hA (by omega)
        have c1 := cell_below hcop.below (hv.ad k hlt)
        have c2 := cell_below hcop.below (hv.pre k hlt)
        have c3 := cell_below hcop.below (hv.ro k hlt)
        obtain ⟨f, hf, _⟩ := hcop.rules
        have d1 := hf.cell (i := k * 3) (by omega)
        have d2 := hf.cell (i := k * 3 + 1) (by omega)
        have d3 := hf.cell (i := k * 3 + 2) (by omega)
        have z1 := hf.frozen (k * 3)
        have z2 := hf.frozen (k * 3 + 1)
        have z3 := hf.frozen (k * 3 + 2)
        have hpk := hp k hlt
        have i1 : (0 : Int) ≤ (k : Int) := by omega
        have i2 : (k : Int) < (c.n : Int) := by omega
        have hne := fun wx => run_neq_slice_nil_any (P := Try.prog) wx 35 48 (c.pa k) (c.pl k) (c.pc k) 0 0 Try.underlying35
        cases hnk : (c.pa k).isNone with
        | true =>
          rw [hnk] at hne
          simp only [Bool.not_true] at hne
          have HL := hid (hv.nil k hlt (by simpa using hnk)).1
          have HN := hid hnk
          clear hf hcop hv hA hp hnk
          go_wp2
          go_big_region
          go_wp2
          go_roundw
          case rel => exact ⟨k + 1, by omega, by go_num, (HC.out.putNil HN.out HL.out).drew⟩
          case measure => simp [intOf]; omega
        | false =>
          rw [hnk] at hne
          simp only [Bool.not_false] at hne
          have hmk2 := mk_any 70 73 2 16 zLit Try.underlying70 Try.info73 (c.pl k) (by omega) (by omega)
          have HN := hid hnk
          have hsz := hcop.size
          have HV := hid hv
          clear hf hcop hA hp hnk hv
          go_wp2
          go_loopw [6] (fun j wi => ∃ q : Nat, q ≤ c.pl k ∧ j = .int .i64 q ∧ Copying w wi 72 73 c k q) (fun j _ => c.pl k - (intOf j).toNat)
          case atStart => exact ⟨0, Nat.zero_le _, rfl, HC.out.begin zLit⟩
          case round =>
            clear c1 c2 c3 d1 d2 d3 z1 z2 z3 hmk2 hmk hsz
            obtain ⟨q, hq, rfl, hcp⟩ := hrel
            have HP := hid hcp
            have c1 := cell_below hcp.below (HV.out.ad k hlt)
            have c2 := cell_below hcp.below (HV.out.pre k hlt)
            have c3 := cell_below hcp.below (HV.out.ro k hlt)
            by_cases hqt : q < c.pl k
            · have hpa := HV.out.at_ k hlt (by omega)
              rw [hpa] at c2
              have c4 := cell_below hcp.below (HV.out.lr k hlt q hqt)
              have c5 := cell_below hcp.below (HV.out.ln k hlt q hqt)
              obtain ⟨g, hg, _⟩ := hcp.now
              have d4 := hg.cell (i := q * 2) (by omega)
              have d5 := hg.cell (i := q * 2 + 1) (by omega)
              have z4 := hg.frozen (q * 2)
              have z5 := hg.frozen (q * 2 + 1)
              have j1 : (0 : Int) ≤ (q : Int) := by omega
              have j2 : (q : Int) < (c.pl k : Int) := by omega
              clear hg hcp HV hpa HC hne
              go_wp2
              go_big_region
              go_wp2
              go_roundw
              case rel => exact ⟨q + 1, by omega, by go_num, HP.out.put.drew⟩
              case measure => simp [intOf]; omega
            · obtain rfl : q = c.pl k := by omega
              obtain ⟨f, hf, _⟩ := hcp.rules
              have d1 := hf.cell (i := k * 3) (by omega)
              have d2 := hf.cell (i := k * 3 + 1) (by omega)
              have d3 := hf.cell (i := k * 3 + 2) (by omega)
              have z1 := hf.frozen (k * 3)
              have z2 := hf.frozen (k * 3 + 1)
              have z3 := hf.frozen (k * 3 + 2)
              clear hf hcp HV HC hne
              go_wp2
              go_big_region
              go_wp2
              go_roundw
              case rel => exact ⟨k + 1, by omega, by go_num, (HP.out.finish HN.out).drew⟩
              case measure => simp [intOf]; omega
      · obtain rfl : k = c.n := by omega
        clear hcop hv hA hp hmk
        go_wp2
        go_ret
        exact .inr ⟨by simp, rfl, HC.out⟩

/-- The rules in reverse order, their preconditions where they were. -/
def CA.rev (c : CA) : CA :=
  { n := c.n
    ad := fun i => c.ad (c.n - 1 - i)
    ro := fun i => c.ro (c.n - 1 - i)
    pa := fun i => c.pa (c.n - 1 - i)
    pl := fun i => c.pl (c.n - 1 - i)
    pc := fun i => c.pc (c.n - 1 - i)
    pb := fun i => c.pb (c.n - 1 - i)
    po := fun i => c.po (c.n - 1 - i)
    lr := fun i => c.lr (c.n - 1 - i)
    ln := fun i => c.ln (c.n - 1 - i) }

/-- What zzRevCA hands back. -/
def SaysRev (w w' : World) (a : Option Addr) (c : CA) (e : Ending) : Prop :=
  (a = none ∧ w = w' ∧ e = .returned (.slice none 0 0)) ∨ (a ≠ none ∧ e = .returned (.slice (some ⟨w.heap.size, 0, none⟩) c.n c.n) ∧ RulesIs w' w.heap.size 37 c.n c.rev c.n ∧ Below w.heap.size w w')

theorem RulesIs.rev_view {w w' : World} {b o : Nat} {c : CA} (h : RulesIs w' w.heap.size 37 c.n c.rev c.n) (hb : Below w.heap.size w w') (hv : CAv w b o c) : CAv w' w.heap.size 0 c.rev := by
  obtain ⟨f, hf, ht⟩ := h
  have hr : ∀ i, i < c.rev.n → i < c.n ∧ c.n - 1 - i < c.n := fun i hi => ⟨hi, by have : i < c.n := hi; omega⟩
  refine ⟨fun i hi => ?_, fun i hi => ?_, fun i hi => ?_, fun i hi => hv.at_ _ (hr i hi).2, fun i hi => hv.nil _ (hr i hi).2, fun i hi j hj => cell_below hb (hv.lr _ (hr i hi).2 j hj), fun i hi j hj => cell_below hb (hv.ln _ (hr i hi).2 j hj)⟩
  · have hi' := (hr i hi).1
    rw [Nat.zero_add, hf.cell (by omega), (ht i hi').1]
  · have hi' := (hr i hi).1
    rw [Nat.zero_add, hf.cell (by omega), (ht i hi').2.1]
  · have hi' := (hr i hi).1
    rw [Nat.zero_add, hf.cell (by omega), (ht i hi').2.2]

set_option maxHeartbeats 1000000 in
theorem revCA (w : World) (a : Option Addr) (b o cap : Nat) (c : CA) (hA : 0 < c.n → a = some ⟨b, o, none⟩) (hnil : a = none → c.n = 0 ∧ cap = 0) (hv : CAv w b o c) (hn : c.n ≤ 65536) :
    Calls Try.prog 19 #[.slice a c.n cap] w fun e w' => SaysRev w w' a c e := by
  have heq : ∀ wx, (binOp .eql 22 (.slice a c.n cap) (.slice none 0 0)).run Try.prog wx = .ok (.bool a.isNone) wx := fun wx => Lib.run_eql_slice_nil wx 22 37 a c.n cap 0 0 Try.underlying22
  cases a with
  | none =>
    obtain rfl := (hnil rfl).2
    simp only [Option.isNone_none] at heq
    clear hv hA hnil
    go_enter Try.func19, Try.ntmps19
    go_wp2
    go_ret
    exact .inl ⟨rfl, rfl, rfl⟩
  | some ad =>
    simp only [Option.isNone_some] at heq
    have hmk := mk_any 22 37 3 40 zRule Try.underlying22 Try.info37 c.n (by omega) (by omega)
    clear hnil
    go_enter Try.func19, Try.ntmps19
    go_wp2
    go_loopw [4] (fun i wr => ∃ k : Nat, k ≤ c.n ∧ i = .int .i64 k ∧ RulesIs wr w.heap.size 37 c.n c.rev k ∧ Below w.heap.size w wr) (fun i _ => c.n - (intOf i).toNat)
    case atStart => exact ⟨0, Nat.zero_le _, rfl, (Copied.start w 37 48 c zRule).rules.zero, (Below.refl _ _).alloc (Nat.le_refl _) _⟩
    case round =>
      obtain ⟨k, hk, rfl, hr, hb⟩ := hrel
      have HR := hid hr
      have HB := hid hb
      by_cases hlt : k < c.n
      · cases hA (by omega)
        have hl2 : c.n - 1 - k < c.n := by omega
        have c1 := cell_below hb (hv.ad _ hl2)
        have c2 := cell_below hb (hv.pre _ hl2)
        have c3 := cell_below hb (hv.ro _ hl2)
        obtain ⟨f, hf, _⟩ := hr
        have d1 := hf.cell (i := k * 3) (by omega)
        have d2 := hf.cell (i := k * 3 + 1) (by omega)
        have d3 := hf.cell (i := k * 3 + 2) (by omega)
        have z1 := hf.frozen (k * 3)
        have z2 := hf.frozen (k * 3 + 1)
        have z3 := hf.frozen (k * 3 + 2)
        clear hf hb hv hA hmk
        go_wp2
        go_roundw
        case rel => exact ⟨k + 1, by omega, by go_num, HR.out.put _ _ _ rfl rfl rfl, ((HB.out.setCell (Nat.le_refl _) _).setCell (Nat.le_refl _) _).setCell (Nat.le_refl _) _⟩
        case measure => simp [intOf]; omega
      · obtain rfl : k = c.n := by omega
        clear hr hb hv hA hmk
        go_wp2
        go_ret
        exact .inr ⟨by simp, rfl, HR.out, HB.out⟩
end Go.Proofs.Qxb6605479a
