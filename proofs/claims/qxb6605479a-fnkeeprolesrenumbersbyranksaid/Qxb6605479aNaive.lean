/-
  zzNaiveGrow: sweeps over the rules in rounds reach the least closed superset.
-/
import Derived.Test.Qxb6605479aEnabled
namespace Go.Proofs.Qxb6605479a
open Go.RowKit

/-- WITHIN A SWEEP from X on: so far k rules, now Y. -/
structure Sweep (n : Nat) (adm : Option (Nat → Bool)) (rule : Nat → Plain.Rule) (R : Nat) (H X Y : Nat → Bool) (ch : Bool) (k : Nat) : Prop where
  sup : Plain.Sup n H Y
  reached : Plain.Reached n adm rule R H Y
  same : ch = false → Y = X ∧ ∀ i, i < k → Plain.enabled adm X (rule i) = true → X (rule i).ro = true
  more : ch = true → Plain.held X n + 1 ≤ Plain.held Y n

theorem Sweep.start {n : Nat} {adm : Option (Nat → Bool)} {rule : Nat → Plain.Rule} {R : Nat} {H X : Nat → Bool} (h1 : Plain.Sup n H X) (h2 : Plain.Reached n adm rule R H X) : Sweep n adm rule R H X X false 0 :=
  ⟨h1, h2, fun _ => ⟨rfl, fun i hi => by omega⟩, (fun h => by cases h)⟩

/-- The rule gives nothing new, or cannot fire. -/
theorem Sweep.skip {n : Nat} {adm : Option (Nat → Bool)} {rule : Nat → Plain.Rule} {R : Nat} {H X Y : Nat → Bool} {ch : Bool} {k : Nat} (h : Sweep n adm rule R H X Y ch k) (hk : Plain.enabled adm Y (rule k) = true → Y (rule k).ro = true) : Sweep n adm rule R H X Y ch (k + 1) := by
  refine ⟨h.sup, h.reached, fun hc => ?_, h.more⟩
  obtain ⟨e, hall⟩ := h.same hc
  subst e
  refine ⟨rfl, fun i hi => ?_⟩
  by_cases e : i = k
  · subst e; exact hk
  · exact hall i (by omega)

/-- The rule fires. -/
theorem Sweep.fire {n : Nat} {adm : Option (Nat → Bool)} {rule : Nat → Plain.Rule} {R : Nat} {H X Y : Nat → Bool} {ch : Bool} {k : Nat} (h : Sweep n adm rule R H X Y ch k) (hr : Plain.InRange n rule R) (hk : k < R) (he : Plain.enabled adm Y (rule k) = true) (hn : Y (rule k).ro = false) : Sweep n adm rule R H X (Plain.put Y (rule k).ro) true (k + 1) := by
  have hput := Plain.held_put Y (rule k).ro hn n (hr k hk).2.1
  refine ⟨h.sup.trans (Plain.put_sup n Y _), h.reached.fire hr hk he, (fun hc => by cases hc), fun _ => ?_⟩
  rw [hput]
  cases ch with
  | true => have := h.more rfl; omega
  | false => obtain ⟨e, _⟩ := h.same rfl; subst e; omega

/-- A sweep that changes nothing: the least closed superset is there. -/
theorem Sweep.done {n : Nat} {adm : Option (Nat → Bool)} {rule : Nat → Plain.Rule} {R : Nat} {H X Y : Nat → Bool} (h : Sweep n adm rule R H X Y false R) : Plain.IsLfp n adm rule R H Y := by
  obtain ⟨e, hall⟩ := h.same rfl
  subst e
  exact ⟨h.sup, hall, h.reached⟩

theorem put_row {w : World} {b n : Nat} {Y : Nat → Bool} (h : w.rowIs b 4 n (fun i => .bool (Y i))) (r : Nat) : (w.setCell ⟨b, r, none⟩ (.bool true)).rowIs b 4 n (fun i => .bool (Plain.put Y r i)) := by
  refine (h.set r (.bool true)).congr fun j hj => ?_
  by_cases e : j = r
  · subst e; simp [Plain.put]
  · simp [Plain.put, e]

theorem bv_of_row {w : World} {b n : Nat} {B : Nat → Bool} (h : w.rowIs b 4 n (fun i => .bool (B i))) : Bv w b 0 n B := fun i hi => by
  have := h.cell hi
  simpa using this

theorem below_of {B : Nat} {w w1 w2 : World} (h : Below B w w1) (hB : B ≤ w1.heap.size) (h2 : Below w1.heap.size w1 w2) : Below B w w2 := h.trans (h2.mono hB)

/-- What zzNaiveGrow hands back. -/
def SaysNaive (w w' : World) (n : Nat) (adm : Option (Nat → Bool)) (c : CA) (H : Nat → Bool) (e : Ending) : Prop :=
  ∃ X, e = .returned (.slice (some ⟨w.heap.size, 0, none⟩) n n) ∧ Plain.IsLfp n adm (ruleOf c) c.n H X ∧ w'.rowIs w.heap.size 4 n (fun i => .bool (X i)) ∧ Below w.heap.size w w'

set_option maxHeartbeats 2000000 in
theorem naive14 (w : World) (ra : Option Addr) (rb ro rcap : Nat) (c : CA) (hRA : 0 < c.n → ra = some ⟨rb, ro, none⟩) (hv : CAv w rb ro c) (n : Nat) (hin : CAin c n)
    (ha : Option Addr) (hb ho hcap : Nat) (H : Nat → Bool) (hHA : 0 < n → ha = some ⟨hb, ho, none⟩) (hH : Bv w hb ho n H)
    (aa : Option Addr) (an acap : Nat) (adm : Option (Nat → Bool)) (hadm : AdmV w aa an acap n adm) (hp : ∀ i, i < c.n → c.pl i ≤ 1048576) (hn : n ≤ 65536) (hR : c.n ≤ 65536) :
    Calls Try.prog 14 #[.slice ra c.n rcap, .slice ha n hcap, .slice aa an acap] w fun e w' => SaysNaive w w' n adm c H e := by
  have hmk := run_make_row' (P := Try.prog) 23 4 (.bool false) 1 Try.underlying23 Try.info4 rfl .i64 .i64 n (by omega) (by omega)
  have hir := inRange_of hin
  have HV := hid hv
  have HH := hid hH
  have HADM := hid hadm
  have HIN := hid hin
  have HP := hid hp
  have HIR := hid hir
  clear hv hH hadm hin hp hir
  go_enter Try.func14, Try.ntmps14
  go_wp2
  go_loopw [8] (fun i wr => ∃ k : Nat, k ≤ n ∧ i = .int .i64 k ∧ wr.rowIs w.heap.size 4 n (fun j => if j < k then .bool (H j) else .bool false) ∧ Below w.heap.size w wr) (fun i _ => n - (intOf i).toNat)
  case atStart => exact ⟨0, Nat.zero_le _, rfl, (World.rowIs_made w (.bool false) n 4).congr (fun i _ => by simp), (Below.refl _ _).alloc (Nat.le_refl _) _⟩
  case round =>
    clear hmk
    obtain ⟨k, hk, rfl, hrow, hbel⟩ := hrel
    have HR := hid hrow
    have HB := hid hbel
    by_cases hlt : k < n
    · cases hHA (by omega)
      have c1 := cell_below hbel (HH.out k hlt)
      have c2 := hrow.cell hlt
      have c3 := hrow.frozen k
      clear hrow hbel HV HH HADM HIN HP HIR
      simp only [Nat.lt_irrefl, if_false] at c2
      go_wp2
      go_roundw
      case rel =>
        refine ⟨k + 1, by omega, by go_num, (HR.out.set k (.bool (H k))).congr (fun j hj => ?_), HB.out.setCell (Nat.le_refl _) _⟩
        by_cases e : j = k
        · subst e; simp
        · have : (j < k + 1) ↔ (j < k) := by omega
          simp [e, this]
      case measure => simp [intOf]; omega
    · obtain rfl : n = k := by omega
      have hrow2 := hid (hrow.congr (g := fun j => .bool (H j)) (fun j hj => by simp [hj]))
      clear hrow hbel HH HR
      go_wp2
      go_loopw [9] (fun i wr => ∃ p : Nat, p ≤ n + 1 ∧ i = .int .i64 p ∧ ∃ X, wr.rowIs w.heap.size 4 n (fun j => .bool (X j)) ∧ Below w.heap.size w wr ∧ w.heap.size < wr.heap.size ∧ Plain.Sup n H X ∧ Plain.Reached n adm (ruleOf c) c.n H X ∧ p ≤ Plain.held X n) (fun i _ => n + 1 - (intOf i).toNat)
      case atStart => exact ⟨0, Nat.zero_le _, rfl, H, hrow2.out, HB.out, hrow2.out.lt, fun _ _ h => h, Plain.Reached.self _ _ _ _ _, Nat.zero_le _⟩
      case round =>
        clear hrow2 HB
        obtain ⟨p, hp1, rfl, X, hX, hbel, hlt0, hsup, hrea, hpl⟩ := hrel
        have hpn : p ≤ n := Nat.le_trans hpl (Plain.held_le X n)
        have HX := hid hX
        have HB := hid hbel
        have HS := hid hsup
        have HRE := hid hrea
        have HPL := hid hpl
        have HLT := hid hlt0
        clear hX hbel hsup hrea hpl hlt0
        go_wp2
        go_loopw [10, 11] (fun chv i wi => ∃ k : Nat, k ≤ c.n ∧ i = .int .i64 k ∧ ∃ ch : Bool, chv = .bool ch ∧ ∃ Y, wi.rowIs w.heap.size 4 n (fun j => .bool (Y j)) ∧ Below w.heap.size w wi ∧ w.heap.size < wi.heap.size ∧ Sweep n adm (ruleOf c) c.n H X Y ch k) (fun _ i _ => c.n - (intOf i).toNat)
        case atStart => exact ⟨0, Nat.zero_le _, rfl, false, rfl, X, HX.out, HB.out, HLT.out, Sweep.start HS.out HRE.out⟩
        case round =>
          clear HX HB HS HRE HLT
          obtain ⟨k, hk, rfl, ch, rfl, Y, hY, hbel, hlt0, hsw⟩ := hrel
          by_cases hlt : k < c.n
          · cases hRA (by omega)
            have hvr := HV.out.below (hbel.mono (Nat.le_refl _))
            have c1 := cell_below hbel (HV.out.ad k hlt)
            have c2 := cell_below hbel (HV.out.pre k hlt)
            have c3 := cell_below hbel (HV.out.ro k hlt)
            obtain ⟨⟨g1, g2⟩, ⟨g3, g4⟩, _⟩ := HIN.out k hlt
            obtain ⟨r, hr⟩ : ∃ r : Nat, c.ro k = r := ⟨(c.ro k).toNat, by omega⟩
            have hrn : r < n := by omega
            have hro : (ruleOf c k).ro = r := by show (c.ro k).toNat = r; omega
            rw [hr] at c3
            have c4 := hY.cell hrn
            have c5 := hY.frozen r
            have HRO := hid hro
            have HY := hid hY
            have HB := hid hbel
            have HLT := hid hlt0
            have HSW := hid hsw
            have HVR := hid hvr
            clear hr hro hY hbel hlt0 hsw hvr g1 g2 g3 g4
            cases ey : Y r with
            | true =>
              simp only [ey] at c4
              have EY := hid ey
              clear ey
              go_wp2
              go_roundw
              case rel => exact ⟨k + 1, by omega, by go_num, ch, rfl, Y, HY.out, HB.out, HLT.out, HSW.out.skip (fun _ => by rw [HRO.out]; exact EY.out)⟩
              case measure => simp [intOf]; omega
            | false =>
              simp only [ey] at c4
              have EY := hid ey
              clear ey
              have hpk := HP.out k hlt
              cases en : Plain.enabled adm Y (ruleOf c k) with
              | false =>
                have HC := hid (enabled20 wr c rb ro k hlt HVR.out n HIN.out Y w.heap.size n (bv_of_row HY.out) aa an acap adm (HADM.out.below (HB.out.mono (Nat.le_refl _))) hpk r)
                rw [en] at HC
                have EN := hid en
                clear en
                go_wp2_with (go_at_call 20; refine HC.out.mono ?_; rintro e w1 ⟨rfl, hb1⟩)
                go_roundw
                case rel => exact ⟨k + 1, by omega, by go_num, ch, rfl, Y, row_below HY.out hb1, below_of HB.out (Nat.le_of_lt HLT.out) hb1, Nat.lt_of_lt_of_le HLT.out hb1.size, HSW.out.skip (fun h => by rw [EN.out] at h; cases h)⟩
                case measure => simp [intOf]; omega
              | true =>
                have HC := hid (enabled20 wr c rb ro k hlt HVR.out n HIN.out Y w.heap.size n (bv_of_row HY.out) aa an acap adm (HADM.out.below (HB.out.mono (Nat.le_refl _))) hpk r)
                rw [en] at HC
                have EN := hid en
                clear en
                go_wp2_with (go_at_call 20; refine HC.out.mono ?_; rintro e w1 ⟨rfl, hb1⟩; have c1' := cell_below hb1 c1; have c2' := cell_below hb1 c2; have c3' := cell_below hb1 c3; have c4' := cell_below hb1 c4; have c5' := (row_below HY.out hb1).frozen r; have HB1 := hid hb1; clear hb1)
                go_roundw
                case rel => exact ⟨k + 1, by omega, by go_num, true, rfl, Plain.put Y r, put_row (row_below HY.out HB1.out) r, (below_of HB.out (Nat.le_of_lt HLT.out) HB1.out).setCell (Nat.le_refl _) _, by have := HB1.out.size; have := HLT.out; simpa [World.setCell] using (by omega : w.heap.size < w1.heap.size), by have := HSW.out.fire HIR.out hlt EN.out (by rw [HRO.out]; exact EY.out); rw [HRO.out] at this; exact this⟩
                case measure => simp [intOf]; omega
          · obtain rfl : c.n = k := by omega
            have HY := hid hY
            have HB := hid hbel
            have HLT := hid hlt0
            have HSW := hid hsw
            clear hY hbel hlt0 hsw
            cases ch with
            | true =>
              go_wp2
              go_roundw
              case rel => exact ⟨p + 1, by omega, by go_num, Y, HY.out, HB.out, HLT.out, HSW.out.sup, HSW.out.reached, by have := HSW.out.more rfl; have := HPL.out; omega⟩
              case measure => simp [intOf]; omega
            | false =>
              go_wp2
              go_ret
              exact ⟨Y, rfl, HSW.out.done, HY.out, HB.out⟩
end Go.Proofs.Qxb6605479a
