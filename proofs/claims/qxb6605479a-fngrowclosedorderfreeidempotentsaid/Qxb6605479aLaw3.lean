/-
  THE WALK of 'FnGrowIsLeastFixpoint'.
-/
import Derived.Test.Qxb6605479aTop
namespace Go.Proofs.Qxb6605479a
open Go.RowKit

/-- A copy of rules, nil or not, as the next call asks it. -/
theorem SaysCA.view {w w' : World} {t lt : Nat} {a : Option Addr} {c : CA} {e : Ending} (h : SaysCA w w' t lt a c e) (hnil : a = none → c.n = 0) (hl : ∀ i, i < c.n → c.pa i = none → c.pl i = 0) :
    ∃ a1 cap1, e = .returned (.slice a1 c.n cap1) ∧ (0 < c.n → a1 = some ⟨w.heap.size, 0, none⟩) ∧ (a1 = none → c.n = 0 ∧ cap1 = 0) ∧ CAv w' w.heap.size 0 (c.moved w.heap.size) ∧ Below w.heap.size w w' := by
  rcases h with ⟨rfl, rfl, rfl⟩ | ⟨_, rfl, hc⟩
  · have h0 := hnil rfl
    refine ⟨none, 0, by rw [h0], fun h => by omega, fun _ => ⟨h0, rfl⟩, ?_, Below.refl _ _⟩
    have hz : ∀ i, i < (c.moved w.heap.size).n → False := fun i hi => by have : i < c.n := hi; omega
    exact ⟨fun i hi => (hz i hi).elim, fun i hi => (hz i hi).elim, fun i hi => (hz i hi).elim, fun i hi => (hz i hi).elim, fun i hi => (hz i hi).elim, fun i hi => (hz i hi).elim, fun i hi => (hz i hi).elim⟩
  · exact ⟨_, _, rfl, fun _ => rfl, (fun h => by cases h), hc.view hl, hc.below⟩

theorem off_of {c : CA} {B hb : Nat} (h : hb < B) : Off (c.moved B) B hb := ⟨fun _ => by omega, fun i _ _ => by show B + 1 + cntTo c.pa i ≠ hb; omega⟩

theorem row_grown {w w' : World} {b t n : Nat} {f : Nat → Value} {row : Option Nat} (h : w.rowIs b t n f) (hg : w.grownBy w' row) (hne : row ≠ some b) : w'.rowIs b t n f := h.of_block (hg.block b h.lt (Ne.symm hne))

theorem below_grown {B : Nat} {w0 w w' : World} {row : Option Nat} (h : Below B w0 w) (hB : B ≤ w.heap.size) (hg : w.grownBy w' row) (hr : ∀ k, row = some k → B ≤ k) : Below B w0 w' := h.grown hg hB hr

theorem below_drewN {B : Nat} {w0 w : World} (h : Below B w0 w) (m : Nat) : Below B w0 (w.drewN m) := ⟨h.os, h.tape, h.output, h.size, h.block⟩

/-- WHAT THE LAWS ON grow ARE CALLED WITH. -/
structure In3 (w : World) (ra : Option Addr) (rb ro rcap : Nat) (c : CA) (ha : Option Addr) (hb ho n hcap : Nat) (H : Nat → Bool) (aa : Option Addr) (ab ao an acap : Nat) (A : Nat → Bool) : Prop where
  rA : 0 < c.n → ra = some ⟨rb, ro, none⟩
  rN : ra = none → c.n = 0 ∧ rcap = 0
  rv : CAv w rb ro c
  hA : 0 < n → ha = some ⟨hb, ho, none⟩
  hN : ha = none → n = 0 ∧ hcap = 0
  hv : Bv w hb ho n H
  aA : 0 < an → aa = some ⟨ab, ao, none⟩
  aN : aa = none → an = 0 ∧ acap = 0
  av : Bv w ab ao an A
  sR : c.n ≤ 9223372036854775807
  sP : ∀ i, i < c.n → c.pl i ≤ 9223372036854775807
  sH : n ≤ 9223372036854775807
  sA : an ≤ 9223372036854775807

set_option maxHeartbeats 8000000 in
theorem law3 (w : World) (ra : Option Addr) (rb ro rcap : Nat) (c : CA) (ha : Option Addr) (hb ho n hcap : Nat) (H : Nat → Bool) (aa : Option Addr) (ab ao an acap : Nat) (A : Nat → Bool) (I : In3 w ra rb ro rcap c ha hb ho n hcap H aa ab ao an acap A) :
    Calls Try.prog 3 #[.slice ra c.n rcap, .slice ha n hcap, .slice aa an acap] w fun e w' => e = .returned (.bool true) ∧ Below w.heap.size w w' := by
  have hneq : ∀ wx, (binOp .neq 23 (.slice aa an acap) (.slice none 0 0)).run Try.prog wx = .ok (.bool (!aa.isNone)) wx := fun wx => run_neq_slice_nil_any wx 23 4 aa an acap 0 0 Try.underlying23
  have sR := I.sR
  have sH := I.sH
  have sA := I.sA
  have J := hid I
  clear I
  go_enter Try.func3, Try.ntmps3
  go_wp2_with fail
  refine (bytes9 w ra rb ro rcap c ha aa n hcap an acap J.out.rA J.out.rv J.out.sR J.out.sP J.out.sH J.out.sA).mono ?_
  rintro e w' ⟨⟨r, rfl⟩, rfl⟩
  cases r with
  | false =>
    go_wp2_with fail
    go_ret
    exact ⟨rfl, Below.refl _ _⟩
  | true =>
    by_cases s1 : c.n ≤ 65536
    · by_cases s2 : n ≤ 65536
      · by_cases s3 : an ≤ 65536
        · have d1 : decide ((65536 : Int) < (c.n : Int)) = false := by simp; omega
          have d2 : decide ((65536 : Int) < (n : Int)) = false := by simp; omega
          have d3 : decide ((65536 : Int) < (an : Int)) = false := by simp; omega
          go_wp2_with fail
          refine (caBytes w ra rb ro rcap c J.out.rA J.out.rv J.out.sR J.out.sP).mono ?_
          rintro e w' ⟨⟨N, rfl, hN1, hN2⟩, rfl⟩
          by_cases s4 : N + n + an ≤ 1048576
          · have hN := hN2 (by omega)
            have d4 : decide ((1048576 : Int) < (N : Int) + (n : Int) + (an : Int)) = false := by simp; omega
            have HP := hid (fun i (hi : i < c.n) => show c.pl i ≤ 1048576 by have := sumTo_at c.pl hi; omega)
            have hS : askTo c c.n ≤ 2097152 := by rw [askTo_eq]; omega
            clear hN hN2 hN1
            cases hnl : aa.isNone with
            | true =>
              rw [hnl] at hneq
              simp only [Bool.not_true] at hneq
              have HLEN : Hid (aa ≠ none → n = an) := fun h => absurd (by simpa using hnl) h
              clear hnl
              go_wp2_with fail
              refine (caInRange w ra rb ro rcap c n J.out.rA J.out.rv s1 HP.out).mono ?_
              rintro e w' ⟨⟨r, rfl, hr⟩, rfl⟩
              cases r with
              | false =>
                go_wp2_with fail
                go_ret
                exact ⟨rfl, Below.refl _ _⟩
              | true =>
                have HIN := hid (hr rfl)
                clear hr
                go_wp2_with fail
                refine (cloneCA w ra rb ro rcap c J.out.rA J.out.rN J.out.rv s1 HP.out).mono ?_
                intro e w1 hs1
                obtain ⟨a1, cap1, rfl, hA1, hN1, hv1, hb1⟩ := hs1.view (fun e => (J.out.rN e).1) (fun i hi e => (J.out.rv.nil i hi e).1)
                have A1 := hid hA1
                have N1 := hid hN1
                have V1 := hid hv1
                have B1 := hid hb1
                clear hA1 hN1 hv1 hb1 hs1
                go_wp2_with fail
                refine (cloneBools w1 ha hb ho n hcap H J.out.hA J.out.hN (J.out.hv.below B1.out) s2).mono ?_
                rintro e w2 ⟨⟨v2, rfl, hO2⟩, hb2⟩
                have B2 := hid hb2
                obtain ⟨a2, b2, cap2, hv2, _, hA2, hN2, hB2, _⟩ := hO2.view
                subst hv2
                have A2 := hid hA2
                have N2 := hid hN2
                have V2 := hid hB2
                clear hO2 hb2 hA2 hN2 hB2
                go_wp2_with fail
                refine (cloneBools w2 aa ab ao an acap A J.out.aA J.out.aN ((J.out.av.below B1.out).below B2.out) s3).mono ?_
                rintro e w3 ⟨⟨v3, rfl, hO3⟩, hb3⟩
                have B3 := hid hb3
                obtain ⟨a3, b3, cap3, hv3, hnl3, hA3, hN3, hB3, _⟩ := hO3.view
                subst hv3
                have A3 := hid hA3
                have N3 := hid hN3
                have V3 := hid hB3
                have L3 := hid hnl3
                obtain ⟨a3', cap3', he3, hAD3, _, _⟩ := admV_of hO3 HLEN.out
                have E3 : a3' = a3 ∧ cap3' = cap3 := by cases he3; exact ⟨rfl, rfl⟩
                obtain ⟨rfl, rfl⟩ := E3
                have D3 := hid hAD3
                clear hO3 hb3 hA3 hN3 hB3 hnl3 he3 hAD3
                have HC4 : Hid (Calls Try.prog 14 #[.slice a1 c.n cap1, .slice a2 n cap2, .slice a3' an cap3'] w3 fun e w' => SaysNaive w3 w' n (admOf aa A) c H e) := naive14 w3 a1 w.heap.size 0 cap1 (c.moved w.heap.size) A1.out ((V1.out.below B2.out).below B3.out) n HIN.out a2 b2 0 cap2 H A2.out (V2.out.below B3.out) a3' an cap3' (admOf aa A) D3.out HP.out s2 s1
                go_wp2_with fail
                refine HC4.out.mono ?_
                rintro e w4 ⟨X, rfl, hlfp, hrow4, hb4⟩
                have B4 := hid hb4
                have L4 := hid hlfp
                have R4 := hid hrow4
                clear hb4 hlfp hrow4 HC4
                go_wp2_with fail
                refine (cloneBools w4 a2 b2 0 n cap2 H A2.out N2.out ((V2.out.below B3.out).below B4.out) s2).mono ?_
                rintro e w5 ⟨⟨v5, rfl, hO5⟩, hb5⟩
                have B5 := hid hb5
                obtain ⟨a5, b5, cap5, hv5, _, hA5, hN5, hB5, hlo5⟩ := hO5.view
                subst hv5
                have A5 := hid hA5
                have O5 := hid hO5
                have LO5 := hid hlo5
                clear hO5 hb5 hA5 hN5 hB5 hlo5
                have HC6 : Hid (Calls Try.prog 16 #[.slice a1 c.n cap1] w5 fun e w' => SaysCA w5 w' 72 73 a1 (c.moved w.heap.size) e) := toCA w5 a1 w.heap.size 0 cap1 (c.moved w.heap.size) A1.out N1.out ((((V1.out.below B2.out).below B3.out).below B4.out).below B5.out) s1 HP.out
                go_wp2_with fail
                refine HC6.out.mono ?_
                intro e w6 hs6
                obtain ⟨a6, cap6, rfl, hA6, hN6, hv6, hb6⟩ := hs6.view (fun e => (N1.out e).1) (fun i hi e => (V1.out.nil i hi e).1)
                have A6 := hid hA6
                have V6 := hid hv6
                have B6 := hid hb6
                clear hs6 hA6 hN6 hv6 hb6 HC6
                rw [show (c.moved w.heap.size).n = c.n from rfl]
                go_wp2_with fail
                refine (cloneBools w6 a3' b3 0 an cap3' A A3.out N3.out (((V3.out.below B4.out).below B5.out).below B6.out) s3).mono ?_
                rintro e w7 ⟨⟨v7, rfl, hO7⟩, hb7⟩
                have B7 := hid hb7
                rw [L3.out] at hO7
                obtain ⟨a7, cap7, hv7, hAD7, hlo7, _⟩ := admV_of hO7 HLEN.out
                subst hv7
                have D7 := hid hAD7
                have LO7 := hid hlo7
                clear hO7 hb7 hAD7 hlo7
                have z5 := B5.out.size
                have z6 := B6.out.size
                have z7 := B7.out.size
                have O7 := hid ((O5.out.below B6.out).below B7.out)
                have lt5 := hid (O5.out.ownLt)
                have HC8 : Hid (Calls Try.prog 15 #[.slice a6 c.n cap6, .slice a5 n cap5, .slice a7 an cap7] w7 fun e w' => e = .returned (.tuple #[]) ∧ ∃ X, Plain.IsLfp n (admOf aa A) (ruleOf c) c.n H X ∧ OwnB w4.heap.size w' a2.isNone n X (.slice a5 n cap5) ∧ w7.grownBy w' (Value.slice a5 n cap5).ownBlock) :=
                  zzgrow w7 a6 w5.heap.size 0 cap6 ((c.moved w.heap.size).moved w5.heap.size) A6.out (V6.out.below B7.out) n HIN.out w4.heap.size a2.isNone H (.slice a5 n cap5) O7.out (fun hb e => off_of (lt5.out hb e).2) a7 an cap7 (admOf aa A) D7.out (fun ab e e' => by have h1 := LO7.out ab e; have h2 := (lt5.out ab e').2; omega) HP.out hS s2 s1
                clear z5 z6 z7
                go_wp2_with fail
                refine HC8.out.mono ?_
                rintro e w8 ⟨rfl, X8, hlfp8, hO8, hg8⟩
                have L8 := hid hlfp8
                have G8 := hid hg8
                have hR8 := row_grown ((((R4.out).of_block (B5.out.block _ R4.out.lt)).of_block (B6.out.block _ (Nat.lt_of_lt_of_le R4.out.lt B5.out.size))).of_block (B7.out.block _ (Nat.lt_of_lt_of_le (Nat.lt_of_lt_of_le R4.out.lt B5.out.size) B6.out.size))) hg8 (fun e => by have := (lt5.out _ e).1; have := R4.out.lt; omega)
                obtain ⟨a8, b8, cap8, hv8, _, hA8, _, hB8, _⟩ := hO8.view
                have E8 : a5 = a8 := by cases hv8; rfl
                subst E8
                have V8 := hid hB8
                have A8 := hid hA8
                have R8 := hid hR8
                clear hlfp8 hO8 hg8 hR8 hv8 hA8 hB8 HC8
                go_wp2_with fail
                refine (sameBools w8 a5 (some ⟨w3.heap.size, 0, none⟩) b8 0 w3.heap.size 0 n cap5 n X8 X A8.out (fun _ => rfl) V8.out (bv_of_row R8.out) s2 (fun i hi => L8.out.unique L4.out i hi)).mono ?_
                rintro e w9 ⟨rfl, m, rfl⟩
                go_wp2_with fail
                go_ret
                have q1 := B1.out
                have q2 := below_of q1 q1.size B2.out
                have q3 := below_of q2 (Nat.le_trans q1.size B2.out.size) B3.out
                have q4 := below_of q3 (Nat.le_trans (Nat.le_trans q1.size B2.out.size) B3.out.size) B4.out
                have q5 := below_of q4 (by have := q4.size; exact this) B5.out
                have q6 := below_of q5 q5.size B6.out
                have q7 := below_of q6 q6.size B7.out
                have q8 := below_grown q7 q7.size G8.out (fun k e => by have := (lt5.out k e).1; have := q4.size; omega)
                exact ⟨rfl, below_drewN q8 m⟩
            | false =>
              rw [hnl] at hneq
              simp only [Bool.not_false] at hneq
              by_cases s5 : n = an
              · have d5 : ((an : Int) != (n : Int)) = false := by simp [s5]
                have HLEN : Hid (aa ≠ none → n = an) := fun _ => s5
                clear hnl s5
                go_wp2_with fail
                refine (caInRange w ra rb ro rcap c n J.out.rA J.out.rv s1 HP.out).mono ?_
                rintro e w' ⟨⟨r, rfl, hr⟩, rfl⟩
                cases r with
                | false =>
                  go_wp2_with fail
                  go_ret
                  exact ⟨rfl, Below.refl _ _⟩
                | true =>
                  have HIN := hid (hr rfl)
                  clear hr
                  go_wp2_with fail
                  refine (cloneCA w ra rb ro rcap c J.out.rA J.out.rN J.out.rv s1 HP.out).mono ?_
                  intro e w1 hs1
                  obtain ⟨a1, cap1, rfl, hA1, hN1, hv1, hb1⟩ := hs1.view (fun e => (J.out.rN e).1) (fun i hi e => (J.out.rv.nil i hi e).1)
                  have A1 := hid hA1
                  have N1 := hid hN1
                  have V1 := hid hv1
                  have B1 := hid hb1
                  clear hA1 hN1 hv1 hb1 hs1
                  go_wp2_with fail
                  refine (cloneBools w1 ha hb ho n hcap H J.out.hA J.out.hN (J.out.hv.below B1.out) s2).mono ?_
                  rintro e w2 ⟨⟨v2, rfl, hO2⟩, hb2⟩
                  have B2 := hid hb2
                  obtain ⟨a2, b2, cap2, hv2, _, hA2, hN2, hB2, _⟩ := hO2.view
                  subst hv2
                  have A2 := hid hA2
                  have N2 := hid hN2
                  have V2 := hid hB2
                  clear hO2 hb2 hA2 hN2 hB2
                  go_wp2_with fail
                  refine (cloneBools w2 aa ab ao an acap A J.out.aA J.out.aN ((J.out.av.below B1.out).below B2.out) s3).mono ?_
                  rintro e w3 ⟨⟨v3, rfl, hO3⟩, hb3⟩
                  have B3 := hid hb3
                  obtain ⟨a3, b3, cap3, hv3, hnl3, hA3, hN3, hB3, _⟩ := hO3.view
                  subst hv3
                  have A3 := hid hA3
                  have N3 := hid hN3
                  have V3 := hid hB3
                  have L3 := hid hnl3
                  obtain ⟨a3', cap3', he3, hAD3, _, _⟩ := admV_of hO3 HLEN.out
                  have E3 : a3' = a3 ∧ cap3' = cap3 := by cases he3; exact ⟨rfl, rfl⟩
                  obtain ⟨rfl, rfl⟩ := E3
                  have D3 := hid hAD3
                  clear hO3 hb3 hA3 hN3 hB3 hnl3 he3 hAD3
                  have HC4 : Hid (Calls Try.prog 14 #[.slice a1 c.n cap1, .slice a2 n cap2, .slice a3' an cap3'] w3 fun e w' => SaysNaive w3 w' n (admOf aa A) c H e) := naive14 w3 a1 w.heap.size 0 cap1 (c.moved w.heap.size) A1.out ((V1.out.below B2.out).below B3.out) n HIN.out a2 b2 0 cap2 H A2.out (V2.out.below B3.out) a3' an cap3' (admOf aa A) D3.out HP.out s2 s1
                  go_wp2_with fail
                  refine HC4.out.mono ?_
                  rintro e w4 ⟨X, rfl, hlfp, hrow4, hb4⟩
                  have B4 := hid hb4
                  have L4 := hid hlfp
                  have R4 := hid hrow4
                  clear hb4 hlfp hrow4 HC4
                  go_wp2_with fail
                  refine (cloneBools w4 a2 b2 0 n cap2 H A2.out N2.out ((V2.out.below B3.out).below B4.out) s2).mono ?_
                  rintro e w5 ⟨⟨v5, rfl, hO5⟩, hb5⟩
                  have B5 := hid hb5
                  obtain ⟨a5, b5, cap5, hv5, _, hA5, hN5, hB5, hlo5⟩ := hO5.view
                  subst hv5
                  have A5 := hid hA5
                  have O5 := hid hO5
                  have LO5 := hid hlo5
                  clear hO5 hb5 hA5 hN5 hB5 hlo5
                  have HC6 : Hid (Calls Try.prog 16 #[.slice a1 c.n cap1] w5 fun e w' => SaysCA w5 w' 72 73 a1 (c.moved w.heap.size) e) := toCA w5 a1 w.heap.size 0 cap1 (c.moved w.heap.size) A1.out N1.out ((((V1.out.below B2.out).below B3.out).below B4.out).below B5.out) s1 HP.out
                  go_wp2_with fail
                  refine HC6.out.mono ?_
                  intro e w6 hs6
                  obtain ⟨a6, cap6, rfl, hA6, hN6, hv6, hb6⟩ := hs6.view (fun e => (N1.out e).1) (fun i hi e => (V1.out.nil i hi e).1)
                  have A6 := hid hA6
                  have V6 := hid hv6
                  have B6 := hid hb6
                  clear hs6 hA6 hN6 hv6 hb6 HC6
                  rw [show (c.moved w.heap.size).n = c.n from rfl]
                  go_wp2_with fail
                  refine (cloneBools w6 a3' b3 0 an cap3' A A3.out N3.out (((V3.out.below B4.out).below B5.out).below B6.out) s3).mono ?_
                  rintro e w7 ⟨⟨v7, rfl, hO7⟩, hb7⟩
                  have B7 := hid hb7
                  rw [L3.out] at hO7
                  obtain ⟨a7, cap7, hv7, hAD7, hlo7, _⟩ := admV_of hO7 HLEN.out
                  subst hv7
                  have D7 := hid hAD7
                  have LO7 := hid hlo7
                  clear hO7 hb7 hAD7 hlo7
                  have z5 := B5.out.size
                  have z6 := B6.out.size
                  have z7 := B7.out.size
                  have O7 := hid ((O5.out.below B6.out).below B7.out)
                  have lt5 := hid (O5.out.ownLt)
                  have HC8 : Hid (Calls Try.prog 15 #[.slice a6 c.n cap6, .slice a5 n cap5, .slice a7 an cap7] w7 fun e w' => e = .returned (.tuple #[]) ∧ ∃ X, Plain.IsLfp n (admOf aa A) (ruleOf c) c.n H X ∧ OwnB w4.heap.size w' a2.isNone n X (.slice a5 n cap5) ∧ w7.grownBy w' (Value.slice a5 n cap5).ownBlock) :=
                    zzgrow w7 a6 w5.heap.size 0 cap6 ((c.moved w.heap.size).moved w5.heap.size) A6.out (V6.out.below B7.out) n HIN.out w4.heap.size a2.isNone H (.slice a5 n cap5) O7.out (fun hb e => off_of (lt5.out hb e).2) a7 an cap7 (admOf aa A) D7.out (fun ab e e' => by have h1 := LO7.out ab e; have h2 := (lt5.out ab e').2; omega) HP.out hS s2 s1
                  clear z5 z6 z7
                  go_wp2_with fail
                  refine HC8.out.mono ?_
                  rintro e w8 ⟨rfl, X8, hlfp8, hO8, hg8⟩
                  have L8 := hid hlfp8
                  have G8 := hid hg8
                  have hR8 := row_grown ((((R4.out).of_block (B5.out.block _ R4.out.lt)).of_block (B6.out.block _ (Nat.lt_of_lt_of_le R4.out.lt B5.out.size))).of_block (B7.out.block _ (Nat.lt_of_lt_of_le (Nat.lt_of_lt_of_le R4.out.lt B5.out.size) B6.out.size))) hg8 (fun e => by have := (lt5.out _ e).1; have := R4.out.lt; omega)
                  obtain ⟨a8, b8, cap8, hv8, _, hA8, _, hB8, _⟩ := hO8.view
                  have E8 : a5 = a8 := by cases hv8; rfl
                  subst E8
                  have V8 := hid hB8
                  have A8 := hid hA8
                  have R8 := hid hR8
                  clear hlfp8 hO8 hg8 hR8 hv8 hA8 hB8 HC8
                  go_wp2_with fail
                  refine (sameBools w8 a5 (some ⟨w3.heap.size, 0, none⟩) b8 0 w3.heap.size 0 n cap5 n X8 X A8.out (fun _ => rfl) V8.out (bv_of_row R8.out) s2 (fun i hi => L8.out.unique L4.out i hi)).mono ?_
                  rintro e w9 ⟨rfl, m, rfl⟩
                  go_wp2_with fail
                  go_ret
                  have q1 := B1.out
                  have q2 := below_of q1 q1.size B2.out
                  have q3 := below_of q2 (Nat.le_trans q1.size B2.out.size) B3.out
                  have q4 := below_of q3 (Nat.le_trans (Nat.le_trans q1.size B2.out.size) B3.out.size) B4.out
                  have q5 := below_of q4 (by have := q4.size; exact this) B5.out
                  have q6 := below_of q5 q5.size B6.out
                  have q7 := below_of q6 q6.size B7.out
                  have q8 := below_grown q7 q7.size G8.out (fun k e => by have := (lt5.out k e).1; have := q4.size; omega)
                  exact ⟨rfl, below_drewN q8 m⟩
              · have d5 : ((an : Int) != (n : Int)) = true := by simp; omega
                go_wp2_with fail
                go_ret
                exact ⟨rfl, Below.refl _ _⟩
          · go_wp2_with fail
            go_ret
            exact ⟨rfl, Below.refl _ _⟩
        · have d1 : decide ((65536 : Int) < (c.n : Int)) = false := by simp; omega
          have d2 : decide ((65536 : Int) < (n : Int)) = false := by simp; omega
          go_wp2_with fail
          go_ret
          exact ⟨rfl, Below.refl _ _⟩
      · have d1 : decide ((65536 : Int) < (c.n : Int)) = false := by simp; omega
        have d2 : decide ((65536 : Int) < (n : Int)) = true := by simp; omega
        go_wp2_with fail
        go_ret
        exact ⟨rfl, Below.refl _ _⟩
    · have d1 : decide ((65536 : Int) < (c.n : Int)) = true := by simp; omega
      go_wp2_with fail
      go_ret
      exact ⟨rfl, Below.refl _ _⟩
end Go.Proofs.Qxb6605479a
