/-
  THE LAW FnKeepRolesRenumbersByRank, walked.
-/
import Derived.Test.Qxb6605479aSeen
import Derived.Test.Qxb6605479aMaps
import Derived.Test.Qxb6605479aBytes
import Derived.Test.Qxb6605479aLoops2
import Derived.Test.Qxb6605479aLoops3
import Derived.Test.Qxb6605479aLoops5
import Derived.Test.Qxb6605479aKeep
namespace Go.Proofs.Qxb6605479a
open Go.RowKit

/-- Strings that are handed in. -/
structure SIn (w : World) (a : Option Addr) (b o n k : Nat) (S : Nat → ByteArray) : Prop where
  A : 0 < n → a = some ⟨b, o, none⟩
  N : a = none → n = 0 ∧ k = 0
  V : Sv w b o n S
  s : n ≤ 9223372036854775807
  p : ∀ i, i < n → (S i).size ≤ 9223372036854775807
/-- Pairs that are handed in. -/
structure PIn (w : World) (a : Option Addr) (b o n k : Nat) (X Y : Nat → Int) : Prop where
  A : 0 < n → a = some ⟨b, o, none⟩
  N : a = none → n = 0 ∧ k = 0
  V : Pv w b o n X Y
  s : n ≤ 9223372036854775807
/-- Rules that are handed in. -/
structure CIn (w : World) (a : Option Addr) (b o k : Nat) (c : CA) : Prop where
  A : 0 < c.n → a = some ⟨b, o, none⟩
  N : a = none → c.n = 0 ∧ k = 0
  V : CAv w b o c
  s : c.n ≤ 9223372036854775807
  p : ∀ i, i < c.n → c.pl i ≤ 9223372036854775807
/-- Bools that are handed in. -/
structure BIn (w : World) (a : Option Addr) (b o n k : Nat) (B : Nat → Bool) : Prop where
  A : 0 < n → a = some ⟨b, o, none⟩
  N : a = none → n = 0 ∧ k = 0
  V : Bv w b o n B
  s : n ≤ 9223372036854775807

theorem KSee.moved {w : World} {ob n : Nat} {S : Nat → ByteArray} {us : Value} {M : Nat → Bool} {un : Nat} {X Y : Nat → Int} {goal : Nat} {c : CA} {b1 b2 : Nat} {kn : Nat} {A R : Nat → Int} {r0 r2 r3 r4 : Option Addr} {g0 g2 g3 g4 k0 k2 k3 k4 : Nat} {pb : Nat → Nat} (h : KSee w ob n S us M un X Y goal ((c.moved b1).moved b2) kn A R r0 r2 r3 r4 g0 g2 g3 g4 k0 k2 k3 k4 pb) : KSee w ob n S us M un X Y goal c kn A R r0 r2 r3 r4 g0 g2 g3 g4 k0 k2 k3 k4 pb :=
  ⟨h.v0, h.v2, h.v3, h.v4, h.c1, h.c5, h.lr, h.ln⟩

theorem sumTo_one (f : Nat → Nat) {i k : Nat} (h : i < k) : f i ≤ sumTo f k := by
  have := sumTo_mono f (show i + 1 ≤ k from h)
  have e : sumTo f (i + 1) = sumTo f i + f i := rfl
  omega

theorem bv_heap {w y : World} (e : y.heap = w.heap) {b o n : Nat} {B : Nat → Bool} (h : Bv w b o n B) : Bv y b o n B := fun i hi => (World.cell?_of_block (by rw [e])).trans (h i hi)
theorem ix_heap {w y : World} (e : y.heap = w.heap) {M : Nat → Bool} {n : Nat} {ia : Option Addr} {ig : Nat} (h : Ix w M n ia ig) : Ix y M n ia ig := ⟨h.at_, fun i hi hm => (World.cell?_of_block (by rw [e])).trans (h.get i hi hm)⟩

theorem keep36 (w : World) (pb : Nat) (ra : Option Addr) (rb ro n rcap : Nat) (S : Nat → ByteArray) (us : Value) (ma : Option Addr) (mb mo mcap : Nat) (M : Nat → Bool) (ua : Option Addr) (ub uo un ucap : Nat) (X Y : Nat → Int) (goal : Nat) (fa : Option Addr) (fb fo fcap : Nat) (c : CA) (ka : Option Addr) (kb ko kn kcap : Nat) (A R : Nat → Int)
    (I : KIn w pb ra rb ro n rcap S us ma mb mo mcap M ua ub uo un ucap X Y goal fa fb fo fcap c ka kb ko kn kcap A R) :
    Calls Try.prog 36 #[.pointer (some ⟨pb, 0, none⟩), .slice ma n mcap, .slice fa c.n fcap, .slice ka kn kcap] w fun e w' => e = .returned (.pointer (some ⟨w.heap.size, 0, none⟩)) ∧ KOut w w' n S us M un X Y goal c kn A R := by
  have J := hid I
  clear I
  go_enter Try.func36, Try.ntmps36
  go_wp2_with fail
  refine (keepRoles w pb ra rb ro n rcap S us ma mb mo mcap M ua ub uo un ucap X Y goal fa fb fo fcap c ka kb ko kn kcap A R J.out).mono ?_
  rintro e w' ⟨rfl, hk⟩
  have HK := hid hk
  clear hk
  go_wp2_with fail
  go_ret
  exact ⟨rfl, HK.out⟩

set_option linter.unusedSimpArgs false in
set_option maxHeartbeats 16000000 in
set_option maxRecDepth 12000 in
theorem law7 (w : World) (a0 : Option Addr) (b0 o0 nr k0 : Nat) (S0 : Nat → ByteArray) (a1 : Option Addr) (b1 o1 n1 k1 : Nat) (S1 : Nat → ByteArray) (a2 : Option Addr) (b2 o2 n2 k2 : Nat) (X2 Y2 : Nat → Int) (a3 : Option Addr) (b3 o3 n3 k3 : Nat) (X3 Y3 : Nat → Int) (a4 : Option Addr) (b4 o4 k4 : Nat) (c4 : CA) (gi : Int) (a6 : Option Addr) (b6 o6 n k6 : Nat) (M : Nat → Bool) (a7 : Option Addr) (b7 o7 k7 : Nat) (c : CA) (a8 : Option Addr) (b8 o8 n8 k8 : Nat) (X8 Y8 : Nat → Int)
    (I0 : SIn w a0 b0 o0 nr k0 S0) (I1 : SIn w a1 b1 o1 n1 k1 S1) (I2 : PIn w a2 b2 o2 n2 k2 X2 Y2) (I3 : PIn w a3 b3 o3 n3 k3 X3 Y3) (I4 : CIn w a4 b4 o4 k4 c4) (I6 : BIn w a6 b6 o6 n k6 M) (I7 : CIn w a7 b7 o7 k7 c) (I8 : PIn w a8 b8 o8 n8 k8 X8 Y8) :
    Calls Try.prog 7 #[.slice a0 nr k0, .slice a1 n1 k1, .slice a2 n2 k2, .slice a3 n3 k3, .slice a4 c4.n k4, .int .i64 gi, .slice a6 n k6, .slice a7 c.n k7, .slice a8 n8 k8] w fun e w' => e = .returned (.bool true) ∧ Below w.heap.size w w' := by
  have t0 := I0.s
  have t1 := I1.s
  have t2 := I2.s
  have t3 := I3.s
  have t4 := I4.s
  have t6 := I6.s
  have t7 := I7.s
  have t8 := I8.s
  have J0 := hid I0
  have J1 := hid I1
  have J2 := hid I2
  have J3 := hid I3
  have J4 := hid I4
  have J6 := hid I6
  have J7 := hid I7
  have J8 := hid I8
  clear I0 I1 I2 I3 I4 I6 I7 I8
  go_enter Try.func7, Try.ntmps7
  go_wp2_with fail
  refine (bytes30 w a0 b0 o0 nr k0 S0 a1 b1 o1 n1 k1 S1 a2 n2 k2 a3 n3 k3 a4 b4 o4 k4 c4 gi a6 n k6 a7 b7 o7 k7 c a8 n8 k8 J0.out.A J0.out.V J0.out.p J1.out.A J1.out.V J1.out.p J4.out.A J4.out.V J4.out.p J7.out.A J7.out.V J7.out.p t0 t1 t2 t3 t4 t6 t7 t8).mono ?_
  rintro e w' ⟨⟨r, rfl⟩, rfl⟩
  cases r with
  | false =>
    go_wp2_with fail
    go_ret
    exact ⟨rfl, Below.refl _ _⟩
  | true =>
    by_cases s0 : nr ≤ 65536
    · have d0 : decide ((65536 : Int) < ((nr : Nat) : Int)) = false := by simp; omega
      by_cases s1 : n1 ≤ 65536
      · have d1 : decide ((65536 : Int) < ((n1 : Nat) : Int)) = false := by simp; omega
        by_cases s2 : n2 ≤ 65536
        · have d2 : decide ((65536 : Int) < ((n2 : Nat) : Int)) = false := by simp; omega
          by_cases s3 : n3 ≤ 65536
          · have d3 : decide ((65536 : Int) < ((n3 : Nat) : Int)) = false := by simp; omega
            by_cases s4 : c4.n ≤ 65536
            · have d4 : decide ((65536 : Int) < ((c4.n : Nat) : Int)) = false := by simp; omega
              by_cases s5 : n ≤ 65536
              · have d5 : decide ((65536 : Int) < ((n : Nat) : Int)) = false := by simp; omega
                by_cases s6 : c.n ≤ 65536
                · have d6 : decide ((65536 : Int) < ((c.n : Nat) : Int)) = false := by simp; omega
                  by_cases s7 : n8 ≤ 65536
                  · have d7 : decide ((65536 : Int) < ((n8 : Nat) : Int)) = false := by simp; omega
                    go_wp2_with fail
                    refine (strBytes w a0 b0 o0 nr k0 S0 J0.out.A J0.out.V t0 J0.out.p).mono ?_
                    rintro e w' ⟨⟨N0, rfl, hN0⟩, rfl⟩
                    go_wp2_with fail
                    refine (strBytes w a1 b1 o1 n1 k1 S1 J1.out.A J1.out.V t1 J1.out.p).mono ?_
                    rintro e w' ⟨⟨N1, rfl, hN1⟩, rfl⟩
                    go_wp2_with fail
                    refine (caBytes w a4 b4 o4 k4 c4 J4.out.A J4.out.V t4 J4.out.p).mono ?_
                    rintro e w' ⟨⟨N4, rfl, hN4, hN4'⟩, rfl⟩
                    have HN4 := hid hN4'
                    clear hN4'
                    go_wp2_with fail
                    refine (caBytes w a7 b7 o7 k7 c J7.out.A J7.out.V t7 J7.out.p).mono ?_
                    rintro e w' ⟨⟨N7, rfl, hN7, hN7'⟩, rfl⟩
                    have HN7 := hid hN7'
                    clear hN7'

                    by_cases s9 : N0 + N1 + 16 * n2 + 16 * n3 + N4 + n + N7 + 16 * n8 ≤ 1048576
                    · have d9 : decide ((1048576 : Int) < (N0 : Int) + (N1 : Int) + 16 * (n2 : Int) + 16 * (n3 : Int) + (N4 : Int) + (n : Int) + (N7 : Int) + 16 * (n8 : Int)) = false := by simp; omega
                      have HP4 := hid (fun i (hi : i < c4.n) => show c4.pl i ≤ 1048576 by have h := HN4.out (by omega); have := sumTo_one c4.pl hi; omega)
                      have HP7 := hid (fun i (hi : i < c.n) => show c.pl i ≤ 1048576 by have h := HN7.out (by omega); have := sumTo_one c.pl hi; omega)
                      clear HN4 HN7
                      by_cases e6 : n = nr
                      · subst e6
                        have d10 : ((n : Int) != (n : Int)) = false := by simp
                        go_wp2_with fail
                        refine (inRange' gi n w).mono ?_
                        rintro e w' ⟨rfl, rfl⟩
                        obtain ⟨r1, hr1⟩ : ∃ r1, inB gi n = r1 := ⟨_, rfl⟩
                        rw [hr1]
                        cases r1 with
                        | false =>
                          go_wp2_with fail
                          go_ret
                          exact ⟨rfl, Below.refl _ _⟩
                        | true =>
                          have hgi := (inB_iff gi n).1 hr1
                          obtain ⟨gn, hgn⟩ : ∃ gn : Nat, gi = (gn : Int) := ⟨gi.toNat, by omega⟩
                          subst hgn
                          have hgn : gn < n := by omega
                          clear hr1 hgi
                          go_wp2_with fail
                          refine (uaInRange w a2 b2 o2 n2 k2 X2 Y2 n J2.out.A J2.out.V s2).mono ?_
                          rintro e w' ⟨⟨r2, rfl, hr2⟩, rfl⟩
                          have HR2 := hid hr2
                          clear hr2
                          cases r2 with
                          | false =>
                            go_wp2_with fail
                            go_ret
                            exact ⟨rfl, Below.refl _ _⟩
                          | true =>
                            have HU := hid (HR2.out rfl)
                            clear HR2
                            go_wp2_with fail
                            refine (caInRange w a7 b7 o7 k7 c n J7.out.A J7.out.V s6 HP7.out).mono ?_
                            rintro e w' ⟨⟨r3, rfl, hr3⟩, rfl⟩
                            have HR3 := hid hr3
                            clear hr3
                            cases r3 with
                            | false =>
                              go_wp2_with fail
                              go_ret
                              exact ⟨rfl, Below.refl _ _⟩
                            | true =>
                              have HIN := hid (HR3.out rfl)
                              clear HR3
                              go_wp2_with fail
                              refine (crInRange w a8 b8 o8 n8 k8 X8 Y8 n J8.out.A J8.out.V s7).mono ?_
                              rintro e w' ⟨⟨r4, rfl, hr4⟩, rfl⟩
                              have HR4 := hid hr4
                              clear hr4
                              cases r4 with
                              | false =>
                                go_wp2_with fail
                                go_ret
                                exact ⟨rfl, Below.refl _ _⟩
                              | true =>
                                have HK := hid (HR4.out rfl)
                                clear HR4
                                clear d0 d1 d2 d3 d4 d5 d6 d7 d9 d10
                                go_wp2_with fail
                                refine (cloneStrs w a0 b0 o0 n k0 S0 J0.out.A J0.out.N (J0.out.V) s0).mono ?_
                                intro e w1 hs
                                obtain ⟨e1, q1, rfl, hz, hA, hN, hv, hb⟩ := hs.view (fun e => (J0.out.N e).1)
                                have Z1 := hid hz
                                have A1 := hid hA
                                have N1 := hid hN
                                have V1 := hid hv
                                have B1 := hid hb
                                clear hs hz hA hN hv hb
                                go_wp2_with fail
                                refine (cloneStrs w1 a1 b1 o1 n1 k1 S1 J1.out.A J1.out.N ((J1.out.V).below B1.out) s1).mono ?_
                                intro e w2 hs
                                obtain ⟨e2, q2, rfl, hz, hA, hN, hv, hb⟩ := hs.view (fun e => (J1.out.N e).1)
                                have Z2 := hid hz
                                have A2 := hid hA
                                have N2 := hid hN
                                have V2 := hid hv
                                have B2 := hid hb
                                clear hs hz hA hN hv hb
                                go_wp2_with fail
                                refine (cloneUA w2 a2 b2 o2 n2 k2 X2 Y2 J2.out.A J2.out.N (((J2.out.V).below B1.out).below B2.out) s2).mono ?_
                                intro e w3 hs
                                obtain ⟨e3, q3, rfl, hA, hN, hv, hb⟩ := hs.view (fun e => (J2.out.N e).1)
                                have A3 := hid hA
                                have N3 := hid hN
                                have V3 := hid hv
                                have B3 := hid hb
                                clear hs hA hN hv hb
                                go_wp2_with fail
                                refine (cloneCR w3 a3 b3 o3 n3 k3 X3 Y3 J3.out.A J3.out.N ((((J3.out.V).below B1.out).below B2.out).below B3.out) s3).mono ?_
                                intro e w4 hs
                                obtain ⟨e4, q4, rfl, hA, hN, hv, hb⟩ := hs.view (fun e => (J3.out.N e).1)
                                have A4 := hid hA
                                have N4 := hid hN
                                have V4 := hid hv
                                have B4 := hid hb
                                clear hs hA hN hv hb
                                have HC5 : Hid (Calls Try.prog 12 #[.slice a4 c4.n k4] w4 fun e w' => SaysCA w4 w' 37 48 a4 c4 e) := cloneCA w4 a4 b4 o4 k4 c4 J4.out.A J4.out.N (((((J4.out.V).below B1.out).below B2.out).below B3.out).below B4.out) s4 HP4.out
                                go_wp2_with fail
                                refine HC5.out.mono ?_
                                intro e w5 hs
                                obtain ⟨e5, q5, rfl, hA, hN, hv, hb⟩ := hs.seen (fun e => (J4.out.N e).1) (fun i hi e => (J4.out.V.nil i hi e).1)
                                have A5 := hid hA
                                have N5 := hid hN
                                have V5 := hid hv
                                have B5 := hid hb
                                clear hs hA hN hv hb HC5
                                rw [show (c4).n = c4.n from rfl]
                                go_wp2_with fail
                                refine (cloneBools w5 a6 b6 o6 n k6 M J6.out.A J6.out.N ((((((J6.out.V).below B1.out).below B2.out).below B3.out).below B4.out).below B5.out) s0).mono ?_
                                rintro e w6 ⟨⟨v6, rfl, hO⟩, hb⟩
                                obtain ⟨e6, f6, q6, hv, _, hA, hN, hV, _⟩ := hO.view
                                subst hv
                                have A6 := hid hA
                                have N6 := hid hN
                                have V6 := hid hV
                                have B6 := hid hb
                                clear hO hA hN hV hb
                                have HC7 : Hid (Calls Try.prog 12 #[.slice a7 c.n k7] w6 fun e w' => SaysCA w6 w' 37 48 a7 c e) := cloneCA w6 a7 b7 o7 k7 c J7.out.A J7.out.N (((((((J7.out.V).below B1.out).below B2.out).below B3.out).below B4.out).below B5.out).below B6.out) s6 HP7.out
                                go_wp2_with fail
                                refine HC7.out.mono ?_
                                intro e w7 hs
                                obtain ⟨e7, q7, rfl, hA, hN, hv, hb⟩ := hs.seen (fun e => (J7.out.N e).1) (fun i hi e => (J7.out.V.nil i hi e).1)
                                have A7 := hid hA
                                have N7 := hid hN
                                have V7 := hid hv
                                have B7 := hid hb
                                clear hs hA hN hv hb HC7
                                rw [show (c).n = c.n from rfl]
                                go_wp2_with fail
                                refine (cloneCR w7 a8 b8 o8 n8 k8 X8 Y8 J8.out.A J8.out.N ((((((((J8.out.V).below B1.out).below B2.out).below B3.out).below B4.out).below B5.out).below B6.out).below B7.out) s7).mono ?_
                                intro e w8 hs
                                obtain ⟨e8, q8, rfl, hA, hN, hv, hb⟩ := hs.view (fun e => (J8.out.N e).1)
                                have A8 := hid hA
                                have N8 := hid hN
                                have V8 := hid hv
                                have B8 := hid hb
                                clear hs hA hN hv hb
                                clear J0 J1 J2 J3 J4 J6 J7 J8 t0 t1 t2 t3 t4 t6 t7 t8
                                go_wp2_with fail
                                refine (cloneStrs w8 e1 w.heap.size 0 n q1 S0 A1.out N1.out ((((((((V1.out).below B2.out).below B3.out).below B4.out).below B5.out).below B6.out).below B7.out).below B8.out) s0).mono ?_
                                intro e w9 hs
                                obtain ⟨e9, q9, rfl, hz, hA, hN, hv, hb⟩ := hs.view (fun e => (N1.out e).1)
                                have Z9 := hid hz
                                have A9 := hid hA
                                have N9 := hid hN
                                have V9 := hid hv
                                have B9 := hid hb
                                clear hs hz hA hN hv hb
                                go_wp2_with fail
                                refine (cloneStrs w9 e2 w1.heap.size 0 n1 q2 S1 A2.out N2.out ((((((((V2.out).below B3.out).below B4.out).below B5.out).below B6.out).below B7.out).below B8.out).below B9.out) s1).mono ?_
                                intro e w10 hs
                                obtain ⟨e10, q10, rfl, hz, hA, hN, hv, hb⟩ := hs.view (fun e => (N2.out e).1)
                                have Z10 := hid hz
                                have A10 := hid hA
                                have N10 := hid hN
                                have V10 := hid hv
                                have B10 := hid hb
                                clear hs hz hA hN hv hb
                                go_wp2_with fail
                                refine (toUA w10 e3 w2.heap.size 0 n2 q3 X2 Y2 A3.out N3.out ((((((((V3.out).below B4.out).below B5.out).below B6.out).below B7.out).below B8.out).below B9.out).below B10.out) s2).mono ?_
                                intro e w11 hs
                                obtain ⟨e11, q11, rfl, hA, hN, hv, hb⟩ := hs.view (fun e => (N3.out e).1)
                                have A11 := hid hA
                                have N11 := hid hN
                                have V11 := hid hv
                                have B11 := hid hb
                                clear hs hA hN hv hb
                                go_wp2_with fail
                                refine (toCR w11 e4 w3.heap.size 0 n3 q4 X3 Y3 A4.out N4.out ((((((((V4.out).below B5.out).below B6.out).below B7.out).below B8.out).below B9.out).below B10.out).below B11.out) s3).mono ?_
                                intro e w12 hs
                                obtain ⟨e12, q12, rfl, hA, hN, hv, hb⟩ := hs.view (fun e => (N4.out e).1)
                                have A12 := hid hA
                                have N12 := hid hN
                                have V12 := hid hv
                                have B12 := hid hb
                                clear hs hA hN hv hb
                                have HC13 : Hid (Calls Try.prog 16 #[.slice e5 c4.n q5] w12 fun e w' => SaysCA w12 w' 72 73 e5 (c4.moved w4.heap.size) e) := toCA w12 e5 w4.heap.size 0 q5 (c4.moved w4.heap.size) A5.out N5.out ((((((((V5.out).below B6.out).below B7.out).below B8.out).below B9.out).below B10.out).below B11.out).below B12.out) s4 HP4.out
                                go_wp2_with fail
                                refine HC13.out.mono ?_
                                intro e w13 hs
                                obtain ⟨e13, q13, rfl, hA, hN, hv, hb⟩ := hs.seen (fun e => (N5.out e).1) (fun i hi e => (V5.out.nil i hi e).1)
                                have A13 := hid hA
                                have N13 := hid hN
                                have V13 := hid hv
                                have B13 := hid hb
                                clear hs hA hN hv hb HC13
                                rw [show ((c4.moved w4.heap.size)).n = c4.n from rfl]
                                go_wp2_with fail
                                have hc14 := heap_alloc_new w13 (.cells #[.slice e9 n q9, .slice e10 n1 q10, .slice e11 n2 q11, .slice e12 n3 q12, .slice e13 c4.n q13, .int .i64 (gn : Int)] 62)
                                have B14 : Hid (Below w13.heap.size w13 (w13.alloc (.cells #[.slice e9 n q9, .slice e10 n1 q10, .slice e11 n2 q11, .slice e12 n3 q12, .slice e13 c4.n q13, .int .i64 (gn : Int)] 62))) := hid ((Below.refl _ _).alloc (Nat.le_refl _) _)
                                generalize hw14 : w13.alloc (.cells #[.slice e9 n q9, .slice e10 n1 q10, .slice e11 n2 q11, .slice e12 n3 q12, .slice e13 c4.n q13, .int .i64 (gn : Int)] 62) = w14 at hc14 B14 ⊢
                                have P0 := cell_of_row w14 w13.heap.size 0 _ _ _ hc14
                                have P1 := cell_of_row w14 w13.heap.size 1 _ _ _ hc14
                                have P2 := cell_of_row w14 w13.heap.size 2 _ _ _ hc14
                                have P5 := cell_of_row w14 w13.heap.size 5 _ _ _ hc14
                                simp at P0 P1 P2 P5
                                have PP0 := hid P0
                                have PP1 := hid P1
                                have PP2 := hid P2
                                have PP5 := hid P5
                                clear hw14 hc14 P0 P1 P2 P5
                                go_wp2_with fail
                                refine (cloneBools w14 e6 f6 0 n q6 M A6.out N6.out (((((((((V6.out).below B7.out).below B8.out).below B9.out).below B10.out).below B11.out).below B12.out).below B13.out).below B14.out) s0).mono ?_
                                rintro e w15 ⟨⟨v15, rfl, hO⟩, hb⟩
                                obtain ⟨e15, f15, q15, hv, _, hA, hN, hV, _⟩ := hO.view
                                subst hv
                                have A15 := hid hA
                                have N15 := hid hN
                                have V15 := hid hV
                                have B15 := hid hb
                                clear hO hA hN hV hb
                                have HC16 : Hid (Calls Try.prog 16 #[.slice e7 c.n q7] w15 fun e w' => SaysCA w15 w' 72 73 e7 (c.moved w6.heap.size) e) := toCA w15 e7 w6.heap.size 0 q7 (c.moved w6.heap.size) A7.out N7.out (((((((((V7.out).below B8.out).below B9.out).below B10.out).below B11.out).below B12.out).below B13.out).below B14.out).below B15.out) s6 HP7.out
                                go_wp2_with fail
                                refine HC16.out.mono ?_
                                intro e w16 hs
                                obtain ⟨e16, q16, rfl, hA, hN, hv, hb⟩ := hs.seen (fun e => (N7.out e).1) (fun i hi e => (V7.out.nil i hi e).1)
                                have A16 := hid hA
                                have N16 := hid hN
                                have V16 := hid hv
                                have B16 := hid hb
                                clear hs hA hN hv hb HC16
                                rw [show ((c.moved w6.heap.size)).n = c.n from rfl]
                                go_wp2_with fail
                                refine (toCR w16 e8 w7.heap.size 0 n8 q8 X8 Y8 A8.out N8.out (((((((((V8.out).below B9.out).below B10.out).below B11.out).below B12.out).below B13.out).below B14.out).below B15.out).below B16.out) s7).mono ?_
                                intro e w17 hs
                                obtain ⟨e17, q17, rfl, hA, hN, hv, hb⟩ := hs.view (fun e => (N8.out e).1)
                                have A17 := hid hA
                                have N17 := hid hN
                                have V17 := hid hv
                                have B17 := hid hb
                                clear hs hA hN hv hb
                                have KI : Hid (KIn w17 w13.heap.size e9 w8.heap.size 0 n q9 S0 (.slice e10 n1 q10) e15 f15 0 q15 M e11 w10.heap.size 0 n2 q11 X2 Y2 gn e16 w15.heap.size 0 q16 ((c.moved w6.heap.size).moved w15.heap.size) e17 w16.heap.size 0 n8 q17 X8 Y8) := hid
                                  { p0 := cell_below B17.out (cell_below B16.out (cell_below B15.out (PP0.out)))
                                    p1 := cell_below B17.out (cell_below B16.out (cell_below B15.out (PP1.out)))
                                    p2 := cell_below B17.out (cell_below B16.out (cell_below B15.out (PP2.out)))
                                    p5 := cell_below B17.out (cell_below B16.out (cell_below B15.out (PP5.out)))
                                    rA := A9.out
                                    rv := ((((((((V9.out).below B10.out).below B11.out).below B12.out).below B13.out).below B14.out).below B15.out).below B16.out).below B17.out
                                    mA := A15.out
                                    mv := ((V15.out).below B16.out).below B17.out
                                    uA := A11.out
                                    uv := ((((((V11.out).below B12.out).below B13.out).below B14.out).below B15.out).below B16.out).below B17.out
                                    ur := HU.out
                                    fA := A16.out
                                    fv := (V16.out).below B17.out
                                    fr := HIN.out
                                    kA := A17.out
                                    kv := V17.out
                                    kr := HK.out
                                    hg := hgn
                                    hn := s0
                                    hun := s2
                                    hkn := s7
                                    hcn := s6
                                    hpl := HP7.out
                                    uo1 := ⟨_, _, _, rfl⟩ }
                                have HC18 : Hid (Calls Try.prog 36 #[.pointer (some ⟨w13.heap.size, 0, none⟩), .slice e15 n q15, .slice e16 c.n q16, .slice e17 n8 q17] w17 fun e w' => e = .returned (.pointer (some ⟨w17.heap.size, 0, none⟩)) ∧ KOut w17 w' n S0 (.slice e10 n1 q10) M n2 X2 Y2 gn ((c.moved w6.heap.size).moved w15.heap.size) n8 X8 Y8) := keep36 w17 w13.heap.size e9 w8.heap.size 0 n q9 S0 (.slice e10 n1 q10) e15 f15 0 q15 M e11 w10.heap.size 0 n2 q11 X2 Y2 gn e16 w15.heap.size 0 q16 ((c.moved w6.heap.size).moved w15.heap.size) e17 w16.heap.size 0 n8 q17 X8 Y8 KI.out
                                go_wp2_with fail
                                refine HC18.out.mono ?_
                                rintro e w18 ⟨rfl, hk⟩
                                have B18 := hid hk.1
                                obtain ⟨r0, r2, r3, r4, g0, g2, g3, g4, p0, p2, p3, p4, pb, hks⟩ := hk.see
                                have KS := hid hks.moved
                                clear hk hks HC18 KI PP0 PP1 PP2 PP5
                                have U10 := hid (((((((((V10.out).below B11.out).below B12.out).below B13.out).below B14.out).below B15.out).below B16.out).below B17.out).below B18.out)
                                have ZZ : Hid (e10.isNone = e2.isNone) := Z10
                                have U1 := hid ((((((((((((((((((V1.out).below B2.out).below B3.out).below B4.out).below B5.out).below B6.out).below B7.out).below B8.out).below B9.out).below B10.out).below B11.out).below B12.out).below B13.out).below B14.out).below B15.out).below B16.out).below B17.out).below B18.out)
                                have U2 := hid (((((((((((((((((V2.out).below B3.out).below B4.out).below B5.out).below B6.out).below B7.out).below B8.out).below B9.out).below B10.out).below B11.out).below B12.out).below B13.out).below B14.out).below B15.out).below B16.out).below B17.out).below B18.out)
                                have U3 := hid ((((((((((((((((V3.out).below B4.out).below B5.out).below B6.out).below B7.out).below B8.out).below B9.out).below B10.out).below B11.out).below B12.out).below B13.out).below B14.out).below B15.out).below B16.out).below B17.out).below B18.out)
                                have U6 := hid (((((((((((((V6.out).below B7.out).below B8.out).below B9.out).below B10.out).below B11.out).below B12.out).below B13.out).below B14.out).below B15.out).below B16.out).below B17.out).below B18.out)
                                have U7 := hid ((((((((((((V7.out).below B8.out).below B9.out).below B10.out).below B11.out).below B12.out).below B13.out).below B14.out).below B15.out).below B16.out).below B17.out).below B18.out)
                                have U8 := hid (((((((((((V8.out).below B9.out).below B10.out).below B11.out).below B12.out).below B13.out).below B14.out).below B15.out).below B16.out).below B17.out).below B18.out)
                                have Q18 : Hid (Below w.heap.size w w18) := by
                                  have y1 := B1.out
                                  have y2 := below_of y1 y1.size B2.out
                                  have y3 := below_of y2 y2.size B3.out
                                  have y4 := below_of y3 y3.size B4.out
                                  have y5 := below_of y4 y4.size B5.out
                                  have y6 := below_of y5 y5.size B6.out
                                  have y7 := below_of y6 y6.size B7.out
                                  have y8 := below_of y7 y7.size B8.out
                                  have y9 := below_of y8 y8.size B9.out
                                  have y10 := below_of y9 y9.size B10.out
                                  have y11 := below_of y10 y10.size B11.out
                                  have y12 := below_of y11 y11.size B12.out
                                  have y13 := below_of y12 y12.size B13.out
                                  have y14 := below_of y13 y13.size B14.out
                                  have y15 := below_of y14 y14.size B15.out
                                  have y16 := below_of y15 y15.size B16.out
                                  have y17 := below_of y16 y16.size B17.out
                                  exact below_of y17 y17.size B18.out
                                clear B1 B2 B3 B4 B5 B6 B7 B8 B9 B10 B11 B12 B13 B14 B15 B16 B17 B18 V1 V2 V3 V4 V5 V6 V7 V8 V9 V10 V11 V12 V13 V15 V16 V17 Z1 Z2 Z9 Z10 A4 A5 A9 A11 A12 A13 A15 A16 A17 N4 N5 N9 N11 N12 N13 N15 N16 N17 HP4
                                go_upto_block 0 with fail
                                go_cut [22] from 175 to 187 (fun v w' => ∃ ia ig icap, v = .slice ia (cnt M n) icap ∧ Ix w' M n ia ig ∧ Below w18.heap.size w18 w')
                                case first =>
                                  exact pcL1 w18 n M s5 e6 f6 q6 A6 U6 (by assumption) (by assumption)
                                case rest =>
                                  obtain ⟨ia, ig, icap, rfl, hix, hbl⟩ := hcut
                                  obtain ⟨wL, hwL⟩ : ∃ x, x = wc := ⟨_, rfl⟩
                                  subst hwL
                                  have KL := hid (KS.out.below hbl)
                                  have R1 := hid (U1.out.below hbl)
                                  have R2 := hid (U2.out.below hbl)
                                  have R3 := hid (U3.out.below hbl)
                                  have R6 := hid (U6.out.below hbl)
                                  have R7 := hid (U7.out.below hbl)
                                  have R8 := hid (U8.out.below hbl)
                                  have R10 := hid (U10.out.below hbl)
                                  have IX := hid hix
                                  have QL : Hid (Below w.heap.size w wL) := hid (below_of Q18.out Q18.out.size hbl)
                                  have CM : Hid (∀ (wr : World), Below wL.heap.size wL wr → ∀ (y : World), y.heap = wr.heap → ∀ x, x < n → Calls Try.prog 37 #[.int .i64 (num M x : Int), .int .i64 (x : Int), .slice e6 n q6, .slice ia (cnt M n) icap] y fun e w' => e = .returned (.bool true) ∧ w' = y) := hid (fun wr hb y ey x hx => mapsBack y M x n hx e6 f6 0 q6 A6.out (bv_heap ey (R6.out.below hb)) ia ig icap (ix_heap ey (IX.out.below hb)))
                                  clear KS U1 U2 U3 U6 U7 U8 U10 hix hbl Q18
                                  go_upto_region 30 with fail
                                  go_cut [207] from 188 to 207 (fun b w' => b = .bool false ∧ wL = w')
                                  case first =>
                                    have c0 := KL.out.v0.c
                                    have dn : (((cnt M n : Nat) : Int) != ((cnt M n : Nat) : Int)) = false := by simp
                                    have hneq := fun wx => run_neq_slice_nil_any (P := Try.prog) wx 51 9 r0 (cnt M n) p0 0 0 Try.underlying51
                                    by_cases z : cnt M n = 0
                                    · have z1 : r0.isNone = true := by rw [KL.out.v0.z]; simp [z]
                                      rw [z1] at hneq
                                      simp only [Bool.not_true] at hneq
                                      have dz : (((cnt M n : Nat) : Int) == 0) = true := by simp [z]
                                      clear z z1
                                      go_wp2_with fail
                                      go_meet
                                      case rel => exact ⟨rfl, rfl⟩
                                    · have dz : (((cnt M n : Nat) : Int) == 0) = false := by simp [z]
                                      clear z hneq
                                      go_wp2_with fail
                                      go_meet
                                      case rel => exact ⟨rfl, rfl⟩
                                  case rest =>
                                    obtain ⟨rfl, rfl⟩ := hcut
                                    go_upto_block 2 with fail
                                    go_cut [] from 208 to 228 (fun w' => Below wL.heap.size wL w')
                                    case first =>
                                      exact pcL2 wL wL n s5 M e1 q1 w.heap.size S0 w17.heap.size r0 g0 p0 ia ig icap (hid KL.out.v0) IX A1 R1 (hid (Below.refl _ _)) (by assumption) (by assumption)
                                    case rest =>
                                      obtain ⟨m2, hm2⟩ : ∃ x, x = wc := ⟨_, rfl⟩
                                      subst hm2
                                      have HB := hid hcut
                                      clear hcut
                                      go_upto_region 37 with fail
                                      go_cut [246] from 229 to 246 (fun b w' => b = .bool false ∧ m2 = w')
                                      case first =>
                                        have c0 := cell_below HB.out KL.out.c1
                                        have dn : ((n1 : Int) != (n1 : Int)) = false := by simp
                                        have q1 := fun wx => Lib.run_eql_slice_nil (P := Try.prog) wx 51 9 e2 n1 q2 0 0 Try.underlying51
                                        have q2 := fun wx => Lib.run_eql_slice_nil (P := Try.prog) wx 51 9 e10 n1 q10 0 0 Try.underlying51
                                        rw [ZZ.out] at q2
                                        cases hz : e2.isNone with
                                        | true =>
                                          rw [hz] at q1 q2
                                          clear hz
                                          go_wp2_with fail
                                          go_meet
                                          case rel => exact ⟨rfl, rfl⟩
                                        | false =>
                                          rw [hz] at q1 q2
                                          clear hz
                                          go_wp2_with fail
                                          go_meet
                                          case rel => exact ⟨rfl, rfl⟩
                                      case rest =>
                                        obtain ⟨rfl, rfl⟩ := hcut
                                        go_upto_block 4 with fail
                                        go_cut [] from 247 to 264 (fun w' => Below wL.heap.size wL w')
                                        case first =>
                                          exact pcL3 wL m2 n1 s1 e2 q2 w1.heap.size S1 w17.heap.size e10 q10 w9.heap.size (hid KL.out.c1) A10 A2 R10 R2 HB (by assumption) (by assumption)
                                        case rest =>
                                          obtain ⟨m3, hm3⟩ : ∃ x, x = wc := ⟨_, rfl⟩
                                          subst hm3
                                          have HB := hid hcut
                                          clear hcut
                                          have hc5 := cell_below HB.out KL.out.c5
                                          go_wp2_with fail
                                          refine (CM.out m3 HB.out m3 rfl gn hgn).mono ?_
                                          rintro e w' ⟨rfl, hw⟩
                                          obtain rfl := hw.symm
                                          clear hc5
                                          go_upto_block 6 with fail
                                          go_cut [26] from 274 to 330 (fun s w' => s = .int .i64 ((cnt (kp M Y2) n2 : Nat) : Int) ∧ Below wL.heap.size wL w')
                                          case first =>
                                            exact pcL4 wL m3 n s5 M e6 f6 q6 A6 R6 ia icap CM w17.heap.size HB n2 s2 e3 q3 w2.heap.size X2 Y2 A3 R3 r2 g2 p2 (hid KL.out.v2) HU (by assumption) (by assumption)
                                          case rest =>
                                            obtain ⟨m4, hm4⟩ : ∃ x, x = wc := ⟨_, rfl⟩
                                            subst hm4
                                            obtain ⟨rfl, hcut⟩ := hcut
                                            have HB := hid hcut
                                            clear hcut
                                            go_upto_region 56 with fail
                                            go_cut [348] from 331 to 348 (fun b w' => b = .bool false ∧ m4 = w')
                                            case first =>
                                              have c0 := cell_below HB.out KL.out.v2.c
                                              have dn : (((cnt (kp M Y2) n2 : Nat) : Int) != ((cnt (kp M Y2) n2 : Nat) : Int)) = false := by simp
                                              have hneq := fun wx => run_neq_slice_nil_any (P := Try.prog) wx 59 68 r2 (cnt (kp M Y2) n2) p2 0 0 Try.underlying59
                                              by_cases z : cnt (kp M Y2) n2 = 0
                                              · have z1 : r2.isNone = true := by rw [KL.out.v2.z]; simp [z]
                                                rw [z1] at hneq
                                                simp only [Bool.not_true] at hneq
                                                have dz : (((cnt (kp M Y2) n2 : Nat) : Int) == 0) = true := by simp [z]
                                                clear z z1
                                                go_wp2_with fail
                                                go_meet
                                                case rel => exact ⟨rfl, rfl⟩
                                              · have dz : (((cnt (kp M Y2) n2 : Nat) : Int) == 0) = false := by simp [z]
                                                clear z hneq
                                                go_wp2_with fail
                                                go_meet
                                                case rel => exact ⟨rfl, rfl⟩
                                            case rest =>
                                              obtain ⟨rfl, rfl⟩ := hcut
                                              go_upto_block 8 with fail
                                              go_cut [26] from 349 to 408 (fun s w' => s = .int .i64 ((cnt (kp M Y8) n8 : Nat) : Int) ∧ Below wL.heap.size wL w')
                                              case first =>
                                                exact pcL5 wL m4 n s5 M e6 f6 q6 A6 R6 ia icap CM w17.heap.size HB n8 s7 e8 q8 w7.heap.size X8 Y8 A8 R8 r3 g3 p3 (hid KL.out.v3) HK (by assumption) (by assumption)
                                              case rest =>
                                                obtain ⟨m5, hm5⟩ : ∃ x, x = wc := ⟨_, rfl⟩
                                                subst hm5
                                                obtain ⟨rfl, hcut⟩ := hcut
                                                have HB := hid hcut
                                                clear hcut
                                                go_upto_region 68 with fail
                                                go_cut [426] from 409 to 426 (fun b w' => b = .bool false ∧ m5 = w')
                                                case first =>
                                                  have c0 := cell_below HB.out KL.out.v3.c
                                                  have dn : (((cnt (kp M Y8) n8 : Nat) : Int) != ((cnt (kp M Y8) n8 : Nat) : Int)) = false := by simp
                                                  have hneq := fun wx => run_neq_slice_nil_any (P := Try.prog) wx 45 69 r3 (cnt (kp M Y8) n8) p3 0 0 Try.underlying45
                                                  by_cases z : cnt (kp M Y8) n8 = 0
                                                  · have z1 : r3.isNone = true := by rw [KL.out.v3.z]; simp [z]
                                                    rw [z1] at hneq
                                                    simp only [Bool.not_true] at hneq
                                                    have dz : (((cnt (kp M Y8) n8 : Nat) : Int) == 0) = true := by simp [z]
                                                    clear z z1
                                                    go_wp2_with fail
                                                    go_meet
                                                    case rel => exact ⟨rfl, rfl⟩
                                                  · have dz : (((cnt (kp M Y8) n8 : Nat) : Int) == 0) = false := by simp [z]
                                                    clear z hneq
                                                    go_wp2_with fail
                                                    go_meet
                                                    case rel => exact ⟨rfl, rfl⟩
                                                case rest =>
                                                  obtain ⟨rfl, rfl⟩ := hcut
                                                  go_upto_block 10 with fail
                                                  go_cut [26] from 427 to 540 (fun s w' => s = .int .i64 ((cnt (kp M c.ro) c.n : Nat) : Int) ∧ Below wL.heap.size wL w')
                                                  case first =>
                                                    exact pcL6 wL m5 n s5 M e6 f6 q6 A6 R6 ia icap CM w17.heap.size HB c s6 HP7 e7 q7 w6.heap.size A7 R7 pb r4 g4 p4 (hid KL.out.v4) (hid KL.out.lr) (hid KL.out.ln) HIN (by assumption) (by assumption)
                                                  case rest =>
                                                    obtain ⟨m6, hm6⟩ : ∃ x, x = wc := ⟨_, rfl⟩
                                                    subst hm6
                                                    obtain ⟨rfl, hcut⟩ := hcut
                                                    have HB := hid hcut
                                                    clear hcut
                                                    go_upto_region 88 with fail
                                                    go_cut [558] from 541 to 558 (fun b w' => b = .bool false ∧ m6 = w')
                                                    case first =>
                                                      have c0 := cell_below HB.out KL.out.v4.c
                                                      have dn : (((cnt (kp M c.ro) c.n : Nat) : Int) != ((cnt (kp M c.ro) c.n : Nat) : Int)) = false := by simp
                                                      have hneq := fun wx => run_neq_slice_nil_any (P := Try.prog) wx 31 72 r4 (cnt (kp M c.ro) c.n) p4 0 0 Try.underlying31
                                                      by_cases z : cnt (kp M c.ro) c.n = 0
                                                      · have z1 : r4.isNone = true := by rw [KL.out.v4.z]; simp [z]
                                                        rw [z1] at hneq
                                                        simp only [Bool.not_true] at hneq
                                                        have dz : (((cnt (kp M c.ro) c.n : Nat) : Int) == 0) = true := by simp [z]
                                                        clear z z1
                                                        go_wp2_with fail
                                                        go_meet
                                                        case rel => exact ⟨rfl, rfl⟩
                                                      · have dz : (((cnt (kp M c.ro) c.n : Nat) : Int) == 0) = false := by simp [z]
                                                        clear z hneq
                                                        go_wp2_with fail
                                                        go_meet
                                                        case rel => exact ⟨rfl, rfl⟩
                                                    case rest =>
                                                      obtain ⟨rfl, rfl⟩ := hcut
                                                      go_wp2_with fail
                                                      go_ret
                                                      exact ⟨rfl, below_of QL.out QL.out.size HB.out⟩

                      · go_wp2_with fail
                        go_ret
                        exact ⟨rfl, Below.refl _ _⟩
                    · go_wp2_with fail
                      go_ret
                      exact ⟨rfl, Below.refl _ _⟩
                  · go_wp2_with fail
                    go_ret
                    exact ⟨rfl, Below.refl _ _⟩
                · go_wp2_with fail
                  go_ret
                  exact ⟨rfl, Below.refl _ _⟩
              · go_wp2_with fail
                go_ret
                exact ⟨rfl, Below.refl _ _⟩
            · go_wp2_with fail
              go_ret
              exact ⟨rfl, Below.refl _ _⟩
          · go_wp2_with fail
            go_ret
            exact ⟨rfl, Below.refl _ _⟩
        · go_wp2_with fail
          go_ret
          exact ⟨rfl, Below.refl _ _⟩
      · go_wp2_with fail
        go_ret
        exact ⟨rfl, Below.refl _ _⟩
    · go_wp2_with fail
      go_ret
      exact ⟨rfl, Below.refl _ _⟩
end Go.Proofs.Qxb6605479a
