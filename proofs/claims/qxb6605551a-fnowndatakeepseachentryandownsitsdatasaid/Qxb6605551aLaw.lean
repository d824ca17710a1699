/-
  THE WALK of 'FnOwnDataKeepsEachEntryAndOwnsItsData'.
-/
import Derived.Test.Qxb6605551aMarks
namespace Go.Proofs.Qxb6605551a
open Go.RowKit

/-- WHAT THE LAW IS CALLED WITH. -/
structure In5 (w : World) (a0 : Option Addr) (b0 o0 n0 cap0 : Nat) (O : Nat → Int) (a1 : Option Addr) (b1 o1 n1 cap1 : Nat) (D : Nat → Int) (a2 : Option Addr) (b2 o2 n2 cap2 : Nat) (S : Nat → Int) (a3 : Option Addr) (b3 o3 n3 cap3 : Nat) (T : Nat → Int) (a : Option Addr) (b o cap : Nat) (c : DD) : Prop where
  A0 : 0 < n0 → a0 = some ⟨b0, o0, none⟩
  N0 : a0 = none → n0 = 0 ∧ cap0 = 0
  v0 : Iv w .i64 b0 o0 n0 O
  s0 : n0 ≤ 9223372036854775807
  A1 : 0 < n1 → a1 = some ⟨b1, o1, none⟩
  N1 : a1 = none → n1 = 0 ∧ cap1 = 0
  v1 : Iv w .i64 b1 o1 n1 D
  s1 : n1 ≤ 9223372036854775807
  A2 : 0 < n2 → a2 = some ⟨b2, o2, none⟩
  N2 : a2 = none → n2 = 0 ∧ cap2 = 0
  v2 : Iv w .u64 b2 o2 n2 S
  s2 : n2 ≤ 9223372036854775807
  A3 : 0 < n3 → a3 = some ⟨b3, o3, none⟩
  N3 : a3 = none → n3 = 0 ∧ cap3 = 0
  v3 : Iv w .u8 b3 o3 n3 T
  s3 : n3 ≤ 9223372036854775807
  A : 0 < c.n → a = some ⟨b, o, none⟩
  N : a = none → c.n = 0 ∧ cap = 0
  v : DDv w b o c
  s : c.n ≤ 9223372036854775807
  sp : ∀ i, i < c.n → c.dl i ≤ 9223372036854775807

theorem Iv.heap {w w' : World} {k : IntKind} {b o n : Nat} {F : Nat → Int} (h : Iv w k b o n F) (e : w'.heap = w.heap) : Iv w' k b o n F := fun i hi => (World.cell?_of_block (by rw [e])).trans (h i hi)

theorem quiet_mid {P : Program} {f : FuncId} {args : Array Value} {w : World} {p n : Nat} {v : Value}
    (h : Calls P f args (w.drewN (p + n)) fun e w' => e = .returned v ∧ ∃ m, w' = (w.drewN (p + n)).drewN m) : Calls P f args (w.drewN (p + n)) fun e w'' => e = .returned v ∧ ∃ n, w'' = w.drewN (p + n) :=
  h.mono fun _ _ ⟨he, m, hm⟩ => ⟨he, n + m, by rw [hm, World.drewN_drewN, Nat.add_assoc]⟩

theorem owned_at (c : DD) (g k : Nat) (hn : (c.da k).isNone = false) (h : 0 < c.dl k) : (c.owned g).da k = some ⟨g, sumTo c.dl k, none⟩ := by
  rw [(owned_some c g k hn).1, if_neg (by omega)]

set_option maxRecDepth 8000 in
set_option maxHeartbeats 16000000 in
theorem law (w : World) (a0 : Option Addr) (b0 o0 n0 cap0 : Nat) (O : Nat → Int) (a1 : Option Addr) (b1 o1 n1 cap1 : Nat) (D : Nat → Int) (a2 : Option Addr) (b2 o2 n2 cap2 : Nat) (S : Nat → Int) (a3 : Option Addr) (b3 o3 n3 cap3 : Nat) (T : Nat → Int) (a : Option Addr) (b o cap : Nat) (c : DD)
    (I : In5 w a0 b0 o0 n0 cap0 O a1 b1 o1 n1 cap1 D a2 b2 o2 n2 cap2 S a3 b3 o3 n3 cap3 T a b o cap c) :
    Calls Try.prog 6 #[.slice a0 n0 cap0, .slice a1 n1 cap1, .slice a2 n2 cap2, .slice a3 n3 cap3, .slice a c.n cap] w fun e w' => e = .returned (.bool true) ∧ Below w.heap.size w w' := by
  have s0 := I.s0
  have s1 := I.s1
  have s2 := I.s2
  have s3 := I.s3
  have s := I.s
  have J := hid I
  clear I
  go_enter Try.func6, Try.ntmps6
  go_wp2_with fail
  refine (bytes14 w a0 a1 a2 a3 a n0 cap0 n1 cap1 n2 cap2 n3 cap3 b o cap c J.out.A J.out.v J.out.s J.out.sp J.out.s0 J.out.s1 J.out.s2 J.out.s3).mono ?_
  rintro e w' ⟨⟨r, rfl⟩, rfl⟩
  cases r with
  | false =>
    go_wp2_with fail
    go_ret
    exact ⟨rfl, Below.refl _ _⟩
  | true =>
    by_cases g0 : n0 ≤ 65536
    · have d0 : decide ((65536 : Int) < (n0 : Int)) = false := by simp; omega
      by_cases g1 : n1 ≤ 65536
      · have d1 : decide ((65536 : Int) < (n1 : Int)) = false := by simp; omega
        by_cases g2 : n2 ≤ 65536
        · have d2 : decide ((65536 : Int) < (n2 : Int)) = false := by simp; omega
          by_cases g3 : n3 ≤ 65536
          · have d3 : decide ((65536 : Int) < (n3 : Int)) = false := by simp; omega
            by_cases g4 : c.n ≤ 65536
            · have d4 : decide ((65536 : Int) < (c.n : Int)) = false := by simp; omega
              by_cases gt : 8 * n0 + 8 * n1 + 8 * n2 + n3 + 24 * c.n ≤ 1048576
              · have HT := hid gt
                have HP := hid J.out.sp
                go_wp2_with fail
                go_loop [11, 12] (fun t i => ∃ k : Nat, k ≤ c.n ∧ i = .int .i64 k ∧ t = .int .i64 ((8 * n0 + 8 * n1 + 8 * n2 + n3 + 24 * c.n + sumTo c.dl k : Nat) : Int) ∧ 8 * n0 + 8 * n1 + 8 * n2 + n3 + 24 * c.n + sumTo c.dl k ≤ 1048576) (fun _ i => c.n - (intOf i).toNat)
                case atStart => exact ⟨0, Nat.zero_le _, rfl, by simp [sumTo], by simpa [sumTo] using gt⟩
                case round =>
                  obtain ⟨k, hk, rfl, rfl, hs⟩ := hrel
                  by_cases hlt : k < c.n
                  · obtain rfl := J.out.A (by omega)
                    have hc := J.out.v.head k hlt
                    have hpk := HP.out k hlt
                    have hsum : Hid (sumTo c.dl (k + 1) = sumTo c.dl k + c.dl k) := rfl
                    by_cases q1 : c.dl k ≤ 1048576
                    · by_cases q2 : 8 * n0 + 8 * n1 + 8 * n2 + n3 + 24 * c.n + sumTo c.dl k + c.dl k ≤ 1048576
                      · go_wp2_with fail
                        go_round
                        case rel => exact ⟨k + 1, by omega, by go_num, by rw [hsum.out]; go_num, by rw [hsum.out]; omega⟩
                        case measure => simp [intOf]; omega
                      · go_wp2_with fail
                        go_ret
                        exact ⟨rfl, Below.refl _ _⟩
                    · go_wp2_with fail
                      go_ret
                      exact ⟨rfl, Below.refl _ _⟩
                  · obtain rfl : k = c.n := by omega
                    have hN : sumTo c.dl c.n ≤ 1048576 := by omega
                    have HPL : Hid (∀ i, i < c.n → c.dl i ≤ 1048576) := hid (fun i hi => by have := le_sumTo c.dl hi; omega)
                    clear hs
                    by_cases e0 : n0 = c.n
                    · have f0 : ((n0 : Int) != (c.n : Int)) = false := by simp; omega
                      by_cases e1 : n1 = c.n
                      · have f1 : ((n1 : Int) != (c.n : Int)) = false := by simp; omega
                        by_cases e2 : n2 = c.n
                        · have f2 : ((n2 : Int) != (c.n : Int)) = false := by simp; omega
                          by_cases e3 : n3 = c.n
                          · have f3 : ((n3 : Int) != (c.n : Int)) = false := by simp; omega
                            subst e0 e1 e2 e3
                            clear f0 f1 f2 f3
                            have HS := hid hN
                            have hn6 : c.n ≤ 65536 := g4
                            have hn1 : c.n ≤ 1048576 := by omega
                            clear gt HT HP d0 d1 d2 d3 d4 g0 g1 g2 g3
                            go_wp2_with fail
                            refine (cloneI64 w a0 b0 o0 c.n cap0 O J.out.A0 J.out.N0 J.out.v0 hn1).mono ?_
                            intro e w1 h
                            obtain ⟨a0', cap0', rfl, -, A0', N0', V0', B1'⟩ := h.view (fun h => (J.out.N0 h).1)
                            clear h
                            have A0 := hid A0'
                            have V0 := hid V0'
                            have Q1 := hid B1'
                            clear A0' N0' V0' B1'
                            go_wp2_with fail
                            refine (cloneI64 w1 a1 b1 o1 c.n cap1 D J.out.A1 J.out.N1 (J.out.v1.below Q1.out) hn1).mono ?_
                            intro e w2 h
                            obtain ⟨a1', cap1', rfl, -, A1', N1', V1', B2'⟩ := h.view (fun h => (J.out.N1 h).1)
                            clear h
                            have A1 := hid A1'
                            have V1 := hid V1'
                            have B2 := hid B2'
                            have Q2 := hid (below_of Q1.out Q1.out.size B2')
                            clear A1' N1' V1' B2'
                            go_wp2_with fail
                            refine (cloneU64 w2 a2 b2 o2 c.n cap2 S J.out.A2 J.out.N2 (J.out.v2.below Q2.out) hn1).mono ?_
                            intro e w3 h
                            obtain ⟨a2', cap2', rfl, -, A2', N2', V2', B3'⟩ := h.view (fun h => (J.out.N2 h).1)
                            clear h
                            have A2 := hid A2'
                            have V2 := hid V2'
                            have B3 := hid B3'
                            have Q3 := hid (below_of Q2.out Q2.out.size B3')
                            clear A2' N2' V2' B3'
                            go_wp2_with fail
                            refine (cloneBytes w3 a3 b3 o3 c.n cap3 T J.out.A3 J.out.N3 (J.out.v3.below Q3.out) hn1).mono ?_
                            intro e w4 h
                            obtain ⟨a3', cap3', rfl, -, A3', N3', V3', B4'⟩ := h.view (fun h => (J.out.N3 h).1)
                            clear h
                            have A3 := hid A3'
                            have V3 := hid V3'
                            have B4 := hid B4'
                            have Q4 := hid (below_of Q3.out Q3.out.size B4')
                            clear A3' N3' V3' B4'
                            go_wp2_with fail
                            refine (cloneDeep w4 a b o cap c J.out.A J.out.N (J.out.v.below Q4.out) hn6 HPL.out).mono ?_
                            intro e w5 h
                            obtain ⟨a4', cap4', rfl, A4', N4', V4', B5', -⟩ := h.view (fun h => (J.out.N h).1) (fun i hi h => (J.out.v.nil i hi h).1)
                            clear h
                            have A4 := hid A4'
                            have N4 := hid N4'
                            have V4 := hid V4'
                            have B5 := hid B5'
                            have Q5 := hid (below_of Q4.out Q4.out.size B5')
                            clear A4' N4' V4' B5'
                            go_wp2_with fail
                            refine (cloneDeep w5 a4' w4.heap.size 0 cap4' (c.moved w4.heap.size) A4.out N4.out V4.out hn6 HPL.out).mono ?_
                            intro e w6 h
                            have hv6 : ∃ a' cap', e = .returned (.slice a' c.n cap') ∧ (0 < c.n → a' = some ⟨w5.heap.size, 0, none⟩) ∧ (a' = none → c.n = 0 ∧ cap' = 0) ∧ DDv w6 w5.heap.size 0 ((c.moved w4.heap.size).moved w5.heap.size) ∧ Below w5.heap.size w5 w6 ∧ SpRows w6 w5.heap.size (c.moved w4.heap.size) := h.view (fun h => (N4.out h).1) (fun i hi h => (V4.out.nil i hi h).1)
                            obtain ⟨a5', cap5', rfl, A5', N5', V5', B6', SP'⟩ := hv6
                            clear h
                            have A5 := hid A5'
                            have V5 := hid V5'
                            have B6 := hid B6'
                            have SP := hid SP'
                            have Q6 := hid (below_of Q5.out Q5.out.size B6')
                            clear A5' N5' V5' B6' SP'
                            go_wp2_with fail
                            have R2 := hid (below_of B2.out B2.out.size B3.out)
                            have R3 := hid (below_of R2.out R2.out.size B4.out)
                            have U1 := hid (((((V0.out.below B2.out).below B3.out).below B4.out).below B5.out).below B6.out)
                            have U2 := hid ((((V1.out.below B3.out).below B4.out).below B5.out).below B6.out)
                            have U3 := hid (((V2.out.below B4.out).below B5.out).below B6.out)
                            have U4 := hid ((V3.out.below B5.out).below B6.out)
                            refine (zzOwn w6 a0' a1' a2' a3' a5' w.heap.size 0 cap0' w1.heap.size 0 cap1' w2.heap.size 0 cap2' w3.heap.size 0 cap3' w5.heap.size 0 cap5' O D S T ((c.moved w4.heap.size).moved w5.heap.size) A0.out A1.out A2.out A3.out A5.out U1.out U2.out U3.out U4.out V5.out hn6 HS.out).mono ?_
                            intro e w7 h
                            have hz : ∃ g p, e = .returned (.tuple #[.slice (some ⟨p, 0, none⟩) c.n c.n, .slice (some ⟨p + 1, 0, none⟩) c.n c.n, .slice (some ⟨p + 1 + 1, 0, none⟩) c.n c.n, .slice (some ⟨p + 1 + 1 + 1, 0, none⟩) c.n c.n, .slice (some ⟨p + 1 + 1 + 1 + 1, 0, none⟩) c.n c.n]) ∧ Outed w6 w7 O D S T ((c.moved w4.heap.size).moved w5.heap.size) g p := h
                            obtain ⟨g, p, rfl, h'⟩ := hz
                            have OU := hid h'
                            have Q7 := hid (below_of Q6.out Q6.out.size h'.below)
                            clear h h'
                            go_wp2_with fail
                            go_loopw [20] (fun i wr => ∃ k : Nat, k ≤ c.n ∧ i = .int .i64 k ∧ ∃ m, wr = w7.drewN m) (fun i _ => c.n - (intOf i).toNat)
                            case atStart => exact ⟨0, Nat.zero_le _, rfl, 0, rfl⟩
                            case round =>
                              obtain ⟨k, hk, rfl, m, rfl⟩ := hrel
                              by_cases hlt : k < c.n
                              · have q0 := A0.out (by omega)
                                have q1 := A1.out (by omega)
                                have q2 := A2.out (by omega)
                                have q3 := A3.out (by omega)
                                have q4 := A4.out (by omega)
                                subst q0 q1 q2 q3 q4
                                have B7 := OU.out.below
                                have c0 := OU.out.r0.cell (i := k) hlt
                                have c1 := OU.out.r1.cell (i := k) hlt
                                have c2 := OU.out.r2.cell (i := k) hlt
                                have c3 := OU.out.r3.cell (i := k) hlt
                                have c4 : w7.cell? ⟨p + 1 + 1 + 1 + 1, k, none⟩ = some (.slice ((((c.moved w4.heap.size).moved w5.heap.size).owned g).da k) (c.dl k) ((((c.moved w4.heap.size).moved w5.heap.size).owned g).dc k)) := OU.out.r4.cell (i := k) hlt
                                have t0 := (U1.out.below B7) k hlt
                                have t1 := (U2.out.below B7) k hlt
                                have t2 := (U3.out.below B7) k hlt
                                have t3 := (U4.out.below B7) k hlt
                                have V6 := (V4.out.below B6.out).below B7
                                have t4 : w7.cell? ⟨w4.heap.size, 0 + k, none⟩ = some (.slice ((c.moved w4.heap.size).da k) (c.dl k) ((c.moved w4.heap.size).dc k)) := V6.head k hlt
                                rw [Nat.zero_add] at t0 t1 t2 t3 t4
                                have n1 : ∀ wx, (binOp .eql 30 (.slice ((((c.moved w4.heap.size).moved w5.heap.size).owned g).da k) (c.dl k) ((((c.moved w4.heap.size).moved w5.heap.size).owned g).dc k)) (.slice none 0 0)).run Try.prog wx = .ok (.bool (c.da k).isNone) wx := fun wx => by
                                  have := Lib.run_eql_slice_nil (P := Try.prog) wx 30 5 ((((c.moved w4.heap.size).moved w5.heap.size).owned g).da k) (c.dl k) ((((c.moved w4.heap.size).moved w5.heap.size).owned g).dc k) 0 0 Try.underlying30
                                  rw [owned_isNone, moved_isNone, moved_isNone] at this
                                  exact this
                                have n2 : ∀ wx, (binOp .eql 30 (.slice ((c.moved w4.heap.size).da k) (c.dl k) ((c.moved w4.heap.size).dc k)) (.slice none 0 0)).run Try.prog wx = .ok (.bool (c.da k).isNone) wx := fun wx => by
                                  have := Lib.run_eql_slice_nil (P := Try.prog) wx 30 5 ((c.moved w4.heap.size).da k) (c.dl k) ((c.moved w4.heap.size).dc k) 0 0 Try.underlying30
                                  rw [moved_isNone] at this
                                  exact this
                                have hpk := HPL.out k hlt
                                have hnn : 0 < c.dl k → (((c.moved w4.heap.size).moved w5.heap.size).da k).isNone = false := fun h => by
                                  rw [V5.out.at_ k hlt h]; rfl
                                obtain ⟨fo, hfo, hfv⟩ := OU.out.own
                                have I1 : Iv w7 .u8 g (sumTo c.dl k) (c.dl k) (c.dv k) := fun j hj => by
                                  have h1 : sumTo c.dl k + c.dl k ≤ sumTo c.dl c.n := le_sumTo c.dl hlt
                                  have h2 := hfo.cell (i := sumTo c.dl k + j) (show sumTo c.dl k + j < sumTo c.dl c.n by omega)
                                  rw [show fo (sumTo c.dl k + j) = .int .u8 (c.dv k j) from hfv k hlt j hj] at h2
                                  exact h2
                                have I2 : Iv w7 .u8 (w4.heap.size + 1 + cntTo c.da k) 0 (c.dl k) (c.dv k) := V6.val k hlt
                                have CS := hid (fun (x : World) (ex : x.heap = w7.heap) => sameBytes x ((((c.moved w4.heap.size).moved w5.heap.size).owned g).da k) ((c.moved w4.heap.size).da k) g (sumTo c.dl k) (w4.heap.size + 1 + cntTo c.da k) 0 (c.dl k) ((((c.moved w4.heap.size).moved w5.heap.size).owned g).dc k) ((c.moved w4.heap.size).dc k) (c.dv k) (c.dv k) (fun h => owned_at _ g k (hnn h) h) (fun h => V6.at_ k hlt h) (I1.heap ex) (I2.heap ex) hpk (fun _ _ => rfl))
                                clear V6 hnn hfo hfv I1 I2 B7
                                go_wp2_with fail
                                go_quiet (fail)
                                go_wp2_with fail
                                go_quiet ((go_at_call 18; refine quiet_mid (CS.out _ ?_); rfl))
                                go_wp2_with fail
                                go_roundw
                                case rel => exact ⟨k + 1, by omega, by go_num, _, rfl⟩
                                case measure => simp [intOf]; omega
                              · obtain rfl : k = c.n := by omega
                                go_wp2_with fail
                                have SP7 : SpRows w7 w5.heap.size (c.moved w4.heap.size) := fun i hi hn => by
                                  obtain ⟨f, hf, hx⟩ := SP.out i hi hn
                                  exact ⟨f, row_below hf OU.out.below, hx⟩
                                have SP7H := hid SP7
                                clear SP7
                                have K56 : w5.heap.size ≤ w6.heap.size := B6.out.size
                                have HL := hid OU.out.lo
                                have HG := hid OU.out.gp
                                go_loopw [21] (fun i wr => ∃ k : Nat, k ≤ c.n ∧ i = .int .i64 k ∧ Kept (fun b => w5.heap.size < b ∧ b < w6.heap.size) w7 wr ∧ SpRows wr w5.heap.size (c.moved w4.heap.size)) (fun i _ => c.n - (intOf i).toNat)
                                case atStart => exact ⟨0, Nat.zero_le _, rfl, (Kept.refl _ _).drewN _, SP7H.out⟩
                                case round =>
                                  obtain ⟨k, hk, rfl, hkp, hsp⟩ := hrel
                                  have KP := hid hkp
                                  have SPR := hid hsp
                                  clear hkp hsp
                                  by_cases hlt : k < c.n
                                  · have q5 := A5.out (by omega)
                                    subst q5
                                    go_wp2_with fail
                                    go_loopw [22] (fun i wr => ∃ t : Nat, t ≤ c.dl k ∧ i = .int .i64 t ∧ Kept (fun b => w5.heap.size < b ∧ b < w6.heap.size) w7 wr ∧ SpRows wr w5.heap.size (c.moved w4.heap.size)) (fun i _ => c.dl k - (intOf i).toNat)
                                    case atStart => exact ⟨0, Nat.zero_le _, rfl, KP.out, SPR.out⟩
                                    case round =>
                                      obtain ⟨t, ht, rfl, hkp, hsp⟩ := hrel
                                      have KP2 := hid hkp
                                      have SPR2 := hid hsp
                                      have h0 : w7.cell? ⟨w5.heap.size, 0 + k, none⟩ = some (.slice (((c.moved w4.heap.size).moved w5.heap.size).da k) (c.dl k) (((c.moved w4.heap.size).moved w5.heap.size).dc k)) := (V5.out.below OU.out.below).head k hlt
                                      have c0 := hkp.cell h0 (fun h => by have : w5.heap.size < w5.heap.size := h.1; omega)
                                      rw [Nat.zero_add] at c0
                                      have hpk := HPL.out k hlt
                                      clear h0
                                      by_cases htl : t < c.dl k
                                      · have hat : ((c.moved w4.heap.size).moved w5.heap.size).da k = some ⟨w5.heap.size + 1 + cntTo (c.moved w4.heap.size).da k, 0, none⟩ := V5.out.at_ k hlt (by show 0 < c.dl k; omega)
                                        rw [hat] at c0
                                        have hnn : ((c.moved w4.heap.size).da k).isNone = false := by rw [← moved_isNone (c.moved w4.heap.size) w5.heap.size k, hat]; rfl
                                        obtain ⟨f, hf, hx⟩ := hsp k hlt hnn
                                        obtain ⟨x, hxv⟩ := hx t htl
                                        have d0 := hf.cell (i := t) htl
                                        rw [hxv] at d0
                                        have d1 := hf.frozen t
                                        have hin : w5.heap.size < w5.heap.size + 1 + cntTo (c.moved w4.heap.size).da k ∧ w5.heap.size + 1 + cntTo (c.moved w4.heap.size).da k < w6.heap.size := by
                                          obtain ⟨f6, hf6, _⟩ := SP.out k hlt hnn
                                          have := hf6.lt
                                          omega
                                        have HIN := hid hin
                                        clear hkp hsp hat hnn hf hx hxv hin
                                        go_wp2_with fail
                                        go_roundw
                                        case rel => exact ⟨t + 1, by omega, by go_num, KP2.out.setCell HIN.out _, SPR2.out.put _ _ _⟩
                                        case measure => simp [intOf]; omega
                                      · obtain rfl : t = c.dl k := by omega
                                        clear hkp hsp
                                        go_wp2_with fail
                                        go_roundw
                                        case rel => exact ⟨k + 1, by omega, by go_num, KP2.out, SPR2.out⟩
                                        case measure => simp [intOf]; omega
                                  · obtain rfl : k = c.n := by omega
                                    obtain ⟨w8, hw8⟩ : ∃ x, x = wr := ⟨_, rfl⟩
                                    subst hw8
                                    go_wp2_with fail
                                    have hgs : w6.heap.size ≤ g := HL.out
                                    have hgp : g < p := HG.out
                                    go_loopw [23] (fun i wr => ∃ k : Nat, k ≤ c.n ∧ i = .int .i64 k ∧ ∃ m, wr = w8.drewN m) (fun i _ => c.n - (intOf i).toNat)
                                    case atStart => exact ⟨0, Nat.zero_le _, rfl, 0, rfl⟩
                                    case round =>
                                      obtain ⟨k, hk, rfl, m2, rfl⟩ := hrel
                                      by_cases hlt : k < c.n
                                      · have q4 := A4.out (by omega)
                                        subst q4
                                        have h4 : w7.cell? ⟨p + 1 + 1 + 1 + 1, k, none⟩ = some (.slice ((((c.moved w4.heap.size).moved w5.heap.size).owned g).da k) (c.dl k) ((((c.moved w4.heap.size).moved w5.heap.size).owned g).dc k)) := OU.out.r4.cell (i := k) hlt
                                        have c4 := KP.out.cell h4 (fun h => by have : p + 1 + 1 + 1 + 1 < w6.heap.size := h.2; omega)
                                        have V6 := (V4.out.below B6.out).below OU.out.below
                                        have g4' : w7.cell? ⟨w4.heap.size, 0 + k, none⟩ = some (.slice ((c.moved w4.heap.size).da k) (c.dl k) ((c.moved w4.heap.size).dc k)) := V6.head k hlt
                                        have h45 : w4.heap.size < w5.heap.size := World.block_lt_of_cell? w5 _ (V4.out.head k hlt)
                                        have t4 := KP.out.cell g4' (fun h => by have : w5.heap.size < w4.heap.size := h.1; omega)
                                        rw [Nat.zero_add] at t4
                                        have hpk := HPL.out k hlt
                                        have hnn : 0 < c.dl k → (((c.moved w4.heap.size).moved w5.heap.size).da k).isNone = false := fun h => by
                                          rw [V5.out.at_ k hlt h]; rfl
                                        obtain ⟨fo, hfo, hfv⟩ := OU.out.own
                                        have hfo8 := KP.out.row hfo (fun h => by have := h.2; omega)
                                        have I1 : Iv w8 .u8 g (sumTo c.dl k) (c.dl k) (c.dv k) := fun j hj => by
                                          have h1 : sumTo c.dl k + c.dl k ≤ sumTo c.dl c.n := le_sumTo c.dl hlt
                                          have h2 := hfo8.cell (i := sumTo c.dl k + j) (show sumTo c.dl k + j < sumTo c.dl c.n by omega)
                                          rw [show fo (sumTo c.dl k + j) = .int .u8 (c.dv k j) from hfv k hlt j hj] at h2
                                          exact h2
                                        have I2' : Iv w7 .u8 (w4.heap.size + 1 + cntTo c.da k) 0 (c.dl k) (c.dv k) := V6.val k hlt
                                        have I2 := KP.out.iv I2' (fun hp h => by
                                          have : w4.heap.size + 1 + cntTo c.da k < w5.heap.size := World.block_lt_of_cell? w5 _ (V4.out.val k hlt 0 hp)
                                          have := h.1
                                          omega)
                                        have CS := hid (fun (x : World) (ex : x.heap = w8.heap) => sameBytes x ((((c.moved w4.heap.size).moved w5.heap.size).owned g).da k) ((c.moved w4.heap.size).da k) g (sumTo c.dl k) (w4.heap.size + 1 + cntTo c.da k) 0 (c.dl k) ((((c.moved w4.heap.size).moved w5.heap.size).owned g).dc k) ((c.moved w4.heap.size).dc k) (c.dv k) (c.dv k) (fun h => owned_at _ g k (hnn h) h) (fun h => V6.at_ k hlt h) (I1.heap ex) (I2.heap ex) hpk (fun _ _ => rfl))
                                        clear V6 hnn hfo hfv hfo8 I1 I2 I2' h4 g4'
                                        go_wp2_with fail
                                        go_quiet ((go_at_call 18; refine quiet_mid (CS.out _ ?_); rfl))
                                        go_wp2_with fail
                                        go_roundw
                                        case rel => exact ⟨k + 1, by omega, by go_num, _, rfl⟩
                                        case measure => simp [intOf]; omega
                                      · obtain rfl : k = c.n := by omega
                                        have hown8 : ∃ f, w8.rowIs g 5 (sumTo c.dl c.n) f := by
                                          obtain ⟨fo, hfo, _⟩ := OU.out.own
                                          exact ⟨fo, KP.out.row hfo (fun h => by have := h.2; omega)⟩
                                        have HO8 := hid hown8
                                        clear hown8
                                        go_wp2_with fail
                                        go_loopw [24] (fun i wr => ∃ q : Nat, q ≤ 2 ∧ i = .int .i64 q ∧ Marked w8 wr g c q 0 0) (fun i _ => 2 - (intOf i).toNat)
                                        case atStart =>
                                          obtain ⟨f, hf⟩ := HO8.out
                                          exact ⟨0, Nat.zero_le _, rfl, ⟨f, hf, fun i hi => by omega, fun j hj => by omega⟩, (Kept.refl _ _).drewN _⟩
                                        case round =>
                                          obtain ⟨q, hq, rfl, hmk⟩ := hrel
                                          have M0 := hid hmk
                                          clear hmk
                                          by_cases hq2 : q < 2
                                          · have dq : decide ((q : Int) < 2) = true := by simp; omega
                                            go_wp2_with fail
                                            go_loopw [25] (fun i wr => ∃ k : Nat, k ≤ c.n ∧ i = .int .i64 k ∧ Marked w8 wr g c q k 0) (fun i _ => c.n - (intOf i).toNat)
                                            case atStart => exact ⟨0, Nat.zero_le _, rfl, M0.out⟩
                                            case round =>
                                              obtain ⟨k, hk, rfl, hmk⟩ := hrel
                                              have M1 := hid hmk
                                              clear hmk
                                              by_cases hlt : k < c.n
                                              · go_wp2_with fail
                                                refine (mark wr k q (by omega) (by omega)).mono ?_
                                                rintro e w' ⟨rfl, rfl⟩
                                                have hpk := HPL.out k hlt
                                                have h4 : w7.cell? ⟨p + 1 + 1 + 1 + 1, k, none⟩ = some (.slice ((((c.moved w4.heap.size).moved w5.heap.size).owned g).da k) (c.dl k) ((((c.moved w4.heap.size).moved w5.heap.size).owned g).dc k)) := OU.out.r4.cell (i := k) hlt
                                                have C4 := hid (KP.out.cell h4 (fun h => by have : p + 1 + 1 + 1 + 1 < w6.heap.size := h.2; omega))
                                                clear h4
                                                have hnn : 0 < c.dl k → (((c.moved w4.heap.size).moved w5.heap.size).da k).isNone = false := fun h => by
                                                  rw [V5.out.at_ k hlt h]; rfl
                                                have HAT : Hid (0 < c.dl k → (((c.moved w4.heap.size).moved w5.heap.size).owned g).da k = some ⟨g, sumTo c.dl k, none⟩) := hid (fun h => owned_at _ g k (hnn h) h)
                                                clear hnn
                                                go_wp2_with fail
                                                go_loopw [27] (fun i wr => ∃ t : Nat, t ≤ c.dl k ∧ i = .int .i64 t ∧ Marked w8 wr g c q k t) (fun i _ => c.dl k - (intOf i).toNat)
                                                case atStart => exact ⟨0, Nat.zero_le _, rfl, M1.out⟩
                                                case round =>
                                                  obtain ⟨t, ht, rfl, hmk⟩ := hrel
                                                  have M2 := hid hmk
                                                  have c4 := hmk.kept.cell C4.out (fun h => by have : p + 1 + 1 + 1 + 1 = g := h; omega)
                                                  by_cases htl : t < c.dl k
                                                  · rw [HAT.out (by omega)] at c4
                                                    obtain ⟨f, hf, _, _⟩ := hmk.row
                                                    have hs1 : sumTo c.dl k + c.dl k ≤ sumTo c.dl c.n := le_sumTo c.dl hlt
                                                    have d0 := hf.cell (i := sumTo c.dl k + t) (by omega)
                                                    have d1 := hf.frozen (sumTo c.dl k + t)
                                                    clear hmk hf
                                                    go_wp2_with fail
                                                    go_roundw
                                                    case rel => exact ⟨t + 1, by omega, by go_num, M2.out.put _ rfl⟩
                                                    case measure => simp [intOf]; omega
                                                  · obtain rfl : t = c.dl k := by omega
                                                    clear hmk
                                                    go_wp2_with fail
                                                    go_roundw
                                                    case rel => exact ⟨k + 1, by omega, by go_num, M2.out.next⟩
                                                    case measure => simp [intOf]; omega
                                              · obtain rfl : k = c.n := by omega
                                                obtain ⟨w9, hw9⟩ : ∃ x, x = wr := ⟨_, rfl⟩
                                                subst hw9
                                                go_wp2_with fail
                                                go_loop [28] (fun i => ∃ k : Nat, k ≤ c.n ∧ i = .int .i64 k) (fun i => c.n - (intOf i).toNat)
                                                case atStart => exact ⟨0, Nat.zero_le _, rfl⟩
                                                case round =>
                                                  obtain ⟨k, hk, rfl⟩ := hrel
                                                  by_cases hlt : k < c.n
                                                  · go_wp2_with fail
                                                    refine (mark w9 k q (by omega) (by omega)).mono ?_
                                                    rintro e w' ⟨rfl, rfl⟩
                                                    have hpk := HPL.out k hlt
                                                    have h4 : w7.cell? ⟨p + 1 + 1 + 1 + 1, k, none⟩ = some (.slice ((((c.moved w4.heap.size).moved w5.heap.size).owned g).da k) (c.dl k) ((((c.moved w4.heap.size).moved w5.heap.size).owned g).dc k)) := OU.out.r4.cell (i := k) hlt
                                                    have h48 := KP.out.cell h4 (fun h => by have : p + 1 + 1 + 1 + 1 < w6.heap.size := h.2; omega)
                                                    have c4 := M1.out.kept.cell h48 (fun h => by have : p + 1 + 1 + 1 + 1 = g := h; omega)
                                                    clear h4 h48
                                                    have hnn : 0 < c.dl k → (((c.moved w4.heap.size).moved w5.heap.size).da k).isNone = false := fun h => by
                                                      rw [V5.out.at_ k hlt h]; rfl
                                                    have HAT : Hid (0 < c.dl k → (((c.moved w4.heap.size).moved w5.heap.size).owned g).da k = some ⟨g, sumTo c.dl k, none⟩) := hid (fun h => owned_at _ g k (hnn h) h)
                                                    clear hnn
                                                    go_wp2_with fail
                                                    go_loop [30] (fun i => ∃ t : Nat, t ≤ c.dl k ∧ i = .int .i64 t) (fun i => c.dl k - (intOf i).toNat)
                                                    case atStart => exact ⟨0, Nat.zero_le _, rfl⟩
                                                    case round =>
                                                      obtain ⟨t, ht, rfl⟩ := hrel
                                                      by_cases htl : t < c.dl k
                                                      · rw [HAT.out (by omega)] at c4
                                                        obtain ⟨f, hf, hfm, _⟩ := M1.out.row
                                                        have hs1 : sumTo c.dl k + c.dl k ≤ sumTo c.dl c.n := le_sumTo c.dl hlt
                                                        have d0 := hf.cell (i := sumTo c.dl k + t) (by omega)
                                                        rw [hfm k hlt t htl] at d0
                                                        clear hf hfm
                                                        go_wp2_with fail
                                                        go_round
                                                        case rel => exact ⟨t + 1, by omega, by go_num⟩
                                                        case measure => simp [intOf]; omega
                                                      · obtain rfl : t = c.dl k := by omega
                                                        go_wp2_with fail
                                                        go_round
                                                        case rel => exact ⟨k + 1, by omega, by go_num⟩
                                                        case measure => simp [intOf]; omega
                                                  · obtain rfl : k = c.n := by omega
                                                    go_wp2_with fail
                                                    go_roundw
                                                    case rel => exact ⟨q + 1, by omega, by go_num, M1.out.again _⟩
                                                    case measure => simp [intOf]; omega
                                          · have dq : decide ((q : Int) < 2) = false := by simp; omega
                                            go_wp2_with fail
                                            go_ret
                                            refine ⟨rfl, ?_⟩
                                            have z7 := Q7.out.size
                                            have z6 := Q6.out.size
                                            have z5 := Q5.out.size
                                            have y8 := KP.out.size
                                            have k8 := KP.out.below (B := w.heap.size) z7 (fun b hb h => by have := h.1; omega)
                                            have k9 := M0.out.kept.below (B := w.heap.size) (by omega) (fun b hb h => by omega)
                                            exact (Q7.out.trans k8).trans k9
                          · have f3 : ((n3 : Int) != (c.n : Int)) = true := by simp; omega
                            go_wp2_with fail
                            go_ret
                            exact ⟨rfl, Below.refl _ _⟩
                        · have f2 : ((n2 : Int) != (c.n : Int)) = true := by simp; omega
                          go_wp2_with fail
                          go_ret
                          exact ⟨rfl, Below.refl _ _⟩
                      · have f1 : ((n1 : Int) != (c.n : Int)) = true := by simp; omega
                        go_wp2_with fail
                        go_ret
                        exact ⟨rfl, Below.refl _ _⟩
                    · have f0 : ((n0 : Int) != (c.n : Int)) = true := by simp; omega
                      go_wp2_with fail
                      go_ret
                      exact ⟨rfl, Below.refl _ _⟩
              · go_wp2_with fail
                go_ret
                exact ⟨rfl, Below.refl _ _⟩
            · have d4 : decide ((65536 : Int) < (c.n : Int)) = true := by simp; omega
              go_wp2_with fail
              go_ret
              exact ⟨rfl, Below.refl _ _⟩
          · have d3 : decide ((65536 : Int) < (n3 : Int)) = true := by simp; omega
            go_wp2_with fail
            go_ret
            exact ⟨rfl, Below.refl _ _⟩
        · have d2 : decide ((65536 : Int) < (n2 : Int)) = true := by simp; omega
          go_wp2_with fail
          go_ret
          exact ⟨rfl, Below.refl _ _⟩
      · have d1 : decide ((65536 : Int) < (n1 : Int)) = true := by simp; omega
        go_wp2_with fail
        go_ret
        exact ⟨rfl, Below.refl _ _⟩
    · have d0 : decide ((65536 : Int) < (n0 : Int)) = true := by simp; omega
      go_wp2_with fail
      go_ret
      exact ⟨rfl, Below.refl _ _⟩
end Go.Proofs.Qxb6605551a
