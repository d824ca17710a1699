/-
  ZZgrow, and what the laws on grow lay together.
-/
import Derived.Test.Qxb6605479aGrow
namespace Go.Proofs.Qxb6605479a
open Go.RowKit

theorem sumTo_at (f : Nat → Nat) {i k : Nat} (h : i < k) : f i ≤ sumTo f k := by
  have := sumTo_mono f (show i + 1 ≤ k from h)
  have e : sumTo f (i + 1) = sumTo f i + f i := rfl
  omega

theorem askTo_eq (c : CA) : ∀ k, askTo c k = sumTo c.pl k + k
  | 0 => rfl
  | k + 1 => by
    have := askTo_eq c k
    rw [askTo_succ, this]
    show _ = sumTo c.pl k + c.pl k + (k + 1)
    omega

/-- The administrative side that a slice stands for. -/
def admOf (aa : Option Addr) (A : Nat → Bool) : Option (Nat → Bool) := if aa.isNone = true then none else some A

theorem admV_of {B0 : Nat} {w : World} {aa : Option Addr} {an n : Nat} {A : Nat → Bool} {v : Value} (h : OwnB B0 w aa.isNone an A v) (hlen : aa ≠ none → n = an) :
    ∃ a cap, v = .slice a an cap ∧ AdmV w a an cap n (admOf aa A) ∧ (∀ ab, a = some ⟨ab, 0, none⟩ → B0 ≤ ab) ∧ a.isNone = aa.isNone := by
  obtain ⟨a, b, cap, h1, h2, h3, h4⟩ := h
  refine ⟨a, cap, h1, ?_, fun ab e => ?_, h2⟩
  · unfold admOf
    cases e : aa.isNone with
    | true =>
      rw [if_pos rfl]
      rw [e] at h2
      have ha : a = none := by simpa using h2
      exact ⟨ha, h3 ha⟩
    | false =>
      rw [if_neg (by decide)]
      rw [e] at h2
      have ha : a ≠ none := by intro ha; rw [ha] at h2; cases h2
      have hn : n = an := hlen (by intro ha'; rw [ha'] at e; cases e)
      obtain ⟨h5, _, h6⟩ := h4 ha
      subst hn
      exact ⟨b, h5, rfl, bv_of_row h6⟩
  · obtain ⟨h5, h6, _⟩ := h4 (by rw [e]; simp)
    rw [e] at h5
    have : ab = b := by simpa using h5
    omega

/-- Nothing is there to be grown: no rule, no role. -/
theorem grow41_zero (w : World) (ra ha : Option Addr) (rcap hcap : Nat) (aa : Option Addr) (an acap : Nat) :
    Calls Try.prog 41 #[.slice ra 0 rcap, .slice ha 0 hcap, .slice aa an acap] w fun e w' => e = .returned (.tuple #[]) ∧ w.grownBy w' none := by
  have hmk1 : ∀ w : World, (Instr.makeSlice 64 (.int .i64 0) (.int .i64 0)).run Try.prog w = .ok (.slice (some ⟨w.heap.size, 0, none⟩) 0 0) (w.alloc (.cells (madeCells #[.int .i64 0] 0) 3)) := fun w => run_make_row' (P := Try.prog) 64 3 (.int .i64 0) 8 Try.underlying64 Try.info3 rfl .i64 .i64 0 (by omega) (by omega) w
  have hmk2 : ∀ w : World, (Instr.makeSlice 77 (.int .i64 0) (.int .i64 0)).run Try.prog w = .ok (.slice (some ⟨w.heap.size, 0, none⟩) 0 0) (w.alloc (.cells (madeCells #[.slice none 0 0] 0) 64)) := fun w => run_make_row' (P := Try.prog) 77 64 (.slice none 0 0) 24 Try.underlying77 Try.info64 rfl .i64 .i64 0 (by omega) (by omega) w
  have hfin : ∀ o1 o2 o3 o4 o5, Below w.heap.size w (((((w.alloc o1).alloc o2).alloc o3).alloc o4).alloc o5) := fun o1 o2 o3 o4 o5 =>
    ((((((Below.refl _ _).alloc (Nat.le_refl _) o1).alloc (by simp) o2).alloc (by simp; omega) o3).alloc (by simp; omega) o4).alloc (by simp; omega) o5)
  have HF := hid hfin
  clear hfin
  go_enter Try.func41, Try.ntmps41
  go_wp2_with fail
  go_loopw [9, 26] (fun v i wr => v = .slice none 0 0 ∧ i = .int .i64 0 ∧ Below w.heap.size w wr) (fun _ _ _ => 0)
  case atStart => exact ⟨rfl, rfl, HF.out _ _ _ _ _⟩
  case round =>
    obtain ⟨rfl, rfl, hb⟩ := hrel
    have HB := hid hb
    clear hb
    go_wp2_with fail
    go_loopw [9] (fun v wi => v = .slice none 0 0 ∧ Below w.heap.size w wi) (fun _ _ => 0)
    case atStart => exact ⟨rfl, HB.out⟩
    case round =>
      obtain ⟨rfl, hb⟩ := hrel
      have HB := hid hb
      clear hb
      go_wp2_with fail
      go_end0
      have hb := HB.out
      exact ⟨rfl, hb.os, hb.tape, hb.output, hb.size, fun k hk _ => hb.block k hk⟩

theorem OwnB.ownLt {B0 : Nat} {w : World} {nl : Bool} {n : Nat} {B : Nat → Bool} {v : Value} (h : OwnB B0 w nl n B v) : ∀ k, v.ownBlock = some k → B0 ≤ k ∧ k < w.heap.size := by
  obtain ⟨a, b, cap, rfl, _, _, h4⟩ := h
  intro k hk
  cases a with
  | none => simp [Value.ownBlock] at hk
  | some ad =>
    obtain ⟨h5, h6, h7⟩ := h4 (by simp)
    have e : ad = ⟨b, 0, none⟩ := by simpa using h5
    subst e
    have : b = k := by simpa [Value.ownBlock] using hk
    subst this
    exact ⟨h6, h7.lt⟩

/-- ZZgrow ON A SLICE OF THE CALL's OWN. -/
theorem zzgrow (w : World) (ra : Option Addr) (rb ro rcap : Nat) (c : CA) (hRA : 0 < c.n → ra = some ⟨rb, ro, none⟩) (hv : CAv w rb ro c) (n : Nat) (hin : CAin c n)
    (B0 : Nat) (nl : Bool) (H : Nat → Bool) (v : Value) (hH : OwnB B0 w nl n H v) (hoff : ∀ hb, v.ownBlock = some hb → Off c rb hb)
    (aa : Option Addr) (an acap : Nat) (adm : Option (Nat → Bool)) (hadm : AdmV w aa an acap n adm) (hao : ∀ ab, aa = some ⟨ab, 0, none⟩ → v.ownBlock ≠ some ab)
    (hp : ∀ i, i < c.n → c.pl i ≤ 1048576) (hS : askTo c c.n ≤ 2097152) (hn : n ≤ 65536) (hR : c.n ≤ 65536) :
    Calls Try.prog 15 #[.slice ra c.n rcap, v, .slice aa an acap] w fun e w' => e = .returned (.tuple #[]) ∧ ∃ X, Plain.IsLfp n adm (ruleOf c) c.n H X ∧ OwnB B0 w' nl n X v ∧ w.grownBy w' v.ownBlock := by
  have core : Calls Try.prog 41 #[.slice ra c.n rcap, v, .slice aa an acap] w fun e w' => e = .returned (.tuple #[]) ∧ ∃ X, Plain.IsLfp n adm (ruleOf c) c.n H X ∧ OwnB B0 w' nl n X v ∧ w.grownBy w' v.ownBlock := by
    by_cases hn0 : n = 0
    · have hc0 : c.n = 0 := by
        rcases Nat.eq_zero_or_pos c.n with h | h
        · exact h
        · have := (hin 0 h).1
          omega
      obtain ⟨a, b, cap, rfl, h2, h3, h4⟩ := hH
      subst hn0
      rw [hc0]
      refine (grow41_zero w ra a rcap cap aa an acap).mono ?_
      rintro e w' ⟨rfl, hg⟩
      refine ⟨rfl, H, ⟨fun x hx => by omega, fun i hi => by omega, fun Y _ _ x hx => by omega⟩, ⟨a, b, cap, rfl, h2, h3, fun ha => ?_⟩, hg.os, hg.tape, hg.output, hg.size, fun k hk _ => hg.block k hk (by simp)⟩
      obtain ⟨h5, h6, h7⟩ := h4 ha
      exact ⟨h5, h6, h7.of_block (hg.block b h7.lt (by simp))⟩
    · obtain ⟨a, b, cap, rfl, h2, h3, h4⟩ := hH
      have ha : a ≠ none := fun e => by have := (h3 e).1; omega
      obtain ⟨rfl, h6, h7⟩ := h4 ha
      refine (grow41 w ra rb ro rcap c hRA hv n hin b cap H h7 (hoff b rfl) aa an acap adm hadm (fun ab e => fun e' => hao ab e (by rw [e']; rfl)) hp hS hn hR).mono ?_
      rintro e w' ⟨rfl, X, hX, hr, hg⟩
      exact ⟨rfl, X, hX, ⟨_, b, cap, rfl, h2, h3, fun _ => ⟨rfl, h6, hr⟩⟩, hg⟩
  have HC := hid core
  clear core hH
  go_enter Try.func15, Try.ntmps15
  go_wp2_with (go_at_call 41; refine HC.out.mono ?_; rintro e w' ⟨rfl, hr⟩; have HR := hid hr; clear hr)
  go_end0
  exact ⟨rfl, HR.out⟩
end Go.Proofs.Qxb6605479a
