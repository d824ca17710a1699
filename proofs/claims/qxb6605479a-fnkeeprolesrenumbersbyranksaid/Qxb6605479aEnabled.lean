/-
  zzEnabled: a rule can fire; the rules as the plain laws see them.
-/
import Derived.Test.Qxb6605479aCopies
namespace Go.Proofs.Qxb6605479a
open Go.RowKit

/-- Rule i as the plain laws see it. -/
def ruleOf (c : CA) (i : Nat) : Plain.Rule :=
  { ad := (c.ad i).toNat
    req := ((List.range (c.pl i)).filter fun j => !c.ln i j).map fun j => (c.lr i j).toNat
    ro := (c.ro i).toNat }

theorem req_all (c : CA) (i : Nat) (X : Nat → Bool) : (ruleOf c i).req.all X = true ↔ ∀ j, j < c.pl i → c.ln i j = true ∨ X (c.lr i j).toNat = true := by
  simp only [ruleOf, List.all_eq_true, List.mem_map, List.mem_filter, List.mem_range]
  constructor
  · intro h j hj
    cases e : c.ln i j with
    | true => exact .inl rfl
    | false => exact .inr (h _ ⟨j, ⟨hj, by simp [e]⟩, rfl⟩)
  · rintro h x ⟨j, ⟨hj, hn⟩, rfl⟩
    rcases h j hj with h1 | h1
    · simp [h1] at hn
    · exact h1

theorem inRange_of {c : CA} {n : Nat} (h : CAin c n) : Plain.InRange n (ruleOf c) c.n := by
  intro i hi
  obtain ⟨⟨h1, h2⟩, ⟨h3, h4⟩, h5⟩ := h i hi
  refine ⟨by show (c.ad i).toNat < n; omega, by show (c.ro i).toNat < n; omega, fun r hr => ?_⟩
  simp only [ruleOf, List.mem_map, List.mem_filter, List.mem_range] at hr
  obtain ⟨j, ⟨hj, _⟩, rfl⟩ := hr
  have := h5 j hj
  omega

/-- The administrative list: nil, or n bools. -/
def AdmV (w : World) (aa : Option Addr) (an acap n : Nat) (adm : Option (Nat → Bool)) : Prop :=
  match adm with
  | none => aa = none ∧ an = 0 ∧ acap = 0
  | some A => ∃ ab, aa = some ⟨ab, 0, none⟩ ∧ n = an ∧ Bv w ab 0 n A

theorem AdmV.below {w w' : World} {aa : Option Addr} {an acap n : Nat} {adm : Option (Nat → Bool)} (h : AdmV w aa an acap n adm) (hb : Below w.heap.size w w') : AdmV w' aa an acap n adm := by
  cases adm with
  | none => exact h
  | some A => obtain ⟨ab, h1, h2, h3⟩ := h; exact ⟨ab, h1, h2, h3.below hb⟩

theorem cell_alloc {w : World} {a : Addr} {v : Value} (h : w.cell? a = some v) (o : Obj) : (w.alloc o).cell? a = some v := by
  rw [World.cell?_alloc_lt _ _ _ (World.block_lt_of_cell? w a h)]; exact h

set_option maxHeartbeats 1000000 in
theorem enabled20 (w : World) (c : CA) (b o i : Nat) (hi : i < c.n) (hv : CAv w b o c) (n : Nat) (hin : CAin c n) (X : Nat → Bool) (cb ccap : Nat) (hX : Bv w cb 0 n X) (aa : Option Addr) (an acap : Nat) (adm : Option (Nat → Bool)) (hadm : AdmV w aa an acap n adm) (hp : c.pl i ≤ 1048576) (ro : Int) :
    Calls Try.prog 20 #[.agg #[.int .i64 (c.ad i), .slice (c.pa i) (c.pl i) (c.pc i), .int .i64 ro], .slice (some ⟨cb, 0, none⟩) n ccap, .slice aa an acap] w fun e w' => e = .returned (.bool (Plain.enabled adm X (ruleOf c i))) ∧ Below w.heap.size w w' := by
  obtain ⟨⟨h1, h2⟩, _, h5⟩ := hin i hi
  have heq : ∀ wx, (binOp .eql 23 (.slice aa an acap) (.slice none 0 0)).run Try.prog wx = .ok (.bool aa.isNone) wx := fun wx => Lib.run_eql_slice_nil wx 23 4 aa an acap 0 0 Try.underlying23
  have hend : Plain.enabled adm X (ruleOf c i) = (Plain.admOk adm X (c.ad i).toNat && (ruleOf c i).req.all X) := rfl
  have hreq := req_all c i X
  generalize (ruleOf c i).req.all X = rq at hend hreq
  generalize Plain.enabled adm X (ruleOf c i) = res at hend
  obtain ⟨x, hx⟩ : ∃ x : Nat, c.ad i = x := ⟨(c.ad i).toNat, by omega⟩
  rw [hx] at h2 hend ⊢
  rw [Int.toNat_natCast] at hend
  have hxn : x < n := by omega
  have cX : ∀ o, (w.alloc o).cell? ⟨cb, x, none⟩ = some (.bool (X x)) := fun o => cell_alloc (by simpa using hX x hxn) o
  have HL := hid (fun j (hj : j < c.pl i) => hv.lr i hi j hj)
  have HN := hid (fun j (hj : j < c.pl i) => hv.ln i hi j hj)
  have HA := hid (hv.at_ i hi)
  have HX := hid hX
  have HI := hid h5
  have HR := hid hreq
  have HE := hid hend
  clear hx hv hX h5 hreq hend hin h1
  generalize c.pa i = pa at HA ⊢
  cases adm with
  | none =>
    obtain ⟨rfl, rfl, rfl⟩ := hadm
    simp only [Option.isNone_none] at heq
    simp only [Plain.admOk] at HE
    cases ax : X x with
    | false =>
      rw [ax] at cX
      have AX := hid ax
      clear ax HL HN HI HA HX HR
      go_enter Try.func20, Try.ntmps20
      go_wp2
      go_ret
      refine ⟨congrArg (fun r => Ending.returned (.bool r)) ?_, (Below.refl _ _).alloc (Nat.le_refl _) _⟩
      rw [HE.out, AX.out, Bool.false_and]
    | true =>
      rw [ax] at cX
      have AX := hid ax
      clear ax
      go_enter Try.func20, Try.ntmps20
      go_wp2
      go_loop [7] (fun j => ∃ q : Nat, q ≤ c.pl i ∧ j = .int .i64 q ∧ ∀ j, j < q → c.ln i j = true ∨ X (c.lr i j).toNat = true) (fun j => c.pl i - (intOf j).toNat)
      case atStart => exact ⟨0, Nat.zero_le _, rfl, fun j hj => by omega⟩
      case round =>
        obtain ⟨q, hq, rfl, hall⟩ := hrel
        have HQ := hid hall
        clear hall
        by_cases hqt : q < c.pl i
        · obtain rfl := HA.out (by omega)
          have l1 : ∀ o, (w.alloc o).cell? ⟨c.pb i, c.po i + q * 2, none⟩ = some (.int .i64 (c.lr i q)) := fun o => cell_alloc (HL.out q hqt) o
          have l2 : ∀ o, (w.alloc o).cell? ⟨c.pb i, c.po i + q * 2 + 1, none⟩ = some (.bool (c.ln i q)) := fun o => cell_alloc (HN.out q hqt) o
          obtain ⟨y, hy⟩ : ∃ y : Nat, c.lr i q = y := ⟨(c.lr i q).toNat, by have := HI.out q hqt; omega⟩
          have hyn : y < n := by have := HI.out q hqt; omega
          have l3 : ∀ o, (w.alloc o).cell? ⟨cb, y, none⟩ = some (.bool (X y)) := fun o => cell_alloc (by simpa using HX.out y hyn) o
          rw [hy] at l1
          have HY := hid hy
          clear hy HL HN HI HA HX
          cases en : c.ln i q with
          | true =>
            rw [en] at l2
            have EN := hid en
            clear en
            go_wp2
            go_round
            case rel => exact ⟨q + 1, by omega, by go_num, fun j hj => by
              by_cases e : j = q
              · subst e; exact .inl EN.out
              · exact HQ.out j (by omega)⟩
            case measure => simp [intOf]; omega
          | false =>
            rw [en] at l2
            have EN := hid en
            clear en
            cases ex : X y with
            | true =>
              rw [ex] at l3
              have EX := hid ex
              clear ex
              go_wp2
              go_round
              case rel => exact ⟨q + 1, by omega, by go_num, fun j hj => by
                by_cases e : j = q
                · subst e; exact .inr (by rw [HY.out]; exact EX.out)
                · exact HQ.out j (by omega)⟩
              case measure => simp [intOf]; omega
            | false =>
              rw [ex] at l3
              have EX := hid ex
              clear ex
              go_wp2
              go_ret
              refine ⟨congrArg (fun r => Ending.returned (.bool r)) ?_, (Below.refl _ _).alloc (Nat.le_refl _) _⟩
              have hrq : rq = false := by
                cases e : rq with
                | false => rfl
                | true =>
                  rcases (HR.out.1 e) q hqt with h | h
                  · rw [EN.out] at h; cases h
                  · rw [HY.out, Int.toNat_natCast, EX.out] at h; cases h
              rw [HE.out, hrq, Bool.and_false]
        · obtain rfl : q = c.pl i := by omega
          have hrq : Hid (rq = true) := HR.out.2 HQ.out
          clear HL HN HI HA HX
          go_wp2
          go_ret
          refine ⟨congrArg (fun r => Ending.returned (.bool r)) ?_, (Below.refl _ _).alloc (Nat.le_refl _) _⟩
          rw [HE.out, hrq.out, Bool.and_true]
          exact AX.out.symm
  | some A =>
    obtain ⟨ab, rfl, rfl, hab⟩ := hadm
    simp only [Option.isNone_some] at heq
    simp only [Plain.admOk] at HE
    have cA : ∀ o, (w.alloc o).cell? ⟨ab, x, none⟩ = some (.bool (A x)) := fun o => cell_alloc (by simpa using hab x hxn) o
    clear hab
    cases ax : A x with
    | false =>
      rw [ax] at cA
      have AX := hid ax
      clear ax HL HN HI HA HX HR
      go_enter Try.func20, Try.ntmps20
      go_wp2
      go_ret
      refine ⟨congrArg (fun r => Ending.returned (.bool r)) ?_, (Below.refl _ _).alloc (Nat.le_refl _) _⟩
      rw [HE.out, AX.out, Bool.false_and]
    | true =>
      rw [ax] at cA
      have AX := hid ax
      clear ax
      go_enter Try.func20, Try.ntmps20
      go_wp2
      go_loop [7] (fun j => ∃ q : Nat, q ≤ c.pl i ∧ j = .int .i64 q ∧ ∀ j, j < q → c.ln i j = true ∨ X (c.lr i j).toNat = true) (fun j => c.pl i - (intOf j).toNat)
      case atStart => exact ⟨0, Nat.zero_le _, rfl, fun j hj => by omega⟩
      case round =>
        obtain ⟨q, hq, rfl, hall⟩ := hrel
        have HQ := hid hall
        clear hall
        by_cases hqt : q < c.pl i
        · obtain rfl := HA.out (by omega)
          have l1 : ∀ o, (w.alloc o).cell? ⟨c.pb i, c.po i + q * 2, none⟩ = some (.int .i64 (c.lr i q)) := fun o => cell_alloc (HL.out q hqt) o
          have l2 : ∀ o, (w.alloc o).cell? ⟨c.pb i, c.po i + q * 2 + 1, none⟩ = some (.bool (c.ln i q)) := fun o => cell_alloc (HN.out q hqt) o
          obtain ⟨y, hy⟩ : ∃ y : Nat, c.lr i q = y := ⟨(c.lr i q).toNat, by have := HI.out q hqt; omega⟩
          have hyn : y < n := by have := HI.out q hqt; omega
          have l3 : ∀ o, (w.alloc o).cell? ⟨cb, y, none⟩ = some (.bool (X y)) := fun o => cell_alloc (by simpa using HX.out y hyn) o
          rw [hy] at l1
          have HY := hid hy
          clear hy HL HN HI HA HX
          cases en : c.ln i q with
          | true =>
            rw [en] at l2
            have EN := hid en
            clear en
            go_wp2
            go_round
            case rel => exact ⟨q + 1, by omega, by go_num, fun j hj => by
              by_cases e : j = q
              · subst e; exact .inl EN.out
              · exact HQ.out j (by omega)⟩
            case measure => simp [intOf]; omega
          | false =>
            rw [en] at l2
            have EN := hid en
            clear en
            cases ex : X y with
            | true =>
              rw [ex] at l3
              have EX := hid ex
              clear ex
              go_wp2
              go_round
              case rel => exact ⟨q + 1, by omega, by go_num, fun j hj => by
                by_cases e : j = q
                · subst e; exact .inr (by rw [HY.out]; exact EX.out)
                · exact HQ.out j (by omega)⟩
              case measure => simp [intOf]; omega
            | false =>
              rw [ex] at l3
              have EX := hid ex
              clear ex
              go_wp2
              go_ret
              refine ⟨congrArg (fun r => Ending.returned (.bool r)) ?_, (Below.refl _ _).alloc (Nat.le_refl _) _⟩
              have hrq : rq = false := by
                cases e : rq with
                | false => rfl
                | true =>
                  rcases (HR.out.1 e) q hqt with h | h
                  · rw [EN.out] at h; cases h
                  · rw [HY.out, Int.toNat_natCast, EX.out] at h; cases h
              rw [HE.out, hrq, Bool.and_false]
        · obtain rfl : q = c.pl i := by omega
          have hrq : Hid (rq = true) := HR.out.2 HQ.out
          clear HL HN HI HA HX
          go_wp2
          go_ret
          refine ⟨congrArg (fun r => Ending.returned (.bool r)) ?_, (Below.refl _ _).alloc (Nat.le_refl _) _⟩
          rw [HE.out, hrq.out, Bool.and_true]
          exact AX.out.symm
end Go.Proofs.Qxb6605479a
