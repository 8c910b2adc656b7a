import PyProof.Rows.All
import Wide.All
import OpenK.AllK
import Wide.FinOn
import PySem.Challenge.RW_nb0186_01
set_option Elab.async false
set_option maxRecDepth 100000

section Top1
open PySem PySem.W PyProof.Rows
set_option maxRecDepth 100000
set_option maxHeartbeats 8000000
namespace Mine
open_top hd for PySem.Challenge.rw_nb0186_01

end Mine
end Top1

section N1
open PySem PySem.W PyProof.Rows
namespace Mine
open PySem.Sre (M)

/-- the pattern's code -/
def pcode : Array Nat := #[14, 8, 1, 2, 4294967295, 1, 1, 46, 0, 16, 46, 24, 9, 1, 4294967295, 13, 4, 8, 0, 0, 1, 6, 5, 1]

/-- the machine about to try at place p -/
def trying (x : Array Nat) (p hd : Nat) (o : Bool) (sn : Sre.Seen) : M :=
  { code := pcode, text := x, lim := x.size, start := p, lastStart := x.size, pc := 9, pos := p, handed := hd, outermost := o, marks := #[], frames := [{ wait := .nextStart, pc := 9, pos := p, outermost := o }], weight := 1, seen := sn }

/-- it fell -/
def fell (x : Array Nat) (p hd : Nat) (o : Bool) (sn : Sre.Seen) : M := { trying x p hd o sn with answer := some false }
/-- behind the dot -/
def dotted (x : Array Nat) (p hd : Nat) (o : Bool) (sn : Sre.Seen) : M := { trying x p hd o sn with pc := 11, pos := p + 1 }
/-- it fell behind the dot -/
def fell2 (x : Array Nat) (p hd : Nat) (o : Bool) (sn : Sre.Seen) : M := { trying x p hd o sn with pc := 11, pos := p + 1, answer := some false }
/-- behind the dot and a figure -/
def figured (x : Array Nat) (p : Nat) (o : Bool) (sn : Sre.Seen) : M :=
  { trying x p (p + 2) o sn with pc := 21, pos := p + 2, weight := 2, frames := [{ wait := .giveBack, pc := 11, pos := p + 2, outermost := o, count := 1, kept := { lastmark := -1, lastindex := -1 } }, { wait := .nextStart, pc := 9, pos := p, outermost := o }] }
def fell3 (x : Array Nat) (p : Nat) (o : Bool) (sn : Sre.Seen) : M := { figured x p o sn with answer := some false }

theorem step_lit_no (x : Array Nat) (p hd : Nat) (o : Bool) (sn : Sre.Seen) (h : p < x.size → x.getD p 0 ≠ 46) : ∃ sn', (trying x p hd o sn).step = fell x p hd o sn' := by
  by_cases hp : p < x.size
  · have e : (x.getD p 0 == 46) = false := by simpa using h hp
    refine ⟨sn.add 16, ?_⟩
    have e1 : ¬ (p ≥ x.size) := by omega
    show (if p ≥ x.size then _ else match (Except.ok (x.getD p 0 == 46, sn.add 16) : Except String (Bool × Sre.Seen)) with | .error why => _ | .ok (false, seen) => _ | .ok (true, seen) => _) = _
    rw [if_neg e1, e]
    rfl
  · refine ⟨sn.add 16, ?_⟩
    have e1 : (p ≥ x.size) := by omega
    show (if p ≥ x.size then _ else _) = _
    rw [if_pos e1]
    rfl

theorem step_lit_yes (x : Array Nat) (p hd : Nat) (o : Bool) (sn : Sre.Seen) (hp : p < x.size) (h : x.getD p 0 = 46) : ∃ sn', (trying x p hd o sn).step = dotted x p hd o sn' := by
  have e : (x.getD p 0 == 46) = true := by simpa using h
  refine ⟨sn.add 16, ?_⟩
  have e1 : ¬ (p ≥ x.size) := by omega
  show (if p ≥ x.size then _ else match (Except.ok (x.getD p 0 == 46, sn.add 16) : Except String (Bool × Sre.Seen)) with | .error why => _ | .ok (false, seen) => _ | .ok (true, seen) => _) = _
  rw [if_neg e1, e]
  rfl

theorem acc_digit (c : Nat) (sn : Sre.Seen) : ∃ sn', Sre.accepts pcode 15 c sn = .ok (Sre.isDigit c, sn') := by
  unfold Sre.accepts
  show ∃ sn', Sre.inSet pcode c 24 17 true sn = .ok (Sre.isDigit c, sn')
  unfold Sre.inSet
  show ∃ sn', (do if ← ((Except.ok (Sre.isDigit c) : Except String Bool).map (· != false)) then pure (true, (sn.add 8).add 55) else Sre.inSet pcode c 23 19 true ((sn.add 8).add 55)) = _
  cases hd : Sre.isDigit c with
  | true => exact ⟨_, rfl⟩
  | false => exact ⟨((sn.add 8).add 55).add 0, rfl⟩

theorem run_digits (x : Array Nat) : ∀ (n p : Nat) (sn : Sre.Seen), n = 0 ∨ Sre.isDigit (x.getD p 0) = false → ∀ f, ∃ sn', Sre.run pcode x 15 n p f sn = .ok (f, sn')
  | 0, _, sn, _, f => ⟨sn, rfl⟩
  | n + 1, p, sn, h, f => by
    obtain ⟨sn', e⟩ := acc_digit (x.getD p 0) sn
    have hd : Sre.isDigit (x.getD p 0) = false := h.resolve_left (by omega)
    rw [hd] at e
    refine ⟨sn', ?_⟩
    show (do let (yes, seen) ← Sre.accepts pcode 15 (x.getD p 0) sn; if yes then Sre.run pcode x 15 n (p + 1) (f + 1) seen else pure (f, seen)) = _
    rw [e]
    rfl
theorem run_one (x : Array Nat) (n p : Nat) (sn : Sre.Seen) (h1 : Sre.isDigit (x.getD p 0) = true) (h2 : n = 0 ∨ Sre.isDigit (x.getD (p + 1) 0) = false) : ∃ sn', Sre.run pcode x 15 (n + 1) p 0 sn = .ok (1, sn') := by
  obtain ⟨sn', e⟩ := acc_digit (x.getD p 0) sn
  rw [h1] at e
  obtain ⟨sn2, e2⟩ := run_digits x n (p + 1) sn' h2 1
  refine ⟨sn2, ?_⟩
  show (do let (yes, seen) ← Sre.accepts pcode 15 (x.getD p 0) sn; if yes then Sre.run pcode x 15 n (p + 1) (0 + 1) seen else pure (0, seen)) = _
  rw [e]
  exact e2

/-- no two figures stand side by side, no line's end -/
def Calm (x : Array Nat) : Prop := ∀ i, i + 1 < x.size → Sre.isDigit (x.getD i 0) = true → Sre.isDigit (x.getD (i + 1) 0) = false

theorem step_rep_no (x : Array Nat) (p hd : Nat) (o : Bool) (sn : Sre.Seen) (h : p + 1 < x.size → Sre.isDigit (x.getD (p + 1) 0) = false) :
    ∃ sn', (dotted x p hd o sn).step = fell2 x p hd o sn' := by
  by_cases hp : p + 1 < x.size
  · obtain ⟨sn', e⟩ := run_digits x (min 4294967295 ((x.size : Int) - (p + 1 : Nat)).toNat) (p + 1) ((sn.add 24).add 13) (.inr (h hp)) 0
    refine ⟨sn', ?_⟩
    have e1 : ¬ (((1 : Nat) : Int) > (x.size : Int) - (p + 1 : Nat)) := by omega
    show (if ((1 : Nat) : Int) > (x.size : Int) - (p + 1 : Nat) then _ else match Sre.run pcode x 15 (min 4294967295 ((x.size : Int) - (p + 1 : Nat)).toNat) (p + 1) 0 ((sn.add 24).add 13) with | .error why => _ | .ok (n, seen) => _) = _
    rw [if_neg e1, e]
    rfl
  · refine ⟨sn.add 24, ?_⟩
    have e1 : (((1 : Nat) : Int) > (x.size : Int) - (p + 1 : Nat)) := by omega
    show (if ((1 : Nat) : Int) > (x.size : Int) - (p + 1 : Nat) then _ else _) = _
    rw [if_pos e1]
    rfl

theorem step_rep_yes (x : Array Nat) (p hd : Nat) (o : Bool) (sn : Sre.Seen) (hc : Calm x) (hp : p + 1 < x.size) (h : Sre.isDigit (x.getD (p + 1) 0) = true) :
    ∃ sn', (dotted x p hd o sn).step = figured x p o sn' := by
  obtain ⟨k, hk⟩ : ∃ k, min 4294967295 ((x.size : Int) - (p + 1 : Nat)).toNat = k + 1 := ⟨min 4294967295 ((x.size : Int) - (p + 1 : Nat)).toNat - 1, by omega⟩
  have h2 : k = 0 ∨ Sre.isDigit (x.getD (p + 1 + 1) 0) = false := by
    by_cases q : p + 1 + 1 < x.size
    · exact .inr (hc (p + 1) q h)
    · left; omega
  obtain ⟨sn', e⟩ := run_one x k (p + 1) ((sn.add 24).add 13) h h2
  refine ⟨sn', ?_⟩
  have e1 : ¬ (((1 : Nat) : Int) > (x.size : Int) - (p + 1 : Nat)) := by omega
  show (if ((1 : Nat) : Int) > (x.size : Int) - (p + 1 : Nat) then _ else match Sre.run pcode x 15 (min 4294967295 ((x.size : Int) - (p + 1 : Nat)).toNat) (p + 1) 0 ((sn.add 24).add 13) with | .error why => _ | .ok (n, seen) => _) = _
  rw [if_neg e1, hk, e]
  rfl
theorem step_at_no (x : Array Nat) (p : Nat) (o : Bool) (sn : Sre.Seen) (h10 : ∀ i : Nat, x.getD i 0 ≠ 10) (hp : p + 2 ≠ x.size) : (figured x p o sn).step = fell3 x p o ((sn.add 6).add 48) := by
  have q1 : (p + 2 == x.size) = false := by simpa using hp
  have q2 : (x.getD (p + 2) 0 == 10) = false := by simpa using h10 (p + 2)
  show (if ((p + 2 == x.size) || (p + 2 + 1 == x.size && x.getD (p + 2) 0 == 10)) = true then _ else _) = _
  rw [q1, q2, Bool.and_false, Bool.or_false]
  rfl
/-- the end of the pattern -/
def ended (x : Array Nat) (p : Nat) (o : Bool) (sn : Sre.Seen) : M := { figured x p o sn with pc := 23 }
theorem step_at_yes (x : Array Nat) (p : Nat) (o : Bool) (sn : Sre.Seen) (hp : p + 2 = x.size) : (figured x p o sn).step = ended x p o ((sn.add 6).add 48) := by
  have q1 : (p + 2 == x.size) = true := by simpa using hp
  show (if ((p + 2 == x.size) || (p + 2 + 1 == x.size && x.getD (p + 2) 0 == 10)) = true then _ else _) = _
  rw [q1, Bool.true_or]
  rfl
/-- the machine at a find -/
def found (x : Array Nat) (p : Nat) (o : Bool) (sn : Sre.Seen) : M := { trying x p (p + 2) o sn with frames := [], weight := 0, answer := some true, outcome := some .matched }
def lost (x : Array Nat) (p hd : Nat) (o : Bool) (sn : Sre.Seen) : M := { trying x p hd o sn with frames := [], weight := 0, answer := some false, outcome := some .failed }

theorem runFor_done (n : Nat) (m : M) (h : m.outcome.isSome = true) : m.runFor n = m := by
  cases n with
  | zero => rfl
  | succ n => show (if m.outcome.isSome then m else _) = m; rw [if_pos h]
theorem runFor_add : ∀ (a b : Nat) (m : M), m.runFor (a + b) = (m.runFor a).runFor b
  | 0, b, m => by rw [Nat.zero_add]; rfl
  | a + 1, b, m => by
    cases h : m.outcome.isSome with
    | true => rw [runFor_done _ _ h, runFor_done _ _ h, runFor_done _ _ h]
    | false =>
      rw [Nat.add_right_comm]
      show (if m.outcome.isSome = true then m else m.step.runFor (a + b)) = (if m.outcome.isSome = true then m else m.step.runFor a).runFor b
      rw [h]
      simp only [Bool.false_eq_true, if_false]
      exact runFor_add a b m.step
theorem runFor_one (n : Nat) (m : M) (h : m.outcome = none) : m.runFor (n + 1) = m.step.runFor n := by
  show (if m.outcome.isSome = true then m else m.step.runFor n) = _
  rw [h]; rfl

/-- a try at p that falls, p not the last: the next try -/
theorem try_next (x : Array Nat) (p hd : Nat) (o : Bool) (sn : Sre.Seen) (hp : p < x.size) : (fell x p hd o sn).step = trying x (p + 1) (p + 1) false sn := by
  show (if p < x.size then _ else _) = _
  rw [if_pos hp]
  rfl
theorem try_next2 (x : Array Nat) (p hd : Nat) (o : Bool) (sn : Sre.Seen) (hp : p < x.size) : (fell2 x p hd o sn).step = trying x (p + 1) (p + 1) false sn := by
  show (if p < x.size then _ else _) = _
  rw [if_pos hp]
  rfl
theorem try_next3 (x : Array Nat) (p : Nat) (o : Bool) (sn : Sre.Seen) (hp : p < x.size) : (fell3 x p o sn).step.step = trying x (p + 1) (p + 1) false sn := by
  show (if p < x.size then _ else _) = _
  rw [if_pos hp]
  rfl
theorem try_last (x : Array Nat) (p hd : Nat) (o : Bool) (sn : Sre.Seen) (hp : ¬ p < x.size) : (fell x p hd o sn).runFor 2 = lost x p hd o sn := by
  rw [runFor_one _ _ rfl]
  have e : (fell x p hd o sn).step = { trying x p hd o sn with frames := [], weight := 0, answer := some false } := by
    show (if p < x.size then _ else _) = _
    rw [if_neg hp]
    rfl
  rw [e]
  rfl

/-- where the pattern is found -/
def hit (x : Array Nat) (p : Nat) : Bool := x.getD p 0 == 46 && Sre.isDigit (x.getD (p + 1) 0) && p + 2 == x.size

theorem try_no (x : Array Nat) (p hd : Nat) (o : Bool) (sn : Sre.Seen) (hc : Calm x) (h10 : ∀ i : Nat, x.getD i 0 ≠ 10) (hp : p < x.size) (hh : hit x p = false) :
    ∃ k sn', k ≤ 8 ∧ (trying x p hd o sn).runFor k = trying x (p + 1) (p + 1) false sn' := by
  by_cases hl : x.getD p 0 = 46
  · obtain ⟨s1, e1⟩ := step_lit_yes x p hd o sn hp hl
    by_cases hd1 : p + 1 < x.size ∧ Sre.isDigit (x.getD (p + 1) 0) = true
    · obtain ⟨s2, e2⟩ := step_rep_yes x p hd o s1 hc hd1.1 hd1.2
      have hne : p + 2 ≠ x.size := fun q => by
        unfold hit at hh
        rw [hl, hd1.2] at hh
        simp at hh
        omega
      refine ⟨5, (s2.add 6).add 48, by omega, ?_⟩
      rw [runFor_one _ _ rfl, e1, runFor_one _ _ rfl, e2, runFor_one _ _ rfl, step_at_no x p o s2 h10 hne, runFor_one _ _ rfl]
      exact try_next3 x p o _ hp
    · obtain ⟨s2, e2⟩ := step_rep_no x p hd o s1 (fun q => by
        cases hq : Sre.isDigit (x.getD (p + 1) 0) with
        | false => rfl
        | true => exact absurd ⟨q, hq⟩ hd1)
      refine ⟨3, s2, by omega, ?_⟩
      rw [runFor_one _ _ rfl, e1, runFor_one _ _ rfl, e2]
      exact try_next2 x p hd o s2 hp
  · obtain ⟨s1, e1⟩ := step_lit_no x p hd o sn (fun _ => hl)
    refine ⟨2, s1, by omega, ?_⟩
    rw [runFor_one _ _ rfl, e1]
    exact try_next x p hd o s1 hp
theorem try_yes (x : Array Nat) (p hd : Nat) (o : Bool) (sn : Sre.Seen) (hc : Calm x) (hh : hit x p = true) :
    ∃ sn', (trying x p hd o sn).runFor 7 = found x p o sn' := by
  simp only [hit, Bool.and_eq_true, beq_iff_eq] at hh
  obtain ⟨⟨hl, hd1⟩, hz⟩ := hh
  obtain ⟨s1, e1⟩ := step_lit_yes x p hd o sn (by omega) hl
  obtain ⟨s2, e2⟩ := step_rep_yes x p hd o s1 hc (by omega) hd1
  refine ⟨((s2.add 6).add 48).add 1, ?_⟩
  rw [runFor_one _ _ rfl, e1, runFor_one _ _ rfl, e2, runFor_one _ _ rfl, step_at_yes x p o s2 hz]
  cases o <;> rfl

/-- the whole search -/
theorem search_from (x : Array Nat) (hc : Calm x) (h10 : ∀ i : Nat, x.getD i 0 ≠ 10) : ∀ (d p hd : Nat) (o : Bool) (sn : Sre.Seen), p + d = x.size →
    ∃ k m, k ≤ 8 * d + 8 ∧ (trying x p hd o sn).runFor k = m ∧ ((∃ q, p ≤ q ∧ hit x q = true ∧ ∃ o' sn', m = found x q o' sn') ∨ ((∀ q, p ≤ q → hit x q = false) ∧ ∃ q hd' o' sn', m = lost x q hd' o' sn'))
  | 0, p, hd, o, sn, e => by
    obtain ⟨s1, e1⟩ := step_lit_no x p hd o sn (fun q => by omega)
    refine ⟨3, _, by omega, rfl, .inr ⟨fun q hq => ?_, p, hd, o, s1, ?_⟩⟩
    · simp only [hit, Bool.and_eq_false_iff, beq_eq_false_iff_ne]
      right; omega
    · rw [runFor_one _ _ rfl, e1]
      exact try_last x p hd o s1 (by omega)
  | d + 1, p, hd, o, sn, e => by
    cases hh : hit x p with
    | true =>
      obtain ⟨sn', e1⟩ := try_yes x p hd o sn hc hh
      exact ⟨7, _, by omega, e1, .inl ⟨p, Nat.le_refl _, hh, o, sn', rfl⟩⟩
    | false =>
      obtain ⟨k, sn', hk, e1⟩ := try_no x p hd o sn hc h10 (by omega) hh
      obtain ⟨k2, m, hk2, e2, r⟩ := search_from x hc h10 d (p + 1) (p + 1) false sn' (by omega)
      refine ⟨k + k2, m, by omega, by rw [runFor_add, e1, e2], ?_⟩
      rcases r with ⟨q, hq, r⟩ | ⟨hq, r⟩
      · exact .inl ⟨q, by omega, r⟩
      · refine .inr ⟨fun q h => ?_, r⟩
        rcases Nat.lt_or_ge p q with h1 | h1
        · exact hq q h1
        · rw [show q = p by omega]; exact hh
end Mine
end N1

section N2
open PySem PySem.W PyProof.Rows
set_option maxRecDepth 100000
namespace Mine
open PySem.Sre (M)
open PySem.Builtin.Re

theorem slot_search : Slot "re.Pattern" "search" "re.Pattern.search" :=
  .of (owner := "re.Pattern") (n := "search") (by rw [typeLookup_type, builtinLookup_eq_fast]; kernel_rfl) (by decide +kernel) (by decide +kernel) (by decide +kernel)
    (by first | exact .inl (by decide +kernel) | exact .inr (by decide +kernel)) (by rw [isSubtype_type]; kernel_rfl)
theorem entry_search : entryFor table "re.Pattern.search" = some Builtin.«re.Pattern.search» := entryFor_of_fast (by kernel_rfl)
theorem args_search (a b : Value) : argsOk "re.Pattern.search" ⟨[a, b], []⟩ := by unfold argsOk; kernel_rfl
theorem attrs_pattern : PlainAttrs "re.Pattern" :=
  ⟨⟨"object.__getattribute__", by rw [typeLookup_type, builtinLookup_eq_fast]; kernel_rfl, by decide +kernel⟩, by rw [typeLookup_type, builtinLookup_eq_fast]; kernel_rfl⟩
theorem type_search : typeOf (.builtin "re.Pattern.search") = pure (.type "method_descriptor") := by show builtinType _ = _; rw [builtinType_eq_fast]; kernel_rfl

section
variable {Mo : Model} {A : Around} {E : Value → Shared → Prop} {s : Shared}

theorem drive_ {Q : M → Shared → Prop} (m m' : M) (hm : m'.outcome.isSome = true) (h : Q m' s) : ∀ (t k : Nat), k ≤ 4 * t → m.runFor k = m' → 0 < t → wpAny Mo A (reDrive t m) Q E s := by
  intro t
  induction t generalizing m with
  | zero => intro k _ _ h0; omega
  | succ t ih =>
    intro k hk e _
    show wpAny Mo A (let m := m.runFor reTurnSteps; if m.outcome.isSome then pure m else do rule "sre.turn"; reDrive t m) Q E s
    dsimp only
    cases hd : (m.runFor reTurnSteps).outcome.isSome with
    | true =>
      rw [if_pos rfl]
      have e2 : m.runFor reTurnSteps = m' := by
        rcases Nat.le_total k reTurnSteps with h1 | h1
        · obtain ⟨d, hd4⟩ := Nat.exists_eq_add_of_le h1
          rw [hd4, runFor_add, e, runFor_done _ _ hm]
        · obtain ⟨d, rfl⟩ := Nat.exists_eq_add_of_le h1
          rw [runFor_add, runFor_done _ _ hd] at e
          exact e
      rw [e2]
      exact wpAny_pure h
    | false =>
      rw [if_neg (by simp)]
      have h1 : ¬ k ≤ 4 := fun q => by
        obtain ⟨d, hd4⟩ := Nat.exists_eq_add_of_le q
        have : m.runFor reTurnSteps = m' := by
          show m.runFor 4 = m'
          rw [hd4, runFor_add, e, runFor_done _ _ hm]
        rw [this, hm] at hd
        cases hd
      refine wpAny_bind (wpAny_rule ?_)
      refine ih (m.runFor reTurnSteps) (k - 4) (by omega) ?_ (by omega)
      have : k = 4 + (k - 4) := by omega
      rw [this, runFor_add] at e
      exact e

theorem rules_ {Q : PUnit → Shared → Prop} {c : Nat → Bool} {f : Nat → String} (h : Q ⟨⟩ s) : ∀ l : List Nat, wpAny Mo A (forIn l PUnit.unit fun i _ => do
      if c i then rule (f i)
      pure (ForInStep.yield PUnit.unit)) Q E s := by
  intro l
  refine wpAny_forIn_list _ (fun _ _ s' => s' = s) Q (fun x rest b s' e => ?_) (fun b s' e => by rw [e]; exact h) l _ rfl
  subst e
  cases c x with
  | true =>
    rw [if_pos rfl]
    exact wpAny_bind (wpAny_rule (wpAny_pure rfl))
  | false =>
    rw [if_neg (by simp)]
    show wpAny Mo A (pure (ForInStep.yield PUnit.unit)) _ E s'
    exact wpAny_pure rfl

theorem toEnd_ {Q : Option M → Shared → Prop} {m m' : M} {k : Nat} (e : m.runFor k = m') (hk : k ≤ 4 * 2 ^ 64) (h : (m'.outcome = some .matched ∧ Q (some m') s) ∨ (m'.outcome = some .failed ∧ Q none s)) : wpAny Mo A (reRunToEnd m) Q E s := by
  unfold reRunToEnd
  refine wpAny_bind (drive_ m m' ?_ ?_ (2 ^ 64) k hk e (by decide))
  · rcases h with ⟨h1, _⟩ | ⟨h1, _⟩ <;> rw [h1] <;> rfl
  refine wpAny_bind (rules_ ?_ _)
  rcases h with ⟨h1, h2⟩ | ⟨h1, h2⟩
  · rw [h1]; exact wpAny_pure h2
  · rw [h1]; exact wpAny_pure h2
end
end Mine
end N2

section N3
open PySem PySem.W PyProof.Rows
set_option maxRecDepth 100000
namespace Mine
open PySem.Sre (M)
open PySem.Builtin.Re

def ipv (x : Array Nat) : Bool := decide (2 ≤ x.size) && hit x (x.size - 2)

theorem search_pure (x : Array Nat) (hc : Calm x) (h10 : ∀ i : Nat, x.getD i 0 ≠ 10) : ∃ k m', k ≤ 8 * x.size + 8 ∧ (Sre.forSearch pcode x 0 0 x.size false).runFor k = m' ∧
    ((ipv x = true ∧ m'.outcome = some .matched) ∨ (ipv x = false ∧ m'.outcome = some .failed)) := by
  by_cases hs : x.size < 2
  · refine ⟨1, _, by omega, rfl, .inr ⟨by simp [ipv]; omega, ?_⟩⟩
    have e : (decide (0 > x.size) || decide (x.size - 0 < 2)) = true := by simp; omega
    show (M.runFor 1 (if (decide (0 > x.size) || decide (x.size - 0 < 2)) = true then _ else _)).outcome = _
    rw [if_pos e]
    rfl
  · have e : ¬ ((decide (0 > x.size) || decide (x.size - 0 < 2)) = true) := by simp; omega
    obtain ⟨k, m, hk, e1, r⟩ := search_from x hc h10 x.size 0 0 true (({} : Sre.Seen).add 14) (by omega)
    refine ⟨k, m, hk, ?_, ?_⟩
    · rw [← e1]
      congr 1
      show (if (decide (0 > x.size) || decide (x.size - 0 < 2)) = true then _ else _) = _
      rw [if_neg e]
      rfl
    · rcases r with ⟨q, _, hq, o', sn', rfl⟩ | ⟨hq, q, hd', o', sn', rfl⟩
      · refine .inl ⟨?_, rfl⟩
        have hq' := hq
        simp only [hit, Bool.and_eq_true, beq_iff_eq] at hq'
        simp only [ipv, Bool.and_eq_true, decide_eq_true_eq]
        refine ⟨by omega, ?_⟩
        rw [show x.size - 2 = q by omega]; exact hq
      · refine .inr ⟨?_, rfl⟩
        simp only [ipv]
        rw [hq _ (Nat.zero_le _), Bool.and_false]

theorem named_ (v : Value) : reNamed "re.Pattern.search" "search" ["string", "pos", "endpos"] 1 [v] [] = pure [some v, none, none] := by rfl

abbrev patObj (a b : Value) (C : Addr) : Obj := { cls := .type "re.Pattern", data := .fields #[a, b, .int 0 0, .none, .none, .ref C, .int 0 0] }
abbrev codeObj : Obj := { cls := .type "tuple", data := .seq #[.int 14 0, .int 8 0, .int 1 0, .int 2 0, .int 4294967295 0, .int 1 0, .int 1 0, .int 46 0, .int 0 0, .int 16 0, .int 46 0, .int 24 0, .int 9 0, .int 1 0, .int 4294967295 0, .int 13 0, .int 4 0, .int 8 0, .int 0 0, .int 0 0, .int 1 0, .int 6 0, .int 5 0, .int 1 0] }
/-- an object that is a match -/
def IsMatch (h : Heap) (a : Addr) : Prop := ∃ d, h.get? a = some { cls := .type "re.Match", data := .fields d }

section
variable {prog : Program} {w : World} {A : Around} {E : Value → Shared → Prop} {s : Shared}
theorem search_ {Q : Value → Shared → Prop} {P C : Addr} {a b : Value} {x : Str} {t : Tok} (hP : s.heap.get? P = some (patObj a b C)) (hC : s.heap.get? C = some codeObj)
    (hc : Calm x.cps) (h10 : ∀ i : Nat, x.cps.getD i 0 ≠ 10) (hsz : x.cps.size ≤ 2 ^ 60)
    (hyes : ipv x.cps = true → ∀ h' q, s.heap.StaysIn h' → IsMatch h' q → Q (.ref q) { s with heap := h' })
    (hno : ipv x.cps = false → Q .none s) : wpAny (model prog w) A (call (.builtin "re.Pattern.search") [.ref P, .str x t]) Q E s := by
  refine wpAny_call_entry slot_search ⟨_, hP, rfl⟩ entry_search ?_ (args_search _ _)
  unfold Builtin.«re.Pattern.search» reTarget
  refine wpAny_bind ?_
  dsimp only
  rw [named_]
  refine wpAny_bind (wpAny_pure ?_)
  dsimp only
  refine wpAny_bind (wpAny_pure (wpAny_bind (wpAny_pure (wpAny_bind (wpAny_fieldsOf hP rfl ?_)))))
  unfold reTextOf
  refine wpAny_bind (wpAny_bind (wpAny_pure (wpAny_pure ?_)))
  dsimp only
  rw [if_neg (show ¬ ((reRawNat (#[a, b, Value.int 0 0, Value.none, Value.none, Value.ref C, Value.int 0 0].getD 6 Value.none) == 0 && (0 : Nat) == 1) = true) from fun q => by cases q)]
  rw [if_neg (show ¬ ((reRawNat (#[a, b, Value.int 0 0, Value.none, Value.none, Value.ref C, Value.int 0 0].getD 6 Value.none) == 1 && (0 : Nat) == 0) = true) from fun q => by cases q)]
  refine wpAny_bind (wpAny_pure ?_)
  refine wpAny_bind ?_
  unfold reRawItems
  refine wpAny_bind (wpAny_bind (wpAny_load (a := C) hC (wpAny_pure ?_)))
  refine wpAny_pure (wpAny_pure ?_)
  dsimp only
  have hlim : min ((2 : Int) ^ 63 - 1).toNat x.cps.size = x.cps.size := Nat.min_eq_right (Nat.le_trans hsz (by decide))
  have hmin : min (Int.toNat 0) x.cps.size = 0 := Nat.zero_min _
  have hcode : Array.map (fun x => x.toNat) (Array.map reRawOf ((some #[Value.int 14 0, Value.int 8 0, Value.int 1 0, Value.int 2 0, Value.int 4294967295 0, Value.int 1 0, Value.int 1 0, Value.int 46 0, Value.int 0 0, Value.int 16 0, Value.int 46 0, Value.int 24 0, Value.int 9 0, Value.int 1 0, Value.int 4294967295 0, Value.int 13 0, Value.int 4 0, Value.int 8 0, Value.int 0 0, Value.int 0 0, Value.int 1 0, Value.int 6 0, Value.int 5 0, Value.int 1 0]).getD #[])) = pcode := by decide +kernel
  rw [hlim, hmin, hcode, show reRawNat (#[a, b, Value.int 0 0, Value.none, Value.none, Value.ref C, Value.int 0 0].getD 2 Value.none) = 0 from rfl]
  obtain ⟨k, m', hk, e, r⟩ := search_pure x.cps hc h10
  unfold reAnswer
  refine wpAny_bind (toEnd_ (m' := m') (k := k) e (by have : (2 : Nat) ^ 60 * 16 = 2 ^ 64 := by decide
                                                      omega) ?_)
  rcases r with ⟨r1, r2⟩ | ⟨r1, r2⟩
  · refine .inl ⟨r2, ?_⟩
    dsimp only
    refine wpAny_bind ?_
    unfold reNewMatch
    dsimp only
    rw [show List.range 0 = [] from rfl]
    simp only [List.flatMap_nil, List.any_nil, Bool.false_eq_true, if_false]
    refine wpAny_bind (wpAny_newObj_type ?_ (by simp [sizeOk, sizeLine]))
    refine wpAny_newObj_type (wpAny_pure ⟨_, rfl, hyes r1 _ _ (fun q o ho => Heap.get?_push_of_some _ (Heap.get?_push_of_some _ ho)) ⟨_, Heap.get?_push_size _ rfl⟩⟩) (by simp [sizeOk, sizeLine])
  · exact .inr ⟨r2, wpAny_pure ⟨_, rfl, hno r1⟩⟩
end
end Mine
end N3

section N4
open PySem PySem.W PyProof.Rows
set_option maxRecDepth 100000
namespace Mine

/-- the places of the code tables that grow where a lambda is made -/
def tabs : List Addr := [141, 131, 105]
def Kp (h h' : Heap) : Prop := ∀ b o, b ∉ tabs → h.get? b = some o → h'.get? b = some o
theorem Kp.refl (h : Heap) : Kp h h := fun _ _ _ e => e
theorem Kp.trans {a b c : Heap} (x : Kp a b) (y : Kp b c) : Kp a c := fun _ _ n e => y _ _ n (x _ _ n e)
theorem Kp.of {h h' : Heap} (k : h.StaysIn h') : Kp h h' := fun _ _ _ e => k _ _ e

structure Tab (h : Heap) (c P : Addr) (q : Str) : Prop where
  code : CodeHd h c P
  tab : ∃ ps, h.get? P = some (tabObj ps) ∧ TriplesOk ps.toList ∧ ∀ pos, codeAmong pos ps.toList = none ∨ ∃ c', codeAmong pos ps.toList = some (.ref c') ∧ h.CodeRec (.ref c') q
abbrev qual (f : String) : Str := (Str.ofString f ++ (".<locals>." : Str)) ++ ("<lambda>" : Str)
structure TI (h : Heap) : Prop where
  t1 : Tab h 145 141 (qual "_law_stretch")
  t2 : Tab h 133 131 (qual "_law_places")
  t3 : Tab h 109 105 (qual "_law_row")

theorem Tab.stays {h h' : Heap} {c P : Addr} {q : Str} (x : Tab h c P q) (k : h.StaysIn h') : Tab h' c P q := by
  obtain ⟨ps, e, t, r⟩ := x.tab
  exact ⟨x.code.keeps k, ps, k _ _ e, t, fun pos => (r pos).imp id fun ⟨c', e', d⟩ => ⟨c', e', d.keeps k⟩⟩
theorem TI.stays {h h' : Heap} (x : TI h) (k : h.StaysIn h') : TI h' := ⟨x.t1.stays k, x.t2.stays k, x.t3.stays k⟩

/-- neither a table nor a code record -/
def Plain (o : Obj) : Prop := (∀ vs, o.data ≠ .fields vs) ∨ (o.cls ≠ .none ∧ o.cls ≠ .type "code" ∧ ∀ vs q t, o.data = .fields vs → vs[1]? ≠ some (.str q t))

theorem Tab.upd {h h' : Heap} {c P a : Addr} {q : Str} {o : Obj} (x : Tab h c P q) (k : Heap.ExtBut a h h') (ho : h.get? a = some o) (hp : Plain o) : Tab h' c P q := by
  obtain ⟨ps, e, t, r⟩ := x.tab
  obtain ⟨o₁, vs, f, tf, fl, tg, b, n, tt, e1, e2, e3, rest⟩ := x.code
  have hc : c ≠ a := by rintro rfl; rw [ho] at e1; cases e1; exact hp.elim (fun z => z _ e3) fun z => z.2.1 e2
  have hP : P ≠ a := by rintro rfl; rw [ho] at e; cases e; exact hp.elim (fun z => z _ rfl) fun z => z.1 rfl
  refine ⟨⟨o₁, vs, f, tf, fl, tg, b, n, tt, k _ _ hc e1, e2, e3, rest⟩, ps, k _ _ hP e, t, fun pos => (r pos).imp id ?_⟩
  rintro ⟨c', e', c₂, o₂, vs₂, t₂, g1, g2, g3, g4⟩
  have : c₂ ≠ a := by rintro rfl; rw [ho] at g2; cases g2; exact hp.elim (fun z => z _ g3) fun z => z.2.2 _ _ _ g3 g4
  exact ⟨c', e', c₂, o₂, vs₂, t₂, g1, k _ _ this g2, g3, g4⟩
theorem TI.upd {h h' : Heap} {a : Addr} {o : Obj} (x : TI h) (k : Heap.ExtBut a h h') (ho : h.get? a = some o) (hp : Plain o) : TI h' := ⟨x.t1.upd k ho hp, x.t2.upd k ho hp, x.t3.upd k ho hp⟩
theorem TI.off {h : Heap} (x : TI h) {b : Addr} {o : Obj} (e : h.get? b = some o) (hc : o.cls ≠ .none) : b ∉ tabs := by
  obtain ⟨⟨_, p1, e1, _⟩, ⟨_, p2, e2, _⟩, ⟨_, p3, e3, _⟩⟩ := x
  intro m
  simp only [tabs, List.mem_cons, List.not_mem_nil, or_false] at m
  rcases m with rfl | rfl | rfl
  · rw [e1] at e; cases e; exact hc rfl
  · rw [e2] at e; cases e; exact hc rfl
  · rw [e3] at e; cases e; exact hc rfl
theorem TI.offD {h : Heap} (x : TI h) {b : Addr} {o : Obj} (e : h.get? b = some o) (hc : ∀ ps, o.data ≠ .fields ps) : b ∉ tabs := by
  obtain ⟨⟨_, p1, e1, _⟩, ⟨_, p2, e2, _⟩, ⟨_, p3, e3, _⟩⟩ := x
  intro m
  simp only [tabs, List.mem_cons, List.not_mem_nil, or_false] at m
  rcases m with rfl | rfl | rfl
  · rw [e1] at e; cases e; exact hc _ rfl
  · rw [e2] at e; cases e; exact hc _ rfl
  · rw [e3] at e; cases e; exact hc _ rfl
theorem TI.new {h : Heap} (x : TI h) {b : Addr} (e : h.get? b = none) : b ∉ tabs := by
  obtain ⟨⟨_, p1, e1, _⟩, ⟨_, p2, e2, _⟩, ⟨_, p3, e3, _⟩⟩ := x
  intro m
  simp only [tabs, List.mem_cons, List.not_mem_nil, or_false] at m
  rcases m with rfl | rfl | rfl
  · rw [e1] at e; cases e
  · rw [e2] at e; cases e
  · rw [e3] at e; cases e

abbrev Pr := Obj → Prop
/-- the state of a frame: what stood ahead stands; the frame's own things -/
structure Fm (g : Heap) (own : List (Addr × Pr)) (h : Heap) : Prop where
  kp : Kp g h
  ti : TI h
  get : ∀ p ∈ own, ∃ o, h.get? p.1 = some o ∧ p.2 o
  pl : ∀ p ∈ own, ∀ o, p.2 o → Plain o
  new : ∀ p ∈ own, g.get? p.1 = none
  off : ∀ p ∈ own, p.1 ∉ tabs
  nd : (own.map (·.1)).Nodup

theorem Fm.nil {g : Heap} (t : TI g) : Fm g [] g := ⟨Kp.refl g, t, nofun, nofun, nofun, nofun, .nil⟩
theorem Fm.call {g h h' : Heap} {own : List (Addr × Pr)} (F : Fm g own h) (k : Kp h h') (t : TI h') : Fm g own h' :=
  ⟨F.kp.trans k, t, fun p hp => let ⟨o, e, q⟩ := F.get p hp; ⟨o, k _ _ (F.off p hp) e, q⟩, F.pl, F.new, F.off, F.nd⟩
theorem Fm.grow {g h h' : Heap} {own : List (Addr × Pr)} (F : Fm g own h) (k : h.StaysIn h') : Fm g own h' := F.call (.of k) (F.ti.stays k)
theorem stays_push (h : Heap) (o : Obj) : h.StaysIn (h.push o) := fun _ _ e => Heap.get?_push_of_some _ e
theorem Fm.push {g h : Heap} {own : List (Addr × Pr)} (F : Fm g own h) (o : Obj) : Fm g own (h.push o) := F.grow (stays_push h o)
theorem get_none {h : Heap} {n : Addr} (e : h.objs.size ≤ n) : h.get? n = none := Heap.get?_none_of_le e
theorem Kp.none {g h : Heap} {n : Addr} (k : Kp g h) (hn : n ∉ tabs) (e : h.get? n = none) : g.get? n = none := by
  cases q : g.get? n with
  | none => rfl
  | some o => rw [k _ _ hn q] at e; cases e
/-- a new thing of the frame's own -/
theorem Fm.own1 {g h h' : Heap} {own : List (Addr × Pr)} {a : Addr} {p : Pr} (F : Fm g own h) (k : h.StaysIn h') (hn : h.get? a = none) (ha : ∃ o, h'.get? a = some o ∧ p o) (hp : ∀ o, p o → Plain o) : Fm g ((a, p) :: own) h' := by
  have F' := F.grow k
  have ht := F.ti.new hn
  refine ⟨F'.kp, F'.ti, ?_, ?_, ?_, ?_, ?_⟩
  · intro q hq; rcases List.mem_cons.mp hq with rfl | hq
    · exact ha
    · exact F'.get q hq
  · intro q hq; rcases List.mem_cons.mp hq with rfl | hq
    · exact hp
    · exact F.pl q hq
  · intro q hq; rcases List.mem_cons.mp hq with rfl | hq
    · exact F.kp.none ht hn
    · exact F.new q hq
  · intro q hq; rcases List.mem_cons.mp hq with rfl | hq
    · exact ht
    · exact F.off q hq
  · refine List.nodup_cons.mpr ⟨fun m => ?_, F.nd⟩
    obtain ⟨q, hq, e⟩ := List.mem_map.mp m
    obtain ⟨o, e2, _⟩ := F.get q hq
    rw [e, hn] at e2; cases e2
theorem Fm.drop {g h : Heap} {own : List (Addr × Pr)} {p : Addr × Pr} (F : Fm g (p :: own) h) : Fm g own h :=
  ⟨F.kp, F.ti, fun q hq => F.get q (.tail _ hq), fun q hq => F.pl q (.tail _ hq), fun q hq => F.new q (.tail _ hq), fun q hq => F.off q (.tail _ hq), (List.nodup_cons.mp F.nd).2⟩
theorem Fm.at {g h : Heap} {own : List (Addr × Pr)} {i : Nat} {a : Addr} {p : Pr} (F : Fm g own h) (hi : own[i]? = some (a, p)) : ∃ o, h.get? a = some o ∧ p o := F.get _ (List.mem_of_getElem? hi)
/-- one of the frame's own things turns -/
theorem Fm.set {g h h' : Heap} {own : List (Addr × Pr)} {a : Addr} {p p' : Pr} (i : Nat) (F : Fm g own h) (hi : own[i]? = some (a, p)) (k : Heap.ExtBut a h h') (ha : ∃ o, h'.get? a = some o ∧ p' o) (hp : ∀ o, p' o → Plain o) :
    Fm g (own.set i (a, p')) h' := by
  have hlt : i < own.length := (List.getElem?_eq_some_iff.mp hi).1
  have hmem := List.mem_of_getElem? hi
  obtain ⟨o, ho, hpo⟩ := F.get _ hmem
  have others : ∀ q ∈ own.set i (a, p'), q = (a, p') ∨ (q ∈ own ∧ q.1 ≠ a) := by
    intro q hq
    obtain ⟨j, hj, e⟩ := List.mem_iff_getElem.mp hq
    rw [List.length_set] at hj
    rw [List.getElem_set] at e
    by_cases hij : i = j
    · rw [if_pos hij] at e; exact .inl e.symm
    · rw [if_neg hij] at e
      refine .inr ⟨e ▸ List.getElem_mem _, fun q1 => ?_⟩
      have h1 : own[i] = (a, p) := by rw [List.getElem?_eq_getElem hlt] at hi; exact Option.some.inj hi
      have nd := List.pairwise_iff_getElem.mp F.nd
      rcases Nat.lt_or_gt_of_ne hij with hl | hl
      · refine nd i j (by rw [List.length_map]; exact hlt) (by rw [List.length_map]; exact hj) hl ?_
        rw [List.getElem_map, List.getElem_map, h1, e]
        exact q1.symm
      · refine nd j i (by rw [List.length_map]; exact hj) (by rw [List.length_map]; exact hlt) hl ?_
        rw [List.getElem_map, List.getElem_map, h1, e]
        exact q1
  refine ⟨fun b ob hb e => ?_, F.ti.upd k ho (F.pl _ hmem o hpo), ?_, ?_, ?_, ?_, ?_⟩
  · refine k b ob (fun q => ?_) (F.kp b ob hb e)
    subst q
    have := F.new _ hmem
    rw [e] at this; cases this
  · intro q hq
    rcases others q hq with rfl | ⟨h1, h2⟩
    · exact ha
    · obtain ⟨o', e', r⟩ := F.get q h1
      exact ⟨o', k _ _ h2 e', r⟩
  · intro q hq
    rcases others q hq with rfl | ⟨h1, h2⟩
    · exact hp
    · exact F.pl q h1
  · intro q hq
    rcases others q hq with rfl | ⟨h1, h2⟩
    · exact F.new (a, p) hmem
    · exact F.new q h1
  · intro q hq
    rcases others q hq with rfl | ⟨h1, h2⟩
    · exact F.off (a, p) hmem
    · exact F.off q h1
  · rw [List.map_set]
    have : (own.map (·.1)).set i a = own.map (·.1) := by
      apply List.ext_getElem?
      intro j
      rw [List.getElem?_set]
      by_cases hij : i = j
      · subst hij
        rw [if_pos rfl, if_pos (by rw [List.length_map]; exact hlt), List.getElem?_map, hi]; rfl
      · rw [if_neg hij]
    show ((own.map (·.1)).set i a).Nodup
    rw [this]; exact F.nd
/-- what stands now is the ground -/
theorem Fm.rebase {g h : Heap} {own : List (Addr × Pr)} (F : Fm g own h) : Fm (hideAll h (own.map (·.1))) own h ∧ Kp g (hideAll h (own.map (·.1))) := by
  refine ⟨⟨fun b o _ e => of_hideAll _ e, F.ti, F.get, F.pl, fun p hp => hideAll_none _ (List.mem_map_of_mem hp), F.off, F.nd⟩, fun b o hb e => ?_⟩
  refine hideAll_get _ (F.kp b o hb e) fun m => ?_
  obtain ⟨p, hp, q⟩ := List.mem_map.mp m
  have := F.new p hp
  rw [q, e] at this; cases this

/-- the names of a block -/
def pNs (m : Str → Option Value) : Pr := fun o => ∃ es ep, o.data = .dict es ep ∧ StrKeys es ∧ ∀ name, nsFind es name = m name
def pCell (v : Option Value) : Pr := fun o => o.data = .cell v
def pList (vs : List Value) : Pr := fun o => o.cls = .type "list" ∧ ∃ n, o.data = .seq vs.toArray n
theorem pNs_plain {m : Str → Option Value} (o : Obj) (h : pNs m o) : Plain o := by
  obtain ⟨es, ep, hd, _⟩ := h
  exact .inl fun _ e => by rw [hd] at e; cases e
theorem pCell_plain {v : Option Value} (o : Obj) (h : pCell v o) : Plain o := .inl fun _ e => by rw [show o.data = _ from h] at e; cases e
theorem pList_plain {vs : List Value} (o : Obj) (h : pList vs o) : Plain o := .inl fun _ e => by obtain ⟨_, n, hd⟩ := h; rw [hd] at e; cases e
theorem Fm.ns {g h : Heap} {own : List (Addr × Pr)} {a : Addr} {m : Str → Option Value} (i : Nat) (F : Fm g own h) (hi : own[i]? = some (a, pNs m)) : h.Ns a m := by
  obtain ⟨o, e, es, ep, r⟩ := F.at hi
  exact ⟨o, es, ep, e, r⟩
theorem Fm.cell {g h : Heap} {own : List (Addr × Pr)} {a : Addr} {v : Option Value} (i : Nat) (F : Fm g own h) (hi : own[i]? = some (a, pCell v)) : h.IsCell a v := F.at hi
theorem Fm.list {g h : Heap} {own : List (Addr × Pr)} {a : Addr} {vs : List Value} (i : Nat) (F : Fm g own h) (hi : own[i]? = some (a, pList vs)) : h.IsList a vs.toArray := F.at hi

/-- room for k calls more -/
structure Rm (A : Around) (k : Nat) : Prop where
  handled : A.handled = none
  depth : A.depth + k < recursionLimit
  units : A.units + 100 * k + 200 < cLine
theorem Rm.deeper {A : Around} {k : Nat} {env : Env} (R : Rm A (k + 1)) : Rm (A.deeper env) k :=
  ⟨R.handled, by have := R.depth; show A.depth + 1 + k < _; omega, by have := R.units; show A.units + 3 + 100 * k + 200 < _; omega⟩
theorem Rm.in1 {A : Around} {k : Nat} (R : Rm A (k + 1)) : Rm A.in1 k :=
  ⟨R.handled, by have := R.depth; show A.depth + k < _; omega, by have := R.units; show A.units + 1 + 100 * k + 200 < _; omega⟩
theorem Rm.less {A : Around} {k j : Nat} (R : Rm A k) (h : j ≤ k) : Rm A j := ⟨R.handled, by have := R.depth; omega, by have := R.units; omega⟩
theorem Rm.room {A : Around} {k : Nat} (R : Rm A k) : A.depth < recursionLimit := by have := R.depth; omega
theorem Rm.u64 {A : Around} {k : Nat} (R : Rm A k) : A.units + 64 < cLine := by have := R.units; omega

/-- the world as the top left it, but for the tables -/
structure Wd (K : Frag) (mg mb : Str → Option Value) (h : Heap) : Prop where
  X : K.In h
  g : h.Ns mainGlobals mg
  b : h.Ns builtinsNs mb
  bu : ∀ x : Str, x ≠ "__name__" → mb x = bootBuiltins x
  lim : h.NoLimit
  bm : ∃ bm ob, mg "__builtins__" = some (.ref bm) ∧ bm ≠ builtinsNs ∧ h.get? bm = some ob ∧ ob.cls = .type "module" ∧ ob.dict = some builtinsNs ∧ ob.data = .plain
  nt : ∀ a o, K.lookup a = some o → a ∉ tabs
theorem ns_keep {h h' : Heap} {a : Addr} {m : Str → Option Value} (t : TI h) (k : Kp h h') (x : h.Ns a m) : h'.Ns a m :=
  let ⟨o, es, ep, e, hd, r⟩ := x; ⟨o, es, ep, k _ _ (t.offD e fun ps q => by rw [hd] at q; cases q) e, hd, r⟩
theorem Wd.keeps {K : Frag} {mg mb : Str → Option Value} {h h' : Heap} (W : Wd K mg mb h) (t : TI h) (k : Kp h h') : Wd K mg mb h' where
  X := fun a o e => k a o (W.nt a o e) (W.X a o e)
  g := ns_keep t k W.g
  b := ns_keep t k W.b
  bu := W.bu
  lim := let ⟨mc, a, r⟩ := W.lim; ⟨mc, ns_keep t k a, r⟩
  bm := let ⟨bm, ob, a1, a2, a3, a4, r⟩ := W.bm; ⟨bm, ob, a1, a2, k _ _ (t.off a3 (by rw [a4]; nofun)) a3, a4, r⟩
  nt := W.nt
end Mine
end N4

section R5
open PySem PySem.W PyProof.Rows PySem.Calls
set_option maxRecDepth 100000
namespace Mine

/-- the state s with the heap h and the token tk -/
def St (s : Shared) (h : Heap) (tk : Nat) : Shared := { s with heap := h, toks := tk }
theorem St_self (s : Shared) : s = St s s.heap s.toks := rfl

section
variable {prog : Program} {w : World} {A : Around} {s : Shared} {h : Heap} {tk : Nat} {K : Frag} {mg mb : Str → Option Value} {Q : Value → Shared → Prop} {E : Value → Shared → Prop}

theorem enter {name qual : Str} {params : Arguments} {body : List Stmt} {scope : Scope} {dV kV doc pm cdv ct oc : Value} {an od : Option Addr} {osl : Array (Option Value)} {f : Addr} {pos : List Value} {kw : List (Str × Value)} {binds : List (Str × Value)} {k : Nat}
    (R : Rm A (k + 1)) (W : Wd K mg mb h) (t : TI h)
    (ho : K.lookup f = some ⟨oc, od, .func (fnOf name qual params body scope dV kV doc pm an cdv ct), osl⟩) (hcd : codeIn K cdv qual = true)
    (hbind : BindsTo (St s h tk) (fnOf name qual params body scope dV kV doc pm an cdv ct) ⟨pos, kw⟩ binds) (hloc : ∀ y ∈ binds, scope.names.lookup y.1 = some .local)
    (hq : ∀ L h₁ tk₁ E', Fm h [(L, pNs fun y => binds.reverse.lookup y)] h₁ → Rm (A.deeper (envOf qual scope L f cdv)) k →
      wpAny (model prog w) (A.deeper (envOf qual scope L f cdv)) (execs body (envOf qual scope L f cdv)) (fun fl s' => Q (match fl with | .ret v => v | _ => .none) s') E' (St s h₁ tk₁))
    (hco : scope.isCoroutine = false) (hgen : scope.isGenerator = false) (hk : scope.kind = .function) (hcell : ∀ x ∈ scope.names, x.2 ≠ .cell) :
    wpAny (model prog w) A (call (.ref f) pos kw) Q E (St s h tk) := by
  refine wpAny_call (codeAny_call_def (fd := fnOf name qual params body scope dV kV doc pm an cdv ct) (body := body) (binds := binds) R.room (W.X _ _ ho) rfl W.lim (codeRec_of W.X hcd) rfl hbind hcell hloc (fun h₁ hns hk₁ => ?_) hco hgen hk)
  have F : Fm h [(h.objs.size, pNs fun y => binds.reverse.lookup y)] h₁ :=
    (Fm.nil t).own1 hk₁ (get_none (Nat.le_refl _)) (by obtain ⟨o, es, ep, e, r⟩ := hns; exact ⟨o, e, es, ep, r⟩) pNs_plain
  exact hq h.objs.size h₁ _ _ F R.deeper
end

section
variable {prog : Program} {w : World} {M : Model} {A : Around} {s : Shared} {h : Heap} {tk : Nat} {K : Frag} {mg mb : Str → Option Value} {E : Value → Shared → Prop} {env : Env}
theorem nm_local {x : Str} {pos : Pos} {v : Value} {m : Str → Option Value} {Q : Value → Shared → Prop} (hn : h.Ns env.locals m) (hq : Q v (St s h tk)) (hv : m x = some v := by rfl) (hk : env.scope.kind = .function := by rfl) (hl : env.kindOf x = some .local := by rfl)
    (hd : (x == ("__debug__" : Str)) = false := by decide) : wpAny M A (eval (.Name x pos) env) Q E (St s h tk) := wpAny_Name (wpAny_loadName_local hk hl hn hv hq) hd
theorem nm_cell {x : Str} {pos : Pos} {v : Value} {c : Addr} {Q : Value → Shared → Prop} (hv : h.IsCell c (some v)) (hq : Q v (St s h tk)) (hc : env.cells.lookup x = some c := by rfl) (hk : env.scope.kind = .function := by rfl) (hl : env.kindOf x = some .cell := by rfl)
    (hd : (x == ("__debug__" : Str)) = false := by decide) : wpAny M A (eval (.Name x pos) env) Q E (St s h tk) := wpAny_Name (wpAny_loadName_cell hk hl hc hv hq) hd
theorem nm_free {x : Str} {pos : Pos} {v : Value} {c : Addr} {Q : Value → Shared → Prop} (hv : h.IsCell c (some v)) (hq : Q v (St s h tk)) (hc : env.cells.lookup x = some c := by rfl) (hk : env.scope.kind = .function := by rfl) (hl : env.kindOf x = some .free := by rfl)
    (hd : (x == ("__debug__" : Str)) = false := by decide) (hn : (x == ("__classdict__" : Str)) = false := by decide) : wpAny M A (eval (.Name x pos) env) Q E (St s h tk) := wpAny_Name (wpAny_loadName_free hk hl hc hv hq hn) hd
theorem nm_glob {x : Str} {pos : Pos} {v : Value} {Q : Value → Shared → Prop} (W : Wd K mg mb h) (e : nsIn K mainGlobals x = some (some v)) (hq : Q v (St s h tk)) (hg : env.globals = mainGlobals := by rfl) (hk : env.scope.kind = .function := by rfl) (hl : env.kindOf x = some .globalImplicit := by rfl)
    (hd : (x == ("__debug__" : Str)) = false := by decide) : wpAny M A (eval (.Name x pos) env) Q E (St s h tk) := Name_function_global hk hl (loadGlobal_global (mg := mg) (by rw [hg]; exact W.g) (mg_of W.X W.g e) hq) hd
theorem nm_built {x : Str} {pos : Pos} {v : Value} {Q : Value → Shared → Prop} (W : Wd K mg mb h) (e : nsIn K mainGlobals x = some none) (hv : bootBuiltins x = some v) (hq : Q v (St s h tk)) (hn : x ≠ "__name__" := by decide) (hg : env.globals = mainGlobals := by rfl) (hb : env.builtins = builtinsNs := by rfl)
    (hk : env.scope.kind = .function := by rfl) (hl : env.kindOf x = some .globalImplicit := by rfl)
    (hd : (x == ("__debug__" : Str)) = false := by decide) : wpAny M A (eval (.Name x pos) env) Q E (St s h tk) := Name_function_global hk hl (loadGlobal_builtin (mg := mg) (mb := mb) (by rw [hg]; exact W.g) (mg_none_of W.X W.g e) (by rw [hb]; exact W.b) ((W.bu x hn).trans hv) hq) hd

/-- an assignment to a local name -/
theorem st_local {g : Heap} {own : List (Addr × Pr)} {m : Str → Option Value} {x : Str} {v : Value} {Q : Unit → Shared → Prop} (i : Nat) (F : Fm g own h) (hi : own[i]? = some (env.locals, pNs m))
    (hq : ∀ h' tk', Fm g (own.set i (env.locals, pNs fun y => if y = x then some v else m y)) h' → Heap.SameBut env.locals h h' → Q () (St s h' tk')) (hl : env.kindOf x = some .local := by rfl)
    (hp : (env.scope.kind == .class || (env.scope.kind == .module && env.locals != env.globals)) = false := by rfl) : wpAny M A (storeName env x v) Q E (St s h tk) :=
  wpAny_storeName_local hl (F.ns i hi) (fun h' hn hs => hq h' _ (F.set i hi hs.extBut (by obtain ⟨o, es, ep, e, r⟩ := hn; exact ⟨o, e, es, ep, r⟩) pNs_plain) hs) hp
theorem st_cell {g : Heap} {own : List (Addr × Pr)} {x : Str} {c : Addr} {v₀ : Option Value} {v : Value} {Q : Unit → Shared → Prop} (i : Nat) (F : Fm g own h) (hi : own[i]? = some (c, pCell v₀))
    (hq : ∀ h' tk', Fm g (own.set i (c, pCell (some v))) h' → Heap.SameBut c h h' → Q () (St s h' tk')) (hc : env.cells.lookup x = some c := by rfl) (hk : env.scope.kind = .function := by rfl) (hl : env.kindOf x = some .cell := by rfl) :
    wpAny M A (storeName env x v) Q E (St s h tk) :=
  wpAny_storeName_cell hk hl hc (F.cell i hi) fun h' hv hs => hq h' _ (F.set i hi hs.extBut hv pCell_plain) hs

/-- a call of a def by its name, its arguments by place -/
theorem call_fn {x : Str} {np pos : Pos} {e : Expr} {rest : List Expr} {f : Addr} {Q : Value → Shared → Prop} (W : Wd K mg mb h) (en : nsIn K mainGlobals x = some (some (.ref f))) (hkp : keepIn K (.ref f) = true)
    (hq : wpAny M A (spliced (backTo pos (starEach (e :: rest) env))) (fun vs s₁ => K.In s₁.heap ∧ wpAny M A (call (.ref f) vs) Q E s₁) E (St s h tk))
    (hplain : (backTo pos (starEach rest env)).any (·.1) = false := by rfl) (he : starEach (e :: rest) env = (false, eval e env) :: starEach rest env := by rfl)
    (hg : env.globals = mainGlobals := by rfl) (hk : env.scope.kind = .function := by rfl) (hl : env.kindOf x = some .globalImplicit := by rfl)
    (hd : (x == ("__debug__" : Str)) = false := by decide) : wpAny M A (eval (.Call (.Name x np) (e :: rest) [] pos) env) Q E (St s h tk) :=
  wpAny_Call_ofName (nm_glob W en (callWith_K W.X hkp (first := []) hq he hplain) hg hk hl hd)
/-- arguments by place -/
theorem sp_cons {e : Expr} {rest : List Expr} {pos : Pos} {Q : List Value → Shared → Prop} (hq : wpAny M A (eval e env) (fun v s₁ => wpAny M A (spliced (backTo pos (starEach rest env))) (fun vs s₂ => Q (v :: vs) s₂) E s₁) E s)
    (he : starEach (e :: rest) env = (false, eval e env) :: starEach rest env := by rfl) : wpAny M A (spliced (backTo pos (starEach (e :: rest) env))) Q E s := by
  rw [he]
  exact spliced_cons hq
theorem sp_nil {pos : Pos} {Q : List Value → Shared → Prop} (hq : Q [] s) : wpAny M A (spliced (backTo pos (starEach [] env))) Q E s := spliced_nil hq

/-- a method of a text, or of an object of a built-in type -/
theorem call_meth {o : Expr} {name : Str} {apos pos : Pos} {args : List Expr} {T id : String} {Q : Value → Shared → Prop} (pa : PlainAttrs T) (slot : Slot T name id) (hty : typeOf (.builtin id) = pure (.type "method_descriptor"))
    (hq : wpAny (model prog w) A (eval o env) (fun ov s₁ => s₁.TypeIs ov T ∧ (∀ a, ov = .ref a → ∃ ob, s₁.heap.get? a = some ob ∧ ob.dict = none) ∧
      wpAny (model prog w) A (callWith pos (.builtin id) [ov] (backTo pos (starEach args env)) []) Q E s₁) E s)
    (hbase : attributeBase o name env (eval o env) = eval o env := by k_dflt rfl)
    (hfew : ((backTo pos (starEach args env)).all (fun x => !x.1) && (backToKw pos (keywordEach [] env)).all (fun x => x.1.isSome)
      && decide (args.length + ([] : List Keyword).length + (if ([] : List Keyword).isEmpty then 0 else 1) < 30)) = true := by k_dflt rfl)
    (hline : (apos.endLine == pos.line) = true := by k_dflt rfl) : wpAny (model prog w) A (eval (.Call (.Attribute o name apos) args [] pos) env) Q E s := wpAny_Call_method hbase hfew hline pa slot hty hq
/-- a method of a text -/
theorem str_meth {o : Expr} {name : Str} {apos pos : Pos} {args : List Expr} {id : String} {Q : Value → Shared → Prop} (slot : Slot "str" name id) (hty : typeOf (.builtin id) = pure (.type "method_descriptor"))
    (hq : wpAny (model prog w) A (eval o env) (fun ov s₁ => ∃ x t, ov = .str x t ∧ wpAny (model prog w) A (callWith pos (.builtin id) [.str x t] (backTo pos (starEach args env)) []) Q E s₁) E s)
    (hbase : attributeBase o name env (eval o env) = eval o env := by k_dflt rfl)
    (hfew : ((backTo pos (starEach args env)).all (fun x => !x.1) && (backToKw pos (keywordEach [] env)).all (fun x => x.1.isSome)
      && decide (args.length + ([] : List Keyword).length + (if ([] : List Keyword).isEmpty then 0 else 1) < 30)) = true := by k_dflt rfl)
    (hline : (apos.endLine == pos.line) = true := by k_dflt rfl) : wpAny (model prog w) A (eval (.Call (.Attribute o name apos) args [] pos) env) Q E s :=
  call_meth PySem.F.plainAttrs_str slot hty (wpAny_mono hq (fun ov s₁ h₁ => by obtain ⟨x, t, rfl, h₁⟩ := h₁; exact ⟨typeIs_str _ _ _, nofun, h₁⟩) fun _ _ e => e) hbase hfew hline

/-! leaves that take a token -/
theorem c_str {x : Str} {k : Nat} {pos : Pos} {Q : Value → Shared → Prop} (hq : ∀ t tk', Q (.str x t) (St s h tk')) : wpAny M A (eval (.Constant (.str x) k pos) env) Q E (St s h tk) := wpAny_Constant_str (hq _ _)
theorem c_int {i : Int} {k : Nat} {pos : Pos} {Q : Value → Shared → Prop} (hq : ∀ t tk', Q (.int i t) (St s h tk')) : wpAny M A (eval (.Constant (.int i) k pos) env) Q E (St s h tk) := wpAny_Constant_int (hq _ _)
variable {a b : Int} {t u : Tok} {Q : Value → Shared → Prop}
theorem i_add (hq : ∀ t' tk', Q (.int (a + b) t') (St s h tk')) : wpAny (model prog w) A (binaryOp .Add (.int a t) (.int b u)) Q E (St s h tk) := P.add_int (hq _ _)
theorem i_sub (hq : ∀ t' tk', Q (.int (a - b) t') (St s h tk')) : wpAny (model prog w) A (binaryOp .Sub (.int a t) (.int b u)) Q E (St s h tk) := P.sub_int (hq _ _)
theorem i_neg (hq : ∀ t' tk', Q (.int (-a) t') (St s h tk')) : wpAny (model prog w) A (unaryOp .USub (.int a t)) Q E (St s h tk) := P.neg_int (hq _ _)
theorem i_mod (hb : b ≠ 0) (hq : ∀ t' tk', Q (.int (a.fmod b) t') (St s h tk')) : wpAny (model prog w) A (binaryOp .Mod (.int a t) (.int b u)) Q E (St s h tk) := mod_int hb (hq _ _)
theorem i_div (hb : b ≠ 0) (hs : b.natAbs < 1073741824) (hq : ∀ t' tk', Q (.int (a.fdiv b) t') (St s h tk')) : wpAny (model prog w) A (binaryOp .FloorDiv (.int a t) (.int b u)) Q E (St s h tk) := floordiv_int hb (hq _ _) (.inl (PyProof.noPylong_small hs))
theorem i_pow (hb : 0 ≤ b) (hs : (Builtin.Int.intBits a : Int) * b ≤ 2 ^ 27) (hq : ∀ t' tk', Q (.int (a ^ b.toNat) t') (St s h tk')) : wpAny (model prog w) A (binaryOp .Pow (.int a t) (.int b u)) Q E (St s h tk) := pow_int hb hs (hq _ _)
variable {x y : Str}
theorem s_lower (hs : (Txt.lower x).length ≤ 1000) (hq : ∀ t' tk', Q (.str (Txt.lower x) t') (St s h tk')) : wpAny (model prog w) A (call (.builtin "str.lower") [.str x t]) Q E (St s h tk) := SC.lower (decide_eq_false (by rw [sizeLine_eq]; omega)) (hq _ _)
theorem s_upper (hs : (Txt.upper x).length ≤ 1000) (hq : ∀ t' tk', Q (.str (Txt.upper x) t') (St s h tk')) : wpAny (model prog w) A (call (.builtin "str.upper") [.str x t]) Q E (St s h tk) := SC.upper (decide_eq_false (by rw [sizeLine_eq]; omega)) (hq _ _)
theorem s_find (hq : ∀ t' tk', Q (.int (Txt.find x y) t') (St s h tk')) : wpAny (model prog w) A (call (.builtin "str.find") [.str x t, .str y u]) Q E (St s h tk) := SC.find (hq _ _)
theorem s_count (hq : ∀ t' tk', Q (.int (Txt.count x y) t') (St s h tk')) : wpAny (model prog w) A (call (.builtin "str.count") [.str x t, .str y u]) Q E (St s h tk) := SC.count (hq _ _)
theorem s_add (hs : x.length + y.length ≤ 10000) (hq : ∀ t' tk', Q (.str (x ++ y) t') (St s h tk')) : wpAny (model prog w) A (binaryOp .Add (.str x t) (.str y u)) Q E (St s h tk) := SB.add (fun t' k => hq t' k) (by rw [sizeLine_eq]; omega)
theorem s_item {value slice : Expr} {i : Int} {u : Tok} (hr : fitsSsize i = true) (h1 : -(x.length : Int) ≤ i) (h2 : i < x.length) (hq : ∀ t' tk', Q (.str (Txt.item x i) t') (St s h tk'))
    (hs : subscripted slice false (.str x t) (.int i u) = operate [.str x t, .int i u] (getItem (.str x t) (.int i u)) := by with_unfolding_all rfl)
    (ht : ∀ r, letTemporaryGo value (.str x t) r = pure () := by intro _; with_unfolding_all rfl) : wpAny (model prog w) A (subscriptTail value slice (.str x t) (.int i u)) Q E (St s h tk) :=
  item_str hr h1 h2 (fun _ => hq _ _) hs ht
end

noncomputable abbrev KK (w : World) : Frag := hd.heap_39 w.params
end Mine
end R5

section R6
open PySem PySem.W PyProof.Rows PySem.Calls
set_option maxRecDepth 100000
set_option maxHeartbeats 4000000
namespace Mine

theorem noBool_match : typeLookup (.type "re.Match") "__bool__" = pure none := by rw [typeLookup_type, builtinLookup_eq_fast]; kernel_rfl
theorem noLen_match : typeLookup (.type "re.Match") "__len__" = pure none := by rw [typeLookup_type, builtinLookup_eq_fast]; kernel_rfl

/-- what the searches ask of a text -/
structure Ok (x : Str) : Prop where
  calm : Calm x.cps
  no10 : ∀ i : Nat, x.cps.getD i 0 ≠ 10
  size : x.cps.size ≤ 1000
theorem Ok.p60 {x : Str} (o : Ok x) : x.cps.size ≤ 2 ^ 60 := Nat.le_trans o.size (by decide)
def dot : List Nat := [46]
def hdn (x : Str) : Bool := !ipv x.cps && !(x.cps.toList == []) && !((Txt.item x 0).cps.toList == dot || (Txt.item x (-1)).cps.toList == dot)
def udm (a b : Str) : Bool :=
  let a := Txt.lower a
  let b := Txt.lower b
  if !(!ipv a.cps && !ipv b.cps) then a.cps.toList == b.cps.toList
  else if Txt.startswith b "." then Txt.endswith a b else a.cps.toList == b.cps.toList
def reachF (h : Str) : Str :=
  if 0 ≤ Txt.find h "." then
    let b := Txt.slice h (some (Txt.find h "." + 1)) none
    if hdn h && (decide (0 ≤ Txt.find b ".") || b.cps.toList == (Str.ofString "local").cps.toList) then Str.ofString "." ++ b else h
  else h

section
variable {prog : Program} {w : World} {A : Around} {s : Shared} {h : Heap} {tk : Nat} {mg mb : Str → Option Value} {E : Value → Shared → Prop} {env : Env}
theorem truthy_match {a : Addr} {Q : Bool → Shared → Prop} (ha : IsMatch h a) (hq : Q true (St s h tk)) : wpAny (model prog w) A (truthy (.ref a)) Q E (St s h tk) := by
  obtain ⟨d, e⟩ := ha
  have hT : (St s h tk).TypeIs (.ref a) "re.Match" := ⟨_, e, rfl⟩
  unfold truthy
  refine wpAny_bind (wpAny_callSpecial?_none (name := Str.ofString "__bool__") hT noBool_match ?_)
  refine wpAny_bind (wpAny_specialOf (name := Str.ofString "__len__") hT noLen_match ?_)
  exact wpAny_pure hq

variable {Q : Value → Shared → Prop}
theorem s_search {P C : Addr} {a b : Value} {x : Str} {t : Tok} (hP : h.get? P = some (patObj a b C)) (hC : h.get? C = some codeObj) (ok : Ok x)
    (hyes : ipv x.cps = true → ∀ h' tk' q, h.StaysIn h' → IsMatch h' q → Q (.ref q) (St s h' tk')) (hno : ipv x.cps = false → ∀ tk', Q .none (St s h tk')) :
    wpAny (model prog w) A (call (.builtin "re.Pattern.search") [.ref P, .str x t]) Q E (St s h tk) :=
  search_ (C := C) hP hC ok.calm ok.no10 ok.p60 (fun hy h' q k m => hyes hy h' _ q k m) fun hn => hno hn _

/-- a text's end from i on -/
theorem sub_from {value lo : Expr} {p pos : Pos} {x : Str} {t : Tok}
    (hq : wpAny (model prog w) A (eval value env) (fun v s₁ => v = .str x t ∧ wpAny (model prog w) A (eval lo env) (fun v₂ s₂ => ∃ i u h₂ tk₂, v₂ = .int i u ∧ s₂ = St s h₂ tk₂ ∧
      ∀ h' t' k, h₂.StaysIn h' → Q (.str (Txt.slice x (some i) none) t') (St s h' k)) E s₁) E (St s h tk)) (hsz : x.length ≤ 1000)
    (hs : ∀ a, subscripted (.Slice (some lo) none none p) false (.str x t) (.ref a) = operate [.ref a, .str x t] (getItem (.str x t) (.ref a)) := by intro _; with_unfolding_all rfl) :
    wpAny (model prog w) A (eval (.Subscript value (.Slice (some lo) none none p) pos) env) Q E (St s h tk) := by
  refine Subscript_ (wpAny_mono hq (fun v s₁ h₁ => ?_) fun _ _ e => e)
  obtain ⟨rfl, h₁⟩ := h₁
  refine wpAny_Slice (wpAny_evalPart_some (wpAny_mono h₁ (fun v₂ s₂ h₂ => ?_) fun _ _ e => e))
  obtain ⟨i, u, h₃, tk₃, rfl, rfl, h₂⟩ := h₂
  refine wpAny_evalPart_none (wpAny_evalPart_none ?_)
  obtain ⟨T, id, hl, hT, hg⟩ := SBH.sliceItem_sn (prog := prog) (w := w) (A := A) (E := E) (Q := Q) (s := St s h₃ tk₃) (x := x) (t := t) (i := i) (ui := u) (P := fun h => h₃.StaysIn h) (fun _ _ k b o e => Heap.get?_push_of_some _ (k b o e)) (fun _ _ e => e) (fun h' t' k hk => h₂ h' t' k hk) (Nat.le_trans hsz (by rw [sizeLine_eq]; decide))
  exact tail_any hT hl hg (hs _)

theorem call_liberal {x : Str} {t : Tok} {k : Nat} (R : Rm A (k + 1)) (W : Wd (KK w) mg mb h) (T : TI h) (ok : Ok x)
    (hq : ∀ h' tk', Kp h h' → TI h' → Q (.bool (!ipv x.cps)) (St s h' tk')) : wpAny (model prog w) A (call (.ref 50) [.str x t]) Q E (St s h tk) := by
  refine enter (binds := [(Str.ofString "text", .str x t)]) R W T (by rfl) (by rfl) (BindsTo.of_eq rfl) (locs rfl) (fun L h₁ tk₁ E' B R' => ?_) rfl rfl rfl (by decide)
  have W₁ := W.keeps T B.kp
  have hP : h₁.get? 36 = _ := W₁.X 36 _ rfl
  refine wpAny_execs_cons (wpAny_If (wpAny_isTrue_value (call_meth attrs_pattern slot_search type_search (nm_glob W₁ (v := .ref 36) (by rfl) ⟨⟨_, hP, rfl⟩, fun a e => ?_, callWith_method1 ?_⟩))))
  · cases e; exact ⟨_, hP, rfl⟩
  refine sp_cons (nm_local (B.ns 0 rfl) (sp_nil ?_))
  refine s_search (C := 35) hP (W₁.X 35 _ rfl) ok (fun hy h' tk' q k m => ?_) (fun hn tk' => ?_)
  · refine truthy_match m (wpAny_execs_cons (wpAny_Return_some (wpAny_Constant_bool ?_)))
    rw [hy] at hq
    exact hq h' _ (B.kp.trans (.of k)) (B.ti.stays k)
  · refine truthy_none (wpAny_execs_nil (wpAny_execs_cons (wpAny_Return_some (wpAny_Constant_bool ?_))))
    rw [hn] at hq
    exact hq h₁ _ B.kp B.ti

theorem call_isHDN {x : Str} {t : Tok} {k : Nat} (R : Rm A (k + 1)) (W : Wd (KK w) mg mb h) (T : TI h) (ok : Ok x)
    (hq : ∀ h' tk', Kp h h' → TI h' → Q (.bool (hdn x)) (St s h' tk')) : wpAny (model prog w) A (call (.ref 43) [.str x t]) Q E (St s h tk) := by
  refine enter (binds := [(Str.ofString "text", .str x t)]) R W T (by rfl) (by rfl) (BindsTo.of_eq rfl) (locs rfl) (fun L h₁ tk₁ E' B R' => ?_) rfl rfl rfl (by decide)
  have W₁ := W.keeps T B.kp
  have hP : h₁.get? 36 = _ := W₁.X 36 _ rfl
  refine wpAny_execs_cons (wpAny_If (wpAny_isTrue_value (call_meth attrs_pattern slot_search type_search (nm_glob W₁ (v := .ref 36) (by rfl) ⟨⟨_, hP, rfl⟩, fun a e => ?_, callWith_method1 ?_⟩))))
  · cases e; exact ⟨_, hP, rfl⟩
  refine sp_cons (nm_local (B.ns 0 rfl) (sp_nil ?_))
  refine s_search (C := 35) hP (W₁.X 35 _ rfl) ok (fun hy h' tk' q k m => ?_) (fun hn tk' => ?_)
  · refine truthy_match m (wpAny_execs_cons (wpAny_Return_some (wpAny_Constant_bool ?_)))
    rw [show hdn x = false by simp [hdn, hy]] at hq
    exact hq h' _ (B.kp.trans (.of k)) (B.ti.stays k)
  refine truthy_none (wpAny_execs_nil ?_)
  refine wpAny_execs_cons (wpAny_If (wpAny_isTrue_Compare1 (nm_local (B.ns 0 rfl) (c_str fun t₂ tk₂ => P.eq_str (wpAny_truthy_bool ?_)))))
  cases he : (x.cps.toList == (Str.ofString "").cps.toList) with
  | true =>
    refine wpAny_execs_cons (wpAny_Return_some (wpAny_Constant_bool ?_))
    rw [show hdn x = false by simp only [hdn]; rw [show (x.cps.toList == []) = true from he]; simp] at hq
    exact hq _ _ B.kp B.ti
  | false =>
    have he' : (x.cps.toList == []) = false := he
    have hlen : 0 < x.length := by
      cases hx : x.cps.toList with
      | nil => rw [hx] at he'; cases he'
      | cons c r => show 0 < x.cps.size; rw [← Array.length_toList, hx]; simp
    have hle : x.length ≤ 1000 := ok.size
    refine wpAny_execs_nil (wpAny_execs_cons (wpAny_If (wpAny_isTrue_BoolOp (wpAny_allTrue_Or_cons (wpAny_isTrue_Compare1 ?_)))))
    refine Subscript_ (nm_local (B.ns 0 rfl) (c_int fun t₃ tk₃ => ?_))
    refine s_item rfl (by omega) (by omega) fun t₄ tk₄ => c_str fun t₅ tk₅ => P.eq_str (wpAny_truthy_bool ?_)
    cases h0 : ((Txt.item x 0).cps.toList == (Str.ofString ".").cps.toList) with
    | true =>
      refine wpAny_execs_cons (wpAny_Return_some (wpAny_Constant_bool ?_))
      rw [show hdn x = false by simp only [hdn]; rw [show ((Txt.item x 0).cps.toList == dot) = true from h0]; simp] at hq
      exact hq _ _ B.kp B.ti
    | false =>
      refine wpAny_allTrue_Or_cons (wpAny_isTrue_Compare1 (Subscript_ (nm_local (B.ns 0 rfl) (wpAny_UnaryOp (c_int fun t₆ tk₆ => i_neg fun t₇ tk₇ => ?_)))))
      refine s_item rfl (by omega) (by omega) fun t₄ tk₄ => c_str fun t₅ tk₅ => P.eq_str (wpAny_truthy_bool ?_)
      cases h2 : ((Txt.item x (-1)).cps.toList == (Str.ofString ".").cps.toList) with
      | true =>
        refine wpAny_execs_cons (wpAny_Return_some (wpAny_Constant_bool ?_))
        rw [show hdn x = false by simp only [hdn]; rw [show ((Txt.item x (-1)).cps.toList == dot) = true from h2]; simp] at hq
        exact hq _ _ B.kp B.ti
      | false =>
        refine wpAny_allTrue_Or_nil (wpAny_execs_nil (wpAny_execs_cons (wpAny_Return_some (wpAny_Constant_bool ?_))))
        rw [show hdn x = true by simp only [hdn]; rw [show ((Txt.item x (-1)).cps.toList == dot) = false from h2, show ((Txt.item x 0).cps.toList == dot) = false from h0, hn, he']; rfl] at hq
        exact hq _ _ B.kp B.ti

theorem call_udm {x y : Str} {t u : Tok} {k : Nat} (R : Rm A (k + 2)) (W : Wd (KK w) mg mb h) (T : TI h) (okx : Ok (Txt.lower x)) (oky : Ok (Txt.lower y))
    (hq : ∀ h' tk', Kp h h' → TI h' → Q (.bool (udm x y)) (St s h' tk')) : wpAny (model prog w) A (call (.ref 57) [.str x t, .str y u]) Q E (St s h tk) := by
  refine enter (binds := [(Str.ofString "A", .str x t), (Str.ofString "B", .str y u)]) R W T (by rfl) (by rfl) (BindsTo.of_eq rfl) (locs rfl) (fun L h₁ tk₁ E' B R' => ?_) rfl rfl rfl (by decide)
  refine wpAny_execs_cons (wpAny_Assign_Name (str_meth F.slot_str_lower F.type_str_lower (nm_local (B.ns 0 rfl) ⟨_, _, rfl, callWith_method0 (s_lower okx.size fun t₂ tk₂ => ?_)⟩)))
  refine st_local 0 B rfl fun h₂ tk₂ B₂ _ => ?_
  refine wpAny_execs_cons (wpAny_Assign_Name (str_meth F.slot_str_lower F.type_str_lower (nm_local (B₂.ns 0 rfl) ⟨_, _, rfl, callWith_method0 (s_lower oky.size fun t₃ tk₃ => ?_)⟩)))
  refine st_local 0 B₂ rfl fun h₃ tk₃ B₃ _ => ?_
  have W₃ := W.keeps T B₃.kp
  refine wpAny_execs_cons (wpAny_If (wpAny_isTrue_Not (wpAny_isTrue_BoolOp (wpAny_allTrue_And_cons (wpAny_isTrue_value (call_fn W₃ (f := 50) (by rfl) (by rfl) ?_))))))
  refine sp_cons (nm_local (B₃.ns 0 rfl) (sp_nil ⟨W₃.X, call_liberal R' W₃ B₃.ti okx fun h₄ tk₄ k₄ T₄ => wpAny_truthy_bool ?_⟩))
  have B₄ := B₃.call k₄ T₄
  have W₄ := W₃.keeps B₃.ti k₄
  cases e1 : !ipv (Txt.lower x).cps with
  | false =>
    refine wpAny_execs_cons (wpAny_If (wpAny_isTrue_Compare1 (nm_local (B₄.ns 0 rfl) (nm_local (B₄.ns 0 rfl) (P.eq_str (wpAny_truthy_bool ?_))))))
    have e : udm x y = ((Txt.lower x).cps.toList == (Txt.lower y).cps.toList) := by simp only [udm, e1]; rfl
    rw [e] at hq
    cases e2 : ((Txt.lower x).cps.toList == (Txt.lower y).cps.toList) with
    | true => rw [e2] at hq; exact wpAny_execs_cons (wpAny_Return_some (wpAny_Constant_bool (hq _ _ B₄.kp B₄.ti)))
    | false => rw [e2] at hq; exact wpAny_execs_nil (wpAny_execs_cons (wpAny_Return_some (wpAny_Constant_bool (hq _ _ B₄.kp B₄.ti))))
  | true =>
    refine wpAny_allTrue_And_cons (wpAny_isTrue_value (call_fn W₄ (f := 50) (by rfl) (by rfl) ?_))
    refine sp_cons (nm_local (B₄.ns 0 rfl) (sp_nil ⟨W₄.X, call_liberal R' W₄ B₄.ti oky fun h₅ tk₅ k₅ T₅ => wpAny_truthy_bool ?_⟩))
    have B₅ := B₄.call k₅ T₅
    cases e2 : !ipv (Txt.lower y).cps with
    | false =>
      refine wpAny_execs_cons (wpAny_If (wpAny_isTrue_Compare1 (nm_local (B₅.ns 0 rfl) (nm_local (B₅.ns 0 rfl) (P.eq_str (wpAny_truthy_bool ?_))))))
      have e : udm x y = ((Txt.lower x).cps.toList == (Txt.lower y).cps.toList) := by simp only [udm, e1, e2]; rfl
      rw [e] at hq
      cases e3 : ((Txt.lower x).cps.toList == (Txt.lower y).cps.toList) with
      | true => rw [e3] at hq; exact wpAny_execs_cons (wpAny_Return_some (wpAny_Constant_bool (hq _ _ B₅.kp B₅.ti)))
      | false => rw [e3] at hq; exact wpAny_execs_nil (wpAny_execs_cons (wpAny_Return_some (wpAny_Constant_bool (hq _ _ B₅.kp B₅.ti))))
    | true =>
      refine wpAny_allTrue_And_nil (wpAny_execs_nil ?_)
      refine wpAny_execs_cons (wpAny_Assign_Name (str_meth F.slot_str_startswith F.type_str_startswith (nm_local (B₅.ns 0 rfl) ⟨_, _, rfl, callWith_method1 (sp_cons (c_str fun t₆ tk₆ => sp_nil (SC.startswith ?_)))⟩)))
      refine st_local 0 B₅ rfl fun h₆ tk₆ B₆ _ => ?_
      refine wpAny_execs_cons (wpAny_If (wpAny_isTrue_BoolOp (wpAny_allTrue_And_cons (wpAny_isTrue_value (nm_local (B₆.ns 0 rfl) (wpAny_truthy_bool ?_))))))
      cases e3 : Txt.startswith (Txt.lower y) (Str.ofString ".") with
      | true =>
        have e : udm x y = Txt.endswith (Txt.lower x) (Txt.lower y) := by simp only [udm, e1, e2]; rw [show Txt.startswith (Txt.lower y) "." = true from e3]; rfl
        rw [e] at hq
        refine wpAny_allTrue_And_cons (wpAny_isTrue_value (str_meth F.slot_str_endswith F.type_str_endswith (nm_local (B₆.ns 0 rfl) ⟨_, _, rfl, callWith_method1 (sp_cons (nm_local (B₆.ns 0 rfl) (sp_nil (SC.endswith (wpAny_truthy_bool ?_)))))⟩)))
        cases e4 : Txt.endswith (Txt.lower x) (Txt.lower y) with
        | true => rw [e4] at hq; exact wpAny_allTrue_And_nil (wpAny_execs_cons (wpAny_Return_some (wpAny_Constant_bool (hq _ _ B₆.kp B₆.ti))))
        | false =>
          rw [e4] at hq
          refine wpAny_execs_nil (wpAny_execs_cons (wpAny_If (wpAny_isTrue_BoolOp (wpAny_allTrue_And_cons (wpAny_isTrue_Not (wpAny_isTrue_value (nm_local (B₆.ns 0 rfl) (wpAny_truthy_bool ?_))))))))
          rw [e3]
          exact wpAny_execs_nil (wpAny_execs_cons (wpAny_Return_some (wpAny_Constant_bool (hq _ _ B₆.kp B₆.ti))))
      | false =>
        have e : udm x y = ((Txt.lower x).cps.toList == (Txt.lower y).cps.toList) := by simp only [udm, e1, e2]; rw [show Txt.startswith (Txt.lower y) "." = false from e3]; rfl
        rw [e] at hq
        refine wpAny_execs_nil (wpAny_execs_cons (wpAny_If (wpAny_isTrue_BoolOp (wpAny_allTrue_And_cons (wpAny_isTrue_Not (wpAny_isTrue_value (nm_local (B₆.ns 0 rfl) (wpAny_truthy_bool ?_))))))))
        rw [e3]
        refine wpAny_allTrue_And_cons (wpAny_isTrue_Compare1 (nm_local (B₆.ns 0 rfl) (nm_local (B₆.ns 0 rfl) (P.eq_str (wpAny_truthy_bool ?_)))))
        cases e4 : ((Txt.lower x).cps.toList == (Txt.lower y).cps.toList) with
        | true => rw [e4] at hq; exact wpAny_allTrue_And_nil (wpAny_execs_cons (wpAny_Return_some (wpAny_Constant_bool (hq _ _ B₆.kp B₆.ti))))
        | false => rw [e4] at hq; exact wpAny_execs_nil (wpAny_execs_cons (wpAny_Return_some (wpAny_Constant_bool (hq _ _ B₆.kp B₆.ti))))

theorem call_reach {x : Str} {t : Tok} {k : Nat} (R : Rm A (k + 2)) (W : Wd (KK w) mg mb h) (T : TI h) (ok : Ok x)
    (hq : ∀ t' h' tk', Kp h h' → TI h' → Q (.str (reachF x) t') (St s h' tk')) : wpAny (model prog w) A (call (.ref 64) [.str x t]) Q E (St s h tk) := by
  have hb : ∀ i, (Txt.slice x i none).length ≤ 1000 := fun i => Nat.le_trans (Txt.slice_le x i none) ok.size
  refine enter (binds := [(Str.ofString "h", .str x t)]) R W T (by rfl) (by rfl) (BindsTo.of_eq rfl) (locs rfl) (fun L h₁ tk₁ E' B R' => ?_) rfl rfl rfl (by decide)
  refine wpAny_execs_cons (wpAny_Assign_Name (str_meth F.slot_str_find F.type_str_find (nm_local (B.ns 0 rfl) ⟨_, _, rfl, callWith_method1 (sp_cons (c_str fun t₂ tk₂ => sp_nil (s_find fun t₃ tk₃ => ?_)))⟩)))
  refine st_local 0 B rfl fun h₂ tk₂ B₂ _ => ?_
  refine wpAny_execs_cons (wpAny_If (wpAny_isTrue_Compare1 (nm_local (B₂.ns 0 rfl) (c_int fun t₄ tk₄ => P.ge_int (wpAny_truthy_bool ?_)))))
  by_cases hf : 0 ≤ Txt.find x (Str.ofString ".")
  · rw [decide_eq_true (show Txt.find x (Str.ofString ".") ≥ 0 from hf)]
    refine wpAny_execs_cons (wpAny_Assign_Name (sub_from (x := x) (t := t) (nm_local (B₂.ns 0 rfl) ⟨rfl, wpAny_BinOp (nm_local (B₂.ns 0 rfl) (c_int fun t₅ tk₅ => i_add fun t₆ tk₆ => ⟨_, _, _, _, rfl, rfl, fun h₃ t₃ tk₃ k₃ => ?_⟩))⟩) ok.size))
    have B₃ := B₂.grow k₃
    refine st_local 0 B₃ rfl fun h₄ tk₄ B₄ _ => ?_
    refine wpAny_execs_cons (wpAny_Assign_Name (str_meth F.slot_str_find F.type_str_find (nm_local (B₄.ns 0 rfl) ⟨_, _, rfl, callWith_method1 (sp_cons (c_str fun t₂ tk₂ => sp_nil (s_find fun t₃ tk₃ => ?_)))⟩)))
    refine st_local 0 B₄ rfl fun h₅ tk₅ B₅ _ => ?_
    have W₅ := W.keeps T B₅.kp
    refine wpAny_execs_cons (wpAny_If (wpAny_isTrue_BoolOp (wpAny_allTrue_And_cons (wpAny_isTrue_value (call_fn W₅ (f := 43) (by rfl) (by rfl) (sp_cons (nm_local (B₅.ns 0 rfl) (sp_nil ⟨W₅.X, ?_⟩))))))))
    refine call_isHDN R' W₅ B₅.ti ok fun h₆ tk₆ k₆ T₆ => wpAny_truthy_bool ?_
    have B₆ := B₅.call k₆ T₆
    cases e1 : hdn x with
    | false =>
      refine wpAny_execs_nil (wpAny_execs_nil (wpAny_execs_cons (wpAny_Return_some (nm_local (B₆.ns 0 rfl) ?_))))
      rw [show reachF x = x by unfold reachF; rw [if_pos hf, e1]; rfl] at hq
      exact hq _ _ _ B₆.kp B₆.ti
    | true =>
      refine wpAny_allTrue_And_cons (wpAny_isTrue_BoolOp (wpAny_allTrue_Or_cons (wpAny_isTrue_Compare1 (nm_local (B₆.ns 0 rfl) (c_int fun t₅ tk₅ => P.ge_int (wpAny_truthy_bool ?_))))))
      by_cases hj : 0 ≤ Txt.find (Txt.slice x (some (Txt.find x (Str.ofString ".") + 1)) none) (Str.ofString ".")
      · rw [decide_eq_true (show Txt.find _ (Str.ofString ".") ≥ 0 from hj)]
        refine wpAny_allTrue_And_nil (wpAny_execs_cons (wpAny_Return_some (wpAny_BinOp (c_str fun t₅ tk₅ => nm_local (B₆.ns 0 rfl) (s_add ?_ fun t' tk' => ?_)))))
        · have := hb (some (Txt.find x (Str.ofString ".") + 1)); show 1 + _ ≤ _; omega
        · rw [show reachF x = Str.ofString "." ++ Txt.slice x (some (Txt.find x (Str.ofString ".") + 1)) none by
            unfold reachF; rw [if_pos hf]; dsimp only; rw [e1, decide_eq_true hj]; rfl] at hq
          exact hq _ _ _ B₆.kp B₆.ti
      · rw [decide_eq_false (show ¬ Txt.find _ (Str.ofString ".") ≥ 0 from hj)]
        refine wpAny_allTrue_Or_cons (wpAny_isTrue_Compare1 (nm_local (B₆.ns 0 rfl) (c_str fun t₅ tk₅ => P.eq_str (wpAny_truthy_bool ?_))))
        cases e2 : ((Txt.slice x (some (Txt.find x (Str.ofString ".") + 1)) none).cps.toList == (Str.ofString "local").cps.toList) with
        | true =>
          refine wpAny_allTrue_And_nil (wpAny_execs_cons (wpAny_Return_some (wpAny_BinOp (c_str fun t₅ tk₅ => nm_local (B₆.ns 0 rfl) (s_add ?_ fun t' tk' => ?_)))))
          · have := hb (some (Txt.find x (Str.ofString ".") + 1)); show 1 + _ ≤ _; omega
          · rw [show reachF x = Str.ofString "." ++ Txt.slice x (some (Txt.find x (Str.ofString ".") + 1)) none by
              unfold reachF; rw [if_pos hf]; dsimp only; rw [e1, decide_eq_false hj, e2]; rfl] at hq
            exact hq _ _ _ B₆.kp B₆.ti
        | false =>
          refine wpAny_allTrue_Or_nil (wpAny_execs_nil (wpAny_execs_nil (wpAny_execs_cons (wpAny_Return_some (nm_local (B₆.ns 0 rfl) ?_)))))
          rw [show reachF x = x by unfold reachF; rw [if_pos hf]; dsimp only; rw [e1, decide_eq_false hj, e2]; rfl] at hq
          exact hq _ _ _ B₆.kp B₆.ti
  · rw [decide_eq_false (show ¬ Txt.find x (Str.ofString ".") ≥ 0 from hf)]
    refine wpAny_execs_nil (wpAny_execs_cons (wpAny_Return_some (nm_local (B₂.ns 0 rfl) ?_)))
    rw [show reachF x = x by unfold reachF; rw [if_neg hf]] at hq
    exact hq _ _ _ B₂.kp B₂.ti
end
end Mine
end R6

section R10
open PySem PySem.W PyProof.Rows PySem.Calls
set_option maxRecDepth 100000
set_option maxHeartbeats 4000000
namespace Mine

/-! data on the heap -/
def VS (v : Value) (x : Str) : Prop := ∃ t, v = .str x t
def VI (v : Value) (n : Int) : Prop := ∃ t, v = .int n t
def VB (v : Value) (b : Bool) : Prop := v = .bool b
/-- the lists stand -/
def isL (o : Obj) : Prop := (o.cls = .type "list" ∨ o.cls = .type "tuple") ∧ ∃ vs n, o.data = .seq vs n
def Lk (h h' : Heap) : Prop := ∀ b o, isL o → h.get? b = some o → h'.get? b = some o
def LOf {α : Type} (R : Heap → Value → α → Prop) (h : Heap) (v : Value) (xs : List α) : Prop := ∃ a vs, v = .ref a ∧ h.IsList a vs.toArray ∧ Paired (R h) vs xs
abbrev SL := LOf (fun _ => VS)
abbrev IL := LOf (fun _ => VI)
abbrev BL := LOf (fun _ => VB)
abbrev SLL := LOf SL
abbrev ILL := LOf IL
theorem Lk.refl (h : Heap) : Lk h h := fun _ _ _ e => e
theorem Lk.trans {a b c : Heap} (x : Lk a b) (y : Lk b c) : Lk a c := fun _ _ n e => y _ _ n (x _ _ n e)
theorem Kp.lk {h h' : Heap} (t : TI h) (k : Kp h h') : Lk h h' := fun b o c e => k b o (t.off e (by rcases c.1 with q | q <;> rw [q] <;> nofun)) e
theorem Lk.isList {h h' : Heap} (k : Lk h h') {a : Addr} {vs : Array Value} (x : h.IsList a vs) : h'.IsList a vs := let ⟨o, e, c, n, r⟩ := x; ⟨o, k _ _ ⟨.inl c, _, n, r⟩ e, c, n, r⟩
theorem Paired.imp {α β : Type} {F G : α → β → Prop} (h : ∀ a b, F a b → G a b) : ∀ {l₁ : List α} {l₂ : List β}, Paired F l₁ l₂ → Paired G l₁ l₂
  | _, _, .nil => .nil
  | _, _, .cons x r => .cons (h _ _ x) (Paired.imp h r)
theorem Paired.get {α β : Type} {F : α → β → Prop} : ∀ {l₁ : List α} {l₂ : List β}, Paired F l₁ l₂ → ∀ {i : Nat} {y : β}, l₂[i]? = some y → ∃ x, l₁[i]? = some x ∧ F x y
  | _, _, .nil, i, y, e => by simp at e
  | _, _, .cons x r, 0, y, e => by simp at e; subst e; exact ⟨_, rfl, x⟩
  | _, _, .cons x r, i + 1, y, e => by simp at e; simpa using Paired.get r e
theorem Paired.getL {α β : Type} {F : α → β → Prop} : ∀ {l₁ : List α} {l₂ : List β}, Paired F l₁ l₂ → ∀ {i : Nat} {x : α}, l₁[i]? = some x → ∃ y, l₂[i]? = some y ∧ F x y
  | _, _, .nil, i, y, e => by simp at e
  | _, _, .cons x r, 0, y, e => by simp at e; subst e; exact ⟨_, rfl, x⟩
  | _, _, .cons x r, i + 1, y, e => by simp at e; simpa using Paired.getL r e
theorem Paired.mk {α β : Type} {F : α → β → Prop} : ∀ {l₁ : List α} {l₂ : List β}, l₁.length = l₂.length → (∀ (i : Nat) x y, l₁[i]? = some x → l₂[i]? = some y → F x y) → Paired F l₁ l₂
  | [], [], _, _ => .nil
  | _ :: _, [], e, _ => by simp at e
  | [], _ :: _, e, _ => by simp at e
  | a :: l, b :: r, e, h => .cons (h 0 a b rfl rfl) (Paired.mk (by simpa using e) fun i x y hx hy => h (i + 1) x y (by simpa using hx) (by simpa using hy))
theorem LOf.mono {α : Type} {R : Heap → Value → α → Prop} {h h' : Heap} {v : Value} {xs : List α} (k : Lk h h') (hR : ∀ v x, R h v x → R h' v x) (x : LOf R h v xs) : LOf R h' v xs :=
  let ⟨a, vs, e, l, p⟩ := x; ⟨a, vs, e, k.isList l, Paired.imp hR p⟩
theorem SL.mono {h h' : Heap} {v : Value} {xs : List Str} (k : Lk h h') (x : SL h v xs) : SL h' v xs := LOf.mono k (fun _ _ e => e) x
theorem IL.mono {h h' : Heap} {v : Value} {xs : List Int} (k : Lk h h') (x : IL h v xs) : IL h' v xs := LOf.mono k (fun _ _ e => e) x
theorem BL.mono {h h' : Heap} {v : Value} {xs : List Bool} (k : Lk h h') (x : BL h v xs) : BL h' v xs := LOf.mono k (fun _ _ e => e) x
theorem SLL.mono {h h' : Heap} {v : Value} {xs : List (List Str)} (k : Lk h h') (x : SLL h v xs) : SLL h' v xs := LOf.mono k (fun _ _ e => e.mono k) x
theorem ILL.mono {h h' : Heap} {v : Value} {xs : List (List Int)} (k : Lk h h') (x : ILL h v xs) : ILL h' v xs := LOf.mono k (fun _ _ e => e.mono k) x

/-- all but the iterator -/
def KI (I : Addr) (h h' : Heap) : Prop := ∀ b o, b ∉ tabs → b ≠ I → h.get? b = some o → h'.get? b = some o
theorem KI.trans {I : Addr} {a b c : Heap} (x : KI I a b) (y : KI I b c) : KI I a c := fun _ _ n i e => y _ _ n i (x _ _ n i e)

section
variable {prog : Program} {w : World} {A : Around} {E : Value → Shared → Prop} {env : Env}

theorem comp_core {s : Shared} {hb : Heap} {tk₀ : Nat} {elt iter : Expr} {x : Str} {px : Pos} {scope : Scope} {cl : List (Str × Addr)} {pos : Pos} {I : Addr} {fp : List Addr} {n : Nat} {P : Nat → Value → Prop} {Z : Nat → Heap → Prop}
    (W : Walks prog w A I fp [I] n P Z) (hsz : n ≤ sizeLine) (F : Nat → Heap → Value → Prop) (mono : ∀ j h h' y, Lk h h' → F j h y → F j h' y) {RR : Value → Addr → Result → Shared → Prop}
    (T : TI hb) (hIt : I ∉ tabs) (hIlt : I < hb.objs.size) (hSt : ∀ i h, Z i h → ∃ o, h.get? I = some o ∧ Plain o ∧ ¬ isL o)
    (hst : Z 0 hb) (hfp : ∀ b ∈ fp, b < hb.objs.size ∧ b ∉ tabs)
    (hcell : ∀ y ∈ scope.names, y.2 ≠ .cell) (hkind : scope.kind = .function) (hx : scope.names.lookup x = some .local)
    (helt : ∀ C D i v h₃ tk₃ m₃ E' (Q' : Value → Shared → Prop), i < n → P i v → h₃.Ns C m₃ → m₃ x = some v → KI I hb h₃ → TI h₃ → hb.get? D = none → (∃ o, h₃.get? D = some o ∧ o.cls = .type "list") → hb.get? C = none →
      (∀ y h' tk, Kp h₃ h' → TI h' → F i (hideAll h' [D]) y → Q' y (St s h' tk)) → wpAny (model prog w) A (eval elt (compEnvC scope cl C env)) Q' E' (St s h₃ tk₃))
    (hRR : ∀ D C h' tk m' (ys : List Value), hb.get? D = none → hb.get? C = none → D ≠ C → h'.Ns C m' → h'.IsList D ys.toArray → ys.length = n → (∀ (j : Nat) y, ys[j]? = some y → F j h' y) → KI I hb h' → TI h' →
      RR (.ref D) C (.ok .next) (St s h' tk)) :
    wpAny (model prog w) A (newList []) (fun acc s₃ => wpAny (model prog w) A (newFunctionEnv scope env.globals cl [] env.qual none .none (some env)) (fun cenv s₄ =>
      codeAny (model prog w) A (.compStart (.ListComp elt [⟨.Name x px, iter, [], 0⟩] scope pos) 0 (.ref I) acc { cenv with scope := relabel scope env }) (RR acc cenv.locals) s₄) E s₃) E (St s hb tk₀) := by
  refine wpAny_newObj_type (wpAny_newFunctionEnv hcell (by intro y hy; simp at hy) (fun h₁ hns₁ hsb₁ => ?_) hkind)
  dsimp only [St] at hns₁ hsb₁
  show codeAny _ _ (.compStart _ 0 (.ref I) (.ref hb.objs.size) (compEnvC scope cl (hb.push { cls := .type "list", dict := none, data := .seq ([] : List Value).toArray }).objs.size env)) (RR (.ref hb.objs.size) (hb.push { cls := .type "list", dict := none, data := .seq ([] : List Value).toArray }).objs.size) (St s h₁ (tk₀ + ([] : List (Str × Value)).length))
  generalize hH2 : hb.push { cls := .type "list", dict := none, data := .seq ([] : List Value).toArray } = H2 at hns₁ hsb₁ ⊢
  have hC : H2.objs.size = hb.objs.size + 1 := by rw [← hH2, Heap.size_push]
  have hDC : hb.objs.size ≠ H2.objs.size := by rw [hC]; exact Nat.ne_of_lt (Nat.lt_succ_self _)
  have below : ∀ b, b < hb.objs.size → b ≠ H2.objs.size ∧ b ≠ hb.objs.size := fun b hb => ⟨by rw [hC]; exact Nat.ne_of_lt (Nat.lt_succ_of_lt hb), Nat.ne_of_lt hb⟩
  have old : hb.StaysIn h₁ := fun b o e => hsb₁.extBut b o (below b (Heap.lt_size e)).1 (Heap.get?_push_of_some _ (hH2 ▸ Heap.get?_push_of_some _ e))
  have hst₁ : Z 0 h₁ := W.frame _ _ _ hst fun b _ o e => old b o e
  have fresh : ∀ a, hb.objs.size ≤ a → hb.get? a = none := fun a ha => get_none ha
  have hDn : hb.get? hb.objs.size = none := fresh _ (Nat.le_refl _)
  have hCn : hb.get? H2.objs.size = none := fresh _ (by rw [hC]; exact Nat.le_succ _)
  have hDt := T.new hDn
  have hCt := T.new hCn
  generalize hDe : hb.objs.size = D at *
  generalize hCe : H2.objs.size = C at *
  have hID : I ≠ D := Nat.ne_of_lt hIlt
  have hIC : I ≠ C := (below I hIlt).1
  have hacc : h₁.IsList D #[] := ⟨_, hsb₁.extBut _ _ hDC (Heap.get?_push_of_some _ (hH2 ▸ (hDe ▸ Heap.get?_push_size _ rfl))), rfl, _, rfl⟩
  have loop : ∀ s₃ : Shared, s₃ = St s h₁ (tk₀ + ([] : List (Str × Value)).length) →
      codeAny (model prog w) A (.compLoop (.ListComp elt [⟨.Name x px, iter, [], 0⟩] scope pos) 0 (.ref I) (.ref D) (compEnvC scope cl C env)) (RR (.ref D) C) s₃ := by
    rintro s₃ rfl
    refine codeAny_compLoop_tests
      (fun k s' => ∃ h' tk m' ys i, s' = St s h' tk ∧ Z i h' ∧ h'.IsList D (List.toArray ys) ∧ h'.Ns C m' ∧ ys.length = i ∧ (∀ (j : Nat) y, ys[j]? = some y → F j (hideAll h' [D]) y) ∧ i ≤ n ∧ k = n + 1 - i ∧ KI I hb h' ∧ TI h') ?_ (n + 1)
      ⟨h₁, _, _, [], 0, rfl, hst₁, hacc, hns₁, rfl, fun j v e => by simp at e, Nat.zero_le _, rfl, fun b o _ _ e => old b o e, T.stays old⟩
    rintro k s' ⟨h', tk, m', ys, i, rfl, hst', hl', hn', hlen, hF, hi, rfl, hk, ht⟩
    by_cases hlt : i < n
    · refine W.item i _ _ _ hlt hst' fun v h₂ tk₂ hv hst₂ hk₂ => ?_
      have hk₂ : ∀ b o, b ∉ [I] → h'.get? b = some o → h₂.get? b = some o := hk₂
      have hk₂' : Heap.ExtBut I h' h₂ := fun b o hb e => hk₂ b o (fun m => hb (by simpa using m)) e
      obtain ⟨oi, hoi, hpi, hli⟩ := hSt _ _ hst'
      have ht₂ : TI h₂ := ht.upd hk₂' hoi hpi
      refine wpAny_assign_Name (wpAny_storeName_local (env := compEnvC scope cl C env) (lookup_relabel_local hx) (hn'.extBut hk₂' (Ne.symm hIC)) (fun h₃ hn₃ hs₃ => ?_) (by simp [compEnvC, relabel, hkind]))
      dsimp only at hn₃ hs₃ ⊢
      refine wpAny_tests_nil ?_
      rw [if_pos rfl]
      have hs₃' : Heap.ExtBut C h₂ h₃ := hs₃.extBut
      obtain ⟨oC, esC, epC, hoC, hdC, rC⟩ := hn'.extBut hk₂' (Ne.symm hIC)
      have hCp : Plain oC := .inl fun _ e => by rw [hdC] at e; cases e
      have ht₃ : TI h₃ := ht₂.upd hs₃' hoC hCp
      have hst₃ : Z (i + 1) h₃ := W.frame _ _ _ hst₂ fun b hb o e => hs₃' b o (below b (hfp b hb).1).1 e
      have hk₃ : KI I hb h₃ := fun b o hb hbI e => hs₃' b o (below b (hDe ▸ Heap.lt_size e)).1 (hk₂' b o hbI (hk b o hb hbI e))
      have hl₃ : h₃.IsList D ys.toArray := (hl'.extBut hk₂' (Ne.symm hID)).extBut hs₃' hDC
      have lk₁ : Lk (hideAll h' [D]) (hideAll h₃ [D]) := fun b o hc e => by
        have e0 := of_hideAll _ e
        have hbD : b ≠ D := by rintro rfl; rw [hideAll_none _ (List.mem_singleton_self _)] at e; cases e
        have hbI : b ≠ I := by rintro rfl; rw [hoi] at e0; cases e0; exact hli hc
        have e1 := hk₂' b o hbI e0
        have hbC : b ≠ C := by
          rintro rfl
          rw [hoC] at e1; cases e1
          obtain ⟨_, _, _, q⟩ := hc
          rw [hdC] at q; cases q
        exact hideAll_get _ (hs₃' b o hbC e1) (by simpa using hbD)
      have hDo : ∃ o, h₃.get? D = some o ∧ o.cls = .type "list" := let ⟨o, e, c, _⟩ := hl₃; ⟨o, e, c⟩
      refine helt C D i v _ _ _ _ _ hlt hv hn₃ (by simp) hk₃ ht₃ hDn hDo hCn fun y h₄ tk₄ hk₄ ht₄ hFy => ?_
      have hl₄ : h₄.IsList D ys.toArray := (hk₄.lk ht₃).isList hl₃
      have hys : (List.toArray ys).size ≤ sizeLine := by
        rw [List.size_toArray]; omega
      refine wpAny_list_append (hsz := hys) hl₄ fun h₅ hl₅ hs₅ => ?_
      have hs₅' : Heap.ExtBut D h₄ h₅ := hs₅.extBut
      obtain ⟨oD, hoD, hcD, nD, hdD⟩ := hl₄
      have ht₅ : TI h₅ := ht₄.upd hs₅' hoD (.inl fun _ e => by rw [hdD] at e; cases e)
      have hn₅ := (ns_keep ht₃ hk₄ hn₃).sameBut hs₅ (Ne.symm hDC)
      refine ⟨n + 1 - (i + 1), by omega, h₅, tk₄, _, ys ++ [y], i + 1, rfl, ?_, ?_, hn₅, by simp [hlen], ?_, hlt, rfl, ?_, ht₅⟩
      · refine W.frame _ _ _ hst₃ fun b hb o e => hs₅' b o (below b (hfp b hb).1).2 (hk₄ b o (hfp b hb).2 e)
      · simpa using hl₅
      · have lk₂ : Lk (hideAll h₃ [D]) (hideAll h₅ [D]) := fun b o hc e => by
          have hbD : b ≠ D := by rintro rfl; rw [hideAll_none _ (List.mem_singleton_self _)] at e; cases e
          exact hideAll_get _ (hs₅' b o hbD (hk₄.lk ht₃ b o hc (of_hideAll _ e))) (by simpa using hbD)
        have lk₃ : Lk (hideAll h₄ [D]) (hideAll h₅ [D]) := fun b o hc e => by
          have hbD : b ≠ D := by rintro rfl; rw [hideAll_none _ (List.mem_singleton_self _)] at e; cases e
          exact hideAll_get _ (hs₅' b o hbD (of_hideAll _ e)) (by simpa using hbD)
        intro j u e
        rcases Nat.lt_trichotomy j i with hj | hj | hj
        · rw [List.getElem?_append_left (by omega)] at e
          exact mono _ _ _ _ (lk₁.trans lk₂) (hF j u e)
        · subst hj
          rw [List.getElem?_append_right (by omega), hlen] at e
          simp at e; subst e
          exact mono _ _ _ _ lk₃ hFy
        · rw [List.getElem?_eq_none (by simp; omega)] at e; cases e
      · exact fun b o hb hbI e => hs₅' b o (below b (hDe ▸ Heap.lt_size e)).2 (hk₄ b o hb (hk₃ b o hb hbI e))
    · have hin : i = n := by omega
      subst hin
      refine W.done _ _ _ hst' fun h₂ tk₂ hk₂ => ?_
      have hk₂ : ∀ b o, b ∉ [I] → h'.get? b = some o → h₂.get? b = some o := hk₂
      have hk₂' : Heap.ExtBut I h' h₂ := fun b o hb e => hk₂ b o (fun m => hb (by simpa using m)) e
      obtain ⟨oi, hoi, hpi, hli⟩ := hSt _ _ hst'
      have ht₂ : TI h₂ := ht.upd hk₂' hoi hpi
      refine hRR D C h₂ tk₂ m' ys hDn hCn hDC (hn'.extBut hk₂' (Ne.symm hIC)) (hl'.extBut hk₂' (Ne.symm hID)) hlen (fun j y e => ?_) (fun b o hb hbI e => hk₂' b o hbI (hk b o hb hbI e)) ht₂
      refine mono _ _ _ _ (fun b o hc e => ?_) (hF j y e)
      have e0 := of_hideAll _ e
      exact hk₂' b o (by rintro rfl; rw [hoi] at e0; cases e0; exact hli hc) e0
  exact codeAny_compStart_list (loop _ rfl) (W.self 0 _ _ _ hst₁ (loop _ rfl))
end
end Mine
end R10

section R11
open PySem PySem.W PyProof.Rows PySem.Calls
set_option maxRecDepth 100000
set_option maxHeartbeats 4000000
namespace Mine

theorem Fm.side {g h h' : Heap} {own : List (Addr × Pr)} {C : Addr} {o : Obj} (F : Fm g own h) (k : Heap.ExtBut C h h') (hC : g.get? C = none) (hown : ∀ p ∈ own, p.1 ≠ C) (ho : h.get? C = some o) (hp : Plain o) : Fm g own h' :=
  ⟨fun b ob hb e => k b ob (by rintro rfl; rw [hC] at e; cases e) (F.kp b ob hb e), F.ti.upd k ho hp, fun p hp' => let ⟨o', e, r⟩ := F.get p hp'; ⟨o', k _ _ (hown p hp') e, r⟩, F.pl, F.new, F.off, F.nd⟩
theorem Fm.ne {g h : Heap} {own : List (Addr × Pr)} {C : Addr} (F : Fm g own h) (hC : h.get? C = none) : ∀ p ∈ own, p.1 ≠ C := fun p hp q => by
  obtain ⟨o, e, _⟩ := F.get p hp
  rw [q, hC] at e; cases e

/-- what a loop goes over -/
inductive Src (h : Heap) : Value → Nat → (Nat → Value → Prop) → Prop
  | list {a : Addr} {vs : List Value} : h.IsList a vs.toArray → Src h (.ref a) vs.length fun i v => vs[i]? = some v
  | range {r : Addr} {a b : Int} {t u x : Tok} : IsRange h r a b 1 t u x → -(2 ^ 62) ≤ a → a < 2 ^ 62 → -(2 ^ 62) ≤ b → b < 2 ^ 62 → Src h (.ref r) (b - a).toNat fun i v => ∃ t, v = .int (a + i * 1) t

section
variable {prog : Program} {w : World} {A : Around} {E : Value → Shared → Prop} {s : Shared} {h : Heap} {tk : Nat} {env : Env}

theorem src_iter {v : Value} {n : Nat} {P : Nat → Value → Prop} {Q : Value → Shared → Prop} (hh : A.handled = none) (T : TI h) (S : Src h v n P)
    (hq : ∀ I h' fp Z, h.StaysIn h' → h.get? I = none → I < h'.objs.size → I ∉ tabs → TI h' → Walks prog w A I fp [I] n P Z → (∀ i h, Z i h → ∃ o, h.get? I = some o ∧ Plain o ∧ ¬ isL o) → Z 0 h' →
      (∀ b ∈ fp, b < h'.objs.size ∧ b ∉ tabs) → Q (.ref I) (St s h' tk)) : wpAny (model prog w) A (pyIter v) Q E (St s h tk) := by
  have hn : h.get? h.objs.size = none := get_none (Nat.le_refl _)
  have ht := T.new hn
  cases S with
  | @list a vs hl =>
    obtain ⟨ol, hol, hcl, rl⟩ := id hl
    have hlt := Heap.lt_size hol
    refine wpAny_pyIter_list hl (hq _ _ [h.objs.size, a] _ (stays_push _ _) hn (by rw [Heap.size_push]; exact Nat.lt_succ_self _) ht (T.stays (stays_push _ _)) (show Walks prog w A h.objs.size [h.objs.size, a] [h.objs.size] vs.length _ _ from by simpa using Walks.list hh h.objs.size a (Nat.ne_of_lt hlt) vs.toArray) ?_ ?_ ?_)
    · rintro i h₀ ⟨⟨o, e, c, d⟩, _⟩
      refine ⟨o, e, .inr ⟨by rw [c]; nofun, by rw [c]; exact fun q => absurd (Value.type.inj q) (by decide), fun fs q t e1 e2 => ?_⟩, fun ⟨c', _⟩ => by rw [c] at c'; exact c'.elim (fun q => absurd (Value.type.inj q) (by decide)) fun q => absurd (Value.type.inj q) (by decide)⟩
      rw [d] at e1; cases e1; simp at e2
    · exact ⟨⟨_, Heap.get?_push_size _ rfl, rfl, rfl⟩, ol, Heap.get?_push_of_some _ hol, hcl, rl⟩
    · intro b hb
      rcases List.mem_cons.mp hb with rfl | hb
      · exact ⟨by rw [Heap.size_push]; exact Nat.lt_succ_self _, ht⟩
      · rw [List.mem_singleton.mp hb]; exact ⟨by rw [Heap.size_push]; exact Nat.lt_succ_of_lt hlt, T.off hol (by rw [hcl]; nofun)⟩
  | @range r a b t u x hr ha ha' hb hb' =>
    have hsz : Builtin.Range.rangeSize a b 1 = ((b - a).toNat : Int) := by rw [rangeSize_one]; split <;> omega
    refine wpAny_pyIter_range hr (small_one ha ha' hb hb') (hq _ _ [h.objs.size] _ (stays_push _ _) hn (by rw [Heap.size_push]; exact Nat.lt_succ_self _) ht (T.stays (stays_push _ _)) (Walks.range hh h.objs.size a 1 (b - a).toNat) ?_ ?_ ?_)
    · intro i h₀ e
      refine ⟨_, e, .inr ⟨nofun, fun q => absurd (Value.type.inj q) (by decide), fun fs q t e1 e2 => ?_⟩, fun ⟨c', _⟩ => c'.elim (fun q => absurd (Value.type.inj q) (by decide)) fun q => absurd (Value.type.inj q) (by decide)⟩
      cases e1; simp [rawInt] at e2
    · show (Heap.push _ _).get? _ = some _
      have e1 : a + ((0 : Nat) : Int) * 1 = a := by simp
      have e2 : (((b - a).toNat : Nat) : Int) - ((0 : Nat) : Int) = Builtin.Range.rangeSize a b 1 := by rw [hsz]; simp
      rw [e1, e2]
      exact Heap.get?_push_size _ rfl
    · intro b hb
      rw [List.mem_singleton.mp hb]
      exact ⟨by rw [Heap.size_push]; exact Nat.lt_succ_self _, ht⟩

/-- what an element is to do -/
def EltOk (prog : Program) (w : World) (A : Around) (env : Env) (scope : Scope) (cl : List (Str × Addr)) (x : Str) (elt : Expr) (s : Shared) (h₁ : Heap) (n : Nat) (P : Nat → Value → Prop) (F : Nat → Heap → Value → Prop) : Prop :=
  ∀ C D i v h₃ tk₃ m₃ E' (Q' : Value → Shared → Prop), i < n → P i v → h₃.Ns C m₃ → m₃ x = some v → Kp h₁ h₃ → TI h₃ → h₁.get? D = none → (∃ o, h₃.get? D = some o ∧ o.cls = .type "list") → h₁.get? C = none →
      (∀ y h' tk', Kp h₃ h' → TI h' → F i (hideAll h' [D]) y → Q' y (St s h' tk')) → wpAny (model prog w) A (eval elt (compEnvC scope cl C env)) Q' E' (St s h₃ tk₃)

theorem comp_ {elt iter : Expr} {x : Str} {px : Pos} {scope : Scope} {cl : List (Str × Addr)} {pos : Pos} {Q : Value → Shared → Prop} (F : Nat → Heap → Value → Prop) (mono : ∀ j h h' y, Lk h h' → F j h y → F j h' y)
    (hh : A.handled = none)
    (hq : wpAny (model prog w) A (eval iter env) (fun v s₁ => ∃ n P h₁ tk₁, s₁ = St s h₁ tk₁ ∧ TI h₁ ∧ Src h₁ v n P ∧ n ≤ sizeLine ∧ EltOk prog w A env scope cl x elt s h₁ n P F ∧
      ∀ D h' tk' (ys : List Value), h₁.get? D = none → Kp h₁ h' → TI h' → h'.IsList D ys.toArray → ys.length = n → (∀ (j : Nat) y, ys[j]? = some y → F j h' y) → Q (.ref D) (St s h' tk')) E (St s h tk))
    (hclos : closureFor scope env = pure cl := by rfl) (hcell : ∀ y ∈ scope.names, y.2 ≠ .cell := by decide) (hkind : scope.kind = .function := by rfl)
    (hnames : ∀ y ∈ scope.names, y.2 = .local → scope.names.lookup y.1 = some .local := by decide) (hx : scope.names.lookup x = some .local := by rfl)
    (hs : ∀ x, foldedSetIterable iter env x = pure x := by intro _; rfl) :
    wpAny (model prog w) A (eval (.ListComp elt [⟨.Name x px, iter, [], 0⟩] scope pos) env) Q E (St s h tk) := by
  rw [eval_ListComp]
  refine wpAny_comprehension_free (use := none) rfl hs hclos hkind hnames (wpAny_mono hq (fun v s₁ h₁ => ?_) fun _ _ e => e)
  obtain ⟨n, P, h₁, tk₁, rfl, T, S, hsz, helt, hQ⟩ := h₁
  refine src_iter hh T S fun I h' fp Z k hIn hIlt hIt T' W hSt hst hfp => ?_
  refine comp_core (RR := fun acc C => compPost (model prog w) A E none Q acc C) W hsz F mono T' hIt hIlt hSt hst hfp hcell hkind hx (fun C D i v h₃ tk₃ m₃ E' Q' hi hv hn hm hk ht hD hDo hC hq => ?_) ?_
  · refine helt C D i v h₃ tk₃ m₃ E' Q' hi hv hn hm (fun b o hb e => hk b o hb (by rintro rfl; rw [hIn] at e; cases e) (k b o e)) ht ?_ hDo ?_ hq
    · exact (Kp.of k).none (T'.new hD) hD
    · exact (Kp.of k).none (T'.new hC) hC
  · intro D C h₂ tk m' ys hD hC hDC hn hl hlen hF hk ht
    refine ⟨m', hn, fun h₃ hs₃ => ?_⟩
    obtain ⟨oC, es, ep, hoC, hdC, rC⟩ := hn
    have hpC : Plain oC := .inl fun _ e => by rw [hdC] at e; cases e
    have hC₁ := (Kp.of k).none (T'.new hC) hC
    refine hQ D h₃ tk ys ((Kp.of k).none (T'.new hD) hD) (fun b o hb e => ?_) (ht.upd hs₃.extBut hoC hpC) (hl.extBut hs₃.extBut hDC) hlen (fun j y e => mono _ _ _ _ (fun b o hc e => ?_) (hF j y e))
    · exact hs₃.extBut b o (by rintro rfl; rw [hC₁] at e; cases e) (hk b o hb (by rintro rfl; rw [hIn] at e; cases e) (k b o e))
    · exact hs₃.extBut b o (by rintro rfl; rw [hoC] at e; cases e; obtain ⟨_, _, _, q⟩ := hc; rw [hdC] at q; cases q) e

/-- a comprehension that is stored under a local name -/
theorem assign_comp {elt iter : Expr} {x y : Str} {px py : Pos} {scope : Scope} {cl : List (Str × Addr)} {pos spos : Pos} {Q : Flow → Shared → Prop} (F : Nat → Heap → Value → Prop) (mono : ∀ j h h' y, Lk h h' → F j h y → F j h' y)
    (hh : A.handled = none) {g : Heap}
    (hq : wpAny (model prog w) A (eval iter env) (fun v s₁ => ∃ n P own m j h₁ tk₁, s₁ = St s h₁ tk₁ ∧ Src h₁ v n P ∧ n ≤ sizeLine ∧ EltOk prog w A env scope cl x elt s h₁ n P F ∧ Fm g own h₁ ∧ own[j]? = some (env.locals, pNs m) ∧
      ∀ D h' tk' (ys : List Value), h₁.get? D = none → Lk h₁ h' → Fm g (own.set j (env.locals, pNs fun z => if z = y then some (.ref D) else m z)) h' → h'.IsList D ys.toArray → ys.length = n → (∀ (j : Nat) y, ys[j]? = some y → F j h' y) → Q .next (St s h' tk')) E (St s h tk))
    (hsw : swapsWith (.ListComp elt [⟨.Name x px, iter, [], 0⟩] scope pos) (some (.Name y py)) spos.line env = pure true := by rfl)
    (hclos : closureFor scope env = pure cl := by rfl) (hcell : ∀ y ∈ scope.names, y.2 ≠ .cell := by decide) (hkind : scope.kind = .function := by rfl)
    (hnames : ∀ y ∈ scope.names, y.2 = .local → scope.names.lookup y.1 = some .local := by decide) (hx : scope.names.lookup x = some .local := by rfl)
    (hy : env.kindOf y = some .local := by rfl) (hp : (env.scope.kind == .class || (env.scope.kind == .module && env.locals != env.globals)) = false := by rfl)
    (hs : ∀ x, foldedSetIterable iter env x = pure x := by intro _; rfl) :
    wpAny (model prog w) A (exec (.Assign [.Name y py] (.ListComp elt [⟨.Name x px, iter, [], 0⟩] scope pos) spos) env) Q E (St s h tk) := by
  rw [exec_Assign_Name_used _ _ _ _ hsw]
  refine wpAny_bind (wpAny_standAt (wpAny_bind ?_))
  show wpAny _ A (do let _ ← comprehension (.ListComp elt [⟨.Name x px, iter, [], 0⟩] scope pos) scope env _ (newList []) false (eval iter env) (some (assign (.Name y py) env))) _ _ (St s h tk)
  refine wpAny_bind (wpAny_mono (wpAny_comprehension_free (use := some (assign (.Name y py) env)) (Q := fun _ s' => Q .next s') rfl hs hclos hkind hnames
    (wpAny_mono hq (fun v s₁ h₁ => ?_) fun _ _ e => e)) (fun _ s' hq => wpAny_pure (wpAny_pure hq)) fun _ _ e => e)
  obtain ⟨n, P, own, m, j, h₁, tk₁, rfl, S, hsz, helt, Fm₁, hj, hQ⟩ := h₁
  have T := Fm₁.ti
  refine src_iter hh T S fun I h' fp Z k hIn hIlt hIt T' W hSt hst hfp => ?_
  refine comp_core (RR := fun acc C => compPost (model prog w) A E (some (assign (.Name y py) env)) (fun _ s' => Q .next s') acc C) W hsz F mono T' hIt hIlt hSt hst hfp hcell hkind hx (fun C D i v h₃ tk₃ m₃ E' Q' hi hv hn hm hk ht hD hDo hC hq => ?_) ?_
  · refine helt C D i v h₃ tk₃ m₃ E' Q' hi hv hn hm (fun b o hb e => hk b o hb (by rintro rfl; rw [hIn] at e; cases e) (k b o e)) ht ?_ hDo ?_ hq
    · exact (Kp.of k).none (T'.new hD) hD
    · exact (Kp.of k).none (T'.new hC) hC
  · intro D C h₂ tk m' ys hD hC hDC hn hl hlen hF hk ht
    have hC₁ := (Kp.of k).none (T'.new hC) hC
    have hD₁ := (Kp.of k).none (T'.new hD) hD
    have k₂ : Kp h₁ h₂ := fun b o hb e => hk b o hb (by rintro rfl; rw [hIn] at e; cases e) (k b o e)
    have Fm₂ := Fm₁.call k₂ ht
    show wpAny _ A (assign (.Name y py) env (.ref D)) _ _ _
    refine wpAny_assign_Name (st_local j Fm₂ hj (fun h₃ tk₃ Fm₃ hs₃ => ?_) hy hp)
    have hLC : env.locals ≠ C := Fm₁.ne hC₁ _ (List.mem_of_getElem? hj)
    have hLD : env.locals ≠ D := Fm₁.ne hD₁ _ (List.mem_of_getElem? hj)
    obtain ⟨oL, esL, epL, hoL, hdL, rL⟩ := Fm₂.ns j hj
    have hn₃ := hn.sameBut hs₃ (Ne.symm hLC)
    refine ⟨m', hn₃, fun h₄ hs₄ => ?_⟩
    obtain ⟨oC, es, ep, hoC, hdC, rC⟩ := hn₃
    have hpC : Plain oC := .inl fun _ e => by rw [hdC] at e; cases e
    have lk34 : Lk h₃ h₄ := fun b o hc e => hs₄.extBut b o (by rintro rfl; rw [hoC] at e; cases e; obtain ⟨_, _, _, q⟩ := hc; rw [hdC] at q; cases q) e
    have lk23 : Lk h₂ h₃ := fun b o hc e => hs₃.extBut b o (by rintro rfl; rw [hoL] at e; cases e; obtain ⟨_, _, _, q⟩ := hc; rw [hdL] at q; cases q) e
    have Fm₄ := Fm₃.side hs₄.extBut (Fm₁.kp.none (T.new hC₁) hC₁) (fun p hp => ?_) hoC hpC
    · exact hQ D h₄ _ ys hD₁ ((k₂.lk T).trans (lk23.trans lk34)) Fm₄ ((lk23.trans lk34).isList hl) hlen fun j y e => mono _ _ _ _ (lk23.trans lk34) (hF j y e)
    · rcases List.mem_or_eq_of_mem_set hp with hp | hp
      · exact Fm₁.ne hC₁ p hp
      · rw [hp]; exact hLC
end
end Mine
end R11

section R12
open PySem PySem.W PyProof.Rows PySem.Calls
set_option maxRecDepth 100000
set_option maxHeartbeats 4000000
namespace Mine

/-- a range's iterator -/
def pRI (x left : Int) : Pr := fun o => o = { cls := .type "range_iterator", dict := none, data := .fields #[rawInt x, rawInt left, rawInt 1], slots := #[] }
theorem pRI_plain {x left : Int} (o : Obj) (h : pRI x left o) : Plain o := by
  cases h
  refine .inr ⟨nofun, fun q => absurd (Value.type.inj q) (by decide), fun fs q t e1 e2 => ?_⟩
  cases e1; simp [rawInt] at e2

section
variable {prog : Program} {w : World} {A : Around} {E : Value → Shared → Prop} {s : Shared} {h : Heap} {tk : Nat} {env : Env}

/-- what a turn of a loop is to come to -/
def Turn (g : Heap) (I : Addr) (p : Pr) (J : List (Addr × Pr) → Heap → Prop) (s : Shared) (Q : Flow → Shared → Prop) (f : Flow) (s₃ : Shared) : Prop :=
  match f with
  | .next | .cont => ∃ own₃ h₃ tk₃, s₃ = St s h₃ tk₃ ∧ Fm g ((I, p) :: own₃) h₃ ∧ J own₃ h₃
  | .brk => Q .next s₃
  | .ret v => Q (.ret v) s₃

theorem for_range {x : Str} {px pos : Pos} {iter : Expr} {body : List Stmt} {Q : Flow → Shared → Prop} (hh : A.handled = none) {g : Heap} (J : Nat → List (Addr × Pr) → Heap → Prop) (mono : ∀ i own h h', Lk h h' → J i own h → J i own h')
    (hq : wpAny (model prog w) A (eval iter env) (fun v s₁ => ∃ r a b t u z own h₁ tk₁, v = .ref r ∧ s₁ = St s h₁ tk₁ ∧ IsRange h₁ r a b 1 t u z ∧ (-(2 ^ 62) ≤ a ∧ a < 2 ^ 62 ∧ -(2 ^ 62) ≤ b ∧ b < 2 ^ 62) ∧ Fm g own h₁ ∧ J 0 own h₁ ∧
      (∀ (I : Addr) (p : Pr) (i : Nat) own' h' tk tk' E', i < (b - a).toNat → J i own' h' → Fm g ((I, p) :: own') h' →
        wpAny (model prog w) A (storeName env x (.int (a + i) tk')) (fun _ s₂ => wpAny (model prog w) A (execs body env) (Turn g I p (J (i + 1)) s Q) E' s₂) E' (St s h' tk)) ∧
      ∀ own' h' tk, J (b - a).toNat own' h' → Fm g own' h' → Q .next (St s h' tk)) E (St s h tk))
    (hs : ∀ x, foldedSetIterable iter env x = pure x := by intro _; rfl) : wpAny (model prog w) A (exec (.For (.Name x px) iter body [] pos) env) Q E (St s h tk) := by
  refine wpAny_For (wpAny_mono hq (fun v s₁ h₁ => ?_) fun _ _ e => e) hs
  obtain ⟨r, a, b, t, u, z, own, h₁, tk₁, rfl, rfl, hr, ⟨ha, ha', hb, hb'⟩, F, hJ, step, done⟩ := h₁
  have hsz : Builtin.Range.rangeSize a b 1 = ((b - a).toNat : Int) := by rw [rangeSize_one]; split <;> omega
  refine wpAny_pyIter_range hr (small_one ha ha' hb hb') ?_
  have F₀ : Fm g ((h₁.objs.size, pRI a (Builtin.Range.rangeSize a b 1)) :: own) (h₁.push { cls := .type "range_iterator", data := .fields #[rawInt a, rawInt (Builtin.Range.rangeSize a b 1), rawInt 1] }) :=
    F.own1 (stays_push _ _) (get_none (Nat.le_refl _)) ⟨_, Heap.get?_push_size _ rfl, rfl⟩ pRI_plain
  have F₁ : Fm g ((h₁.objs.size, pRI (a + ((0 : Nat) : Int)) (((b - a).toNat : Int) - ((0 : Nat) : Int))) :: own) (h₁.push { cls := .type "range_iterator", data := .fields #[rawInt a, rawInt (Builtin.Range.rangeSize a b 1), rawInt 1] }) := by
    rw [show a + ((0 : Nat) : Int) = a by simp, show (((b - a).toNat : Int) - ((0 : Nat) : Int)) = Builtin.Range.rangeSize a b 1 by rw [hsz]; simp]
    exact F₀
  show codeAny _ _ (.forLoop _ (.ref h₁.objs.size) _ _ _) _ (St s (h₁.push { cls := .type "range_iterator", data := .fields #[rawInt a, rawInt (Builtin.Range.rangeSize a b 1), rawInt 1] }) tk₁)
  generalize h₁.objs.size = I at *
  refine codeAny_forLoop_any (fun k s' => ∃ i own' h' tk, s' = St s h' tk ∧ Fm g ((I, pRI (a + (i : Nat)) (((b - a).toNat : Int) - (i : Nat))) :: own') h' ∧ J i own' h' ∧ i ≤ (b - a).toNat ∧ k = (b - a).toNat + 1 - i) ?_ ((b - a).toNat + 1)
    ⟨0, own, _, _, rfl, F₁, mono _ _ _ _ (fun _ _ _ e => Heap.get?_push_of_some _ e) hJ, Nat.zero_le _, rfl⟩
  rintro k s' ⟨i, own', h', tk, rfl, F', hJ', hi, rfl⟩
  obtain ⟨o, ho, hp⟩ := F'.at (i := 0) rfl
  have hit : IsRangeIter h' I (a + (i : Nat)) (((b - a).toNat : Int) - (i : Nat)) 1 := by cases hp; exact ho
  by_cases hlt : i < (b - a).toNat
  · refine wpAny_pyNext_range_item hit (by omega) fun h₂ hit₂ hs₂ => ?_
    have F₂ : Fm g ((I, pRI (a + (i : Nat) + 1) (((b - a).toNat : Int) - (i : Nat) - 1)) :: own') h₂ := F'.set 0 rfl hs₂.extBut ⟨_, hit₂, rfl⟩ pRI_plain
    refine wpAny_pure ?_
    refine wpAny_assign_Name ?_
    have lk : Lk h' h₂ := fun b o hc e => hs₂.extBut b o (by rintro rfl; rw [hit] at e; cases e; exact hc.1.elim (fun q => absurd (Value.type.inj q) (by decide)) fun q => absurd (Value.type.inj q) (by decide)) e
    refine wpAny_mono (step I _ i own' h₂ _ _ _ hlt (mono _ _ _ _ lk hJ') F₂) (fun _ s₂ h₂ => wpAny_mono h₂ (fun f s₃ h₃ => ?_) fun _ _ e => e) fun _ _ e => e
    have fin : (∃ own₃ h₃ tk₃, s₃ = St s h₃ tk₃ ∧ Fm g ((I, pRI (a + (i : Nat) + 1) (((b - a).toNat : Int) - (i : Nat) - 1)) :: own₃) h₃ ∧ J (i + 1) own₃ h₃) →
        ∃ m, m < (b - a).toNat + 1 - i ∧ ∃ i own' h' tk, s₃ = St s h' tk ∧ Fm g ((I, pRI (a + (i : Nat)) (((b - a).toNat : Int) - (i : Nat))) :: own') h' ∧ J i own' h' ∧ i ≤ (b - a).toNat ∧ m = (b - a).toNat + 1 - i := by
      rintro ⟨own₃, h₄, tk₃, rfl, F₃, hJ₃⟩
      refine ⟨(b - a).toNat + 1 - (i + 1), by omega, i + 1, own₃, h₄, tk₃, rfl, ?_, hJ₃, hlt, rfl⟩
      have e1 : a + ((i + 1 : Nat) : Int) = a + (i : Int) + 1 := by omega
      have e2 : (((b - a).toNat : Nat) : Int) - ((i + 1 : Nat) : Int) = ((b - a).toNat : Int) - (i : Int) - 1 := by omega
      rw [e1, e2]; exact F₃
    cases f with
    | next => exact fin h₃
    | cont => exact fin h₃
    | brk => exact h₃
    | ret v => exact h₃
  · have hin : i = (b - a).toNat := by omega
    refine wpAny_pyNext_range_end hh hit (by omega) fun h₂ he₂ => wpAny_execs_nil ?_
    have F₂ : Fm g own' h₂ := by
      refine F'.drop.side he₂ (F'.new _ (.head _)) (fun p hp q => ?_) ho (pRI_plain o hp)
      exact (List.nodup_cons.mp F'.nd).1 (List.mem_map.mpr ⟨p, hp, q⟩)
    have lk : Lk h' h₂ := fun b o hc e => he₂ b o (by rintro rfl; rw [hit] at e; cases e; exact hc.1.elim (fun q => absurd (Value.type.inj q) (by decide)) fun q => absurd (Value.type.inj q) (by decide)) e
    exact done own' h₂ _ (mono _ _ _ _ lk (hin ▸ hJ')) F₂

/-- range of one number, of two -/
theorem range1 {K : Frag} {mg mb : Str → Option Value} {e : Expr} {np pos : Pos} {Q : Value → Shared → Prop} (W : Wd K mg mb h) (en : nsIn K mainGlobals (Str.ofString "range") = some none)
    (hq : wpAny (model prog w) A (eval e env) (fun v s₁ => ∃ n t h₁ tk₁, v = .int n t ∧ s₁ = St s h₁ tk₁ ∧ ∀ r h' tk' t' u z, h₁.StaysIn h' → IsRange h' r 0 n 1 t' u z → Q (.ref r) (St s h' tk')) E (St s h tk))
    (hg : env.globals = mainGlobals := by rfl) (hb : env.builtins = builtinsNs := by rfl) (hk : env.scope.kind = .function := by rfl) (hl : env.kindOf (Str.ofString "range") = some .globalImplicit := by rfl)
    (he : starEach [e] env = [(false, eval e env)] := by rfl) : wpAny (model prog w) A (eval (.Call (.Name (Str.ofString "range") np) [e] [] pos) env) Q E (St s h tk) := by
  refine wpAny_Call_ofName (nm_built W en boot_range (PySem.Pv.callWith_type1 (sp_cons (wpAny_mono hq (fun v s₁ h₁ => ?_) fun _ _ e => e) he) he) (by decide) hg hb hk hl)
  obtain ⟨n, t, h₀, tk₀, rfl, rfl, h₁⟩ := h₁
  exact sp_nil (call_range_1 (h₁ _ _ _ _ _ _ (stays_push _ _) (IsRange.new ..)))
theorem range2 {K : Frag} {mg mb : Str → Option Value} {e e2 : Expr} {np pos : Pos} {Q : Value → Shared → Prop} (W : Wd K mg mb h) (en : nsIn K mainGlobals (Str.ofString "range") = some none)
    (hq : wpAny (model prog w) A (eval e env) (fun v s₁ => wpAny (model prog w) A (eval e2 env) (fun v₂ s₂ => ∃ a t n t₂ h₁ tk₁, v = .int a t ∧ v₂ = .int n t₂ ∧ s₂ = St s h₁ tk₁ ∧ ∀ r h' tk' t' u z, h₁.StaysIn h' → IsRange h' r a n 1 t' u z → Q (.ref r) (St s h' tk')) E s₁) E (St s h tk))
    (hg : env.globals = mainGlobals := by rfl) (hb : env.builtins = builtinsNs := by rfl) (hk : env.scope.kind = .function := by rfl) (hl : env.kindOf (Str.ofString "range") = some .globalImplicit := by rfl)
    (he : starEach [e, e2] env = (false, eval e env) :: starEach [e2] env := by rfl) (he2 : starEach [e2] env = [(false, eval e2 env)] := by rfl) (hpl : (backTo pos (starEach [e2] env)).any (·.1) = false := by rfl) :
    wpAny (model prog w) A (eval (.Call (.Name (Str.ofString "range") np) [e, e2] [] pos) env) Q E (St s h tk) := by
  refine wpAny_Call_ofName (nm_built W en boot_range (PySem.Pv.callWith_type1 (sp_cons (wpAny_mono hq (fun v s₁ h₁ => sp_cons (wpAny_mono h₁ (fun v₂ s₂ h₂ => ?_) fun _ _ e => e) he2) fun _ _ e => e) he) he hpl) (by decide) hg hb hk hl)
  obtain ⟨a, t, n, t₂, h₀, tk₀, rfl, rfl, rfl, h₂⟩ := h₂
  exact sp_nil (call_range_2 (h₂ _ _ _ _ _ _ (stays_push _ _) (IsRange.new ..)))
end
end Mine
end R12

section R13
open PySem PySem.W PyProof.Rows PySem.Calls
set_option maxRecDepth 100000
set_option maxHeartbeats 4000000
namespace Mine

section
variable {prog : Program} {w : World} {A : Around} {s : Shared} {h : Heap} {tk : Nat} {mg mb : Str → Option Value} {E : Value → Shared → Prop} {Q : Value → Shared → Prop} {env : Env}

theorem item_l {value slice : Expr} {l : Addr} {vs : List Value} {k : Int} {u : Tok} {x : Value} (hl : h.IsList l vs.toArray) (h0 : 0 ≤ k) (hfit : k < 2 ^ 62) (hx : vs[k.toNat]? = some x) (hq : Q x (St s h tk))
    (hs : subscripted slice false (.ref l) (.int k u) = operate [.ref l, .int k u] (getItem (.ref l) (.int k u)) := by with_unfolding_all rfl) : wpAny (model prog w) A (subscriptTail value slice (.ref l) (.int k u)) Q E (St s h tk) :=
  tail_any (hl.typeIs (s := St s h tk)) slot_list_getitem.lookup (wpAny_getItem_list (s := St s h tk) hl h0 (by omega) (by simpa using hx) hq) hs
theorem item_neg {value slice : Expr} {l : Addr} {vs : List Value} {k : Int} {u : Tok} {x : Value} (hl : h.IsList l vs.toArray) (h0 : k < 0) (h1 : -(vs.length : Int) ≤ k) (hfit : -(2 ^ 62) ≤ k) (hx : vs[(k + vs.length).toNat]? = some x) (hq : Q x (St s h tk))
    (hs : subscripted slice false (.ref l) (.int k u) = operate [.ref l, .int k u] (getItem (.ref l) (.int k u)) := by with_unfolding_all rfl) : wpAny (model prog w) A (subscriptTail value slice (.ref l) (.int k u)) Q E (St s h tk) :=
  tail_any (hl.typeIs (s := St s h tk)) slot_list_getitem.lookup (wpAny_getItem_list_neg (s := St s h tk) hl h0 (by simpa using h1) (by omega) (by simpa using hx) hq) hs
theorem isList_push (h : Heap) (vs : List Value) : (h.push { cls := .type "list", data := .seq vs.toArray }).IsList h.objs.size vs.toArray := ⟨_, Heap.get?_push_size _ rfl, rfl, _, rfl⟩
theorem lk_stays {h h' : Heap} (k : h.StaysIn h') : Lk h h' := fun _ _ _ e => k _ _ e
theorem cat_l {l b : Addr} {vs ws : List Value} (hl : h.IsList l vs.toArray) (hb : h.IsList b ws.toArray) (hsz : vs.length + ws.length ≤ 10000)
    (hq : ∀ a h', h.StaysIn h' → h.get? a = none → h'.IsList a (vs ++ ws).toArray → Q (.ref a) (St s h' tk)) : wpAny (model prog w) A (binaryOp .Add (.ref l) (.ref b)) Q E (St s h tk) := by
  obtain ⟨⟨c1, d1, x1, sl1⟩, g1, e1, n1, f1⟩ := id hl
  obtain ⟨⟨c2, d2, x2, sl2⟩, g2, e2, n2, f2⟩ := id hb
  dsimp only at e1 f1 e2 f2
  subst e1 f1 e2 f2
  refine concat_meets ⟨_, g1, rfl⟩ ⟨_, g2, rfl⟩ noFill_list_add seq_list_add PySem.F.slot_list_add PySem.F.entry_list_add (PySem.F.args_list_add_2 _ _) (list_addW l b vs.toArray ws.toArray n1 n2 d1 d2 sl1 sl2 (by rw [sizeLine_eq]; simp; omega)) ⟨g1, g2, ?_⟩
  rw [show vs.toArray ++ ws.toArray = (vs ++ ws).toArray by simp]
  exact hq _ _ (stays_push _ _) (get_none (Nat.le_refl _)) (isList_push _ _)
theorem r_list {elts : List Expr} {pos : Pos}
    (hq : wpAny (model prog w) A (spliced (backTo pos (starEach elts env))) (fun vs s₁ => ∃ h₁ tk₁, s₁ = St s h₁ tk₁ ∧ vs.length ≤ 10000 ∧ ∀ a h', h₁.StaysIn h' → h₁.get? a = none → h'.get? a = some { cls := .type "list", data := .seq vs.toArray } → Q (.ref a) (St s h' tk₁)) E (St s h tk)) :
    wpAny (model prog w) A (eval (.List elts pos) env) Q E (St s h tk) := by
  refine wpAny_List_spliced (wpAny_mono hq (fun vs s₁ h₁ => ?_) fun _ _ e => e)
  obtain ⟨h₁, tk₁, rfl, hl, hq⟩ := h₁
  exact ⟨by rw [sizeLine_eq]; omega, hq _ _ (stays_push _ _) (get_none (Nat.le_refl _)) (Heap.get?_push_size _ rfl)⟩
theorem r_tuple {elts : List Expr} {x1 : Nat} {pos : Pos}
    (hq : wpAny (model prog w) A (spliced (backTo pos (starEach elts env))) (fun vs s₁ => ∃ h₁ tk₁, s₁ = St s h₁ tk₁ ∧ vs.length ≤ 10000 ∧ ∀ a h', h₁.StaysIn h' → h₁.get? a = none → h'.get? a = some { cls := .type "tuple", data := .seq vs.toArray } → Q (.ref a) (St s h' tk₁)) E (St s h tk)) :
    wpAny (model prog w) A (eval (.Tuple elts x1 pos) env) Q E (St s h tk) := by
  refine wpAny_Tuple_spliced (wpAny_mono hq (fun vs s₁ h₁ => ?_) fun _ _ e => e)
  obtain ⟨h₁, tk₁, rfl, hl, hq⟩ := h₁
  exact ⟨by rw [sizeLine_eq]; omega, hq _ _ (stays_push _ _) (get_none (Nat.le_refl _)) (Heap.get?_push_size _ rfl)⟩
theorem isList_of {h : Heap} {a : Addr} {vs : List Value} (e : h.get? a = some { cls := .type "list", data := .seq vs.toArray }) : h.IsList a vs.toArray := ⟨_, e, rfl, _, rfl⟩
theorem strs_of {vs : List Value} {xs : List Str} (p : Paired VS vs xs) : StrsAre vs xs := by
  induction p with
  | nil => exact .nil
  | cons h _ ih => obtain ⟨t, rfl⟩ := h; exact .cons _ t ih
/-- texts joined -/
theorem s_join {D : Addr} {vs : List Value} {ys : List Str} {x : Str} {t : Tok} (hl : h.IsList D vs.toArray) (hi : Paired VS vs ys) (hok : (ys.map (·.length)).sum + ys.length * x.length ≤ 10000)
    (hq : ∀ t' tk', Q (.str (Txt.join x ys) t') (St s h tk')) : wpAny (model prog w) A (call (.builtin "str.join") [.str x t, .ref D]) Q E (St s h tk) :=
  join_list (s := St s h tk) hl (by simpa using strs_of hi) (by omega) fun t' k => hq t' k
end

def labs : List Str := [Str.ofString "a", Str.ofString "B", Str.ofString "local", Str.ofString "7"]
def labOf (n : Int) (p : Nat) : Str := labs.getD ((n.fdiv (4 ^ (p + 1))).fmod 4).toNat (Str.ofString "a")
def lbls (n : Int) : Nat → List Str
  | 0 => []
  | i + 1 => labOf n i :: lbls n i
def hostL (n : Int) : List Str := lbls n (1 + (n.fmod 4).toNat)
def hostF (n : Int) : Str := Txt.join "." (hostL n)
theorem lbls_length (n : Int) : ∀ i, (lbls n i).length = i
  | 0 => rfl
  | i + 1 => by rw [lbls, List.length_cons, lbls_length n i]
theorem labs_len : ∀ x ∈ labs, x.length ≤ 5 := by decide
theorem labOf_mem (n : Int) (p : Nat) : labOf n p ∈ labs := by
  unfold labOf
  have h0 := Int.fmod_nonneg_of_pos (n.fdiv (4 ^ (p + 1))) (show (0 : Int) < 4 by decide)
  have h1 := Int.fmod_lt_of_pos (n.fdiv (4 ^ (p + 1))) (show (0 : Int) < 4 by decide)
  generalize (n.fdiv (4 ^ (p + 1))).fmod 4 = d at h0 h1
  have : d = 0 ∨ d = 1 ∨ d = 2 ∨ d = 3 := by omega
  rcases this with rfl | rfl | rfl | rfl <;> decide
theorem lbls_mem (n : Int) : ∀ i, ∀ x ∈ lbls n i, x ∈ labs
  | 0, x, h => by cases h
  | i + 1, x, h => by
    rcases List.mem_cons.mp h with rfl | h
    · exact labOf_mem n i
    · exact lbls_mem n i x h
theorem sum_le (l : List Str) (h : ∀ x ∈ l, x.length ≤ 5) : (l.map (·.length)).sum ≤ 5 * l.length := by
  induction l with
  | nil => simp
  | cons a r ih => have := h a (.head _); have := ih fun x hx => h x (.tail _ hx); simp only [List.map_cons, List.sum_cons, List.length_cons]; omega

theorem lk_ns {h h' : Heap} {L : Addr} {m : Str → Option Value} (hn : h.Ns L m) (hs : Heap.SameBut L h h') : Lk h h' := fun b o hc e => hs.extBut b o (by
  rintro rfl
  obtain ⟨_, _, _, e', hd, _⟩ := hn
  rw [e] at e'; cases e'
  obtain ⟨_, _, _, q⟩ := hc
  rw [hd] at q; cases q) e
theorem pick4 (n : Int) (p : Nat) (a b c d : Tok) : ∃ x, [Value.str (Str.ofString "a") a, .str (Str.ofString "B") b, .str (Str.ofString "local") c, .str (Str.ofString "7") d][((n.fdiv (4 ^ (p + 1))).fmod 4).toNat]? = some x ∧ VS x (labOf n p) := by
  unfold labOf
  have h0 := Int.fmod_nonneg_of_pos (n.fdiv (4 ^ (p + 1))) (show (0 : Int) < 4 by decide)
  have h1 := Int.fmod_lt_of_pos (n.fdiv (4 ^ (p + 1))) (show (0 : Int) < 4 by decide)
  generalize (n.fdiv (4 ^ (p + 1))).fmod 4 = q at h0 h1
  have : q = 0 ∨ q = 1 ∨ q = 2 ∨ q = 3 := by omega
  rcases this with rfl | rfl | rfl | rfl <;> exact ⟨_, rfl, _, rfl⟩

section
variable {prog : Program} {w : World} {A : Around} {s : Shared} {h : Heap} {tk : Nat} {mg mb : Str → Option Value} {E : Value → Shared → Prop} {Q : Value → Shared → Prop} {env : Env}
theorem call_host {n : Int} {t : Tok} {k : Nat} (R : Rm A (k + 2)) (W : Wd (KK w) mg mb h) (T : TI h)
    (hq : ∀ t' h' tk', Kp h h' → TI h' → Q (.str (hostF n) t') (St s h' tk')) : wpAny (model prog w) A (call (.ref 98) [.int n t]) Q E (St s h tk) := by
  refine enter (binds := [(Str.ofString "number", .int n t)]) R W T (by rfl) (by rfl) (BindsTo.of_eq rfl) (locs rfl) (fun L h₁ tk₁ E' B R' => ?_) rfl rfl rfl (by decide)
  refine wpAny_execs_cons ?_
  refine wpAny_Assign_Name ?_
  refine r_list ?_
  refine sp_nil ?_
  refine ⟨_, _, rfl, Nat.zero_le _, fun a₀ h₂ k₂ n₂ g₂ => ?_⟩
  have B₂ := B.grow k₂
  refine st_local 0 B₂ rfl fun h₃ tk₃ B₃ hs₃ => ?_
  have hl₃ := (lk_ns (B₂.ns 0 rfl) hs₃).isList (isList_of g₂)
  have W₃ := W.keeps T B₃.kp
  have hm0 := Int.fmod_nonneg_of_pos n (show (0 : Int) < 4 by decide)
  have hm1 := Int.fmod_lt_of_pos n (show (0 : Int) < 4 by decide)
  refine wpAny_execs_cons (for_range R'.handled (g := h) (fun i own h => ∃ m v, own = [(L, pNs m)] ∧ m (Str.ofString "number") = some (.int n t) ∧ m (Str.ofString "labels") = some v ∧ SL h v (lbls n i))
    (fun i own h h' lk ⟨m, v, a, b, c, d⟩ => ⟨m, v, a, b, c, d.mono lk⟩) ?_)
  refine range1 W₃ (by rfl) ?_
  refine wpAny_BinOp ?_
  refine c_int fun _ _ => ?_
  refine wpAny_BinOp ?_
  refine nm_local (B₃.ns 0 rfl) ?_
  refine c_int fun _ _ => ?_
  refine i_mod (by decide) fun _ _ => ?_
  refine i_add fun _ _ => ?_
  refine ⟨_, _, _, _, rfl, rfl, fun r h₄ tk₄ t₄ u₄ z₄ k₄ hr => ?_⟩
  refine ⟨r, _, _, _, _, _, _, _, _, rfl, rfl, hr, ⟨by decide, by decide, by omega, by omega⟩, B₃.grow k₄, ⟨_, _, rfl, rfl, rfl, _, _, rfl, (lk_stays k₄).isList hl₃, .nil⟩, fun I p i own' h' tk tk' E₂ hi hJ F' => ?_, fun own' h' tk hJ F' => ?_⟩
  · obtain ⟨m, v, rfl, hmn, hml, a, vs, rfl, hl, hp⟩ := hJ
    refine st_local 1 F' rfl fun h₅ tk₅ F₅ hs₅ => ?_
    have hl₅ : h₅.IsList a vs.toArray := (lk_ns (F'.ns 1 rfl) hs₅).isList hl
    have hi4 : i < 4 := by omega
    have e4 : (4 : Int) ^ ((0 + (i : Int) + 1).toNat) = 4 ^ (i + 1) := by rw [show (0 + (i : Int) + 1).toNat = i + 1 by omega]
    have hpos : (0 : Int) < 4 ^ (i + 1) := Int.pow_pos (by decide)
    have hsm : ((4 : Int) ^ (i + 1)).natAbs < 1073741824 := by
      have : i = 0 ∨ i = 1 ∨ i = 2 ∨ i = 3 := by omega
      rcases this with rfl | rfl | rfl | rfl <;> decide
    refine wpAny_execs_cons ?_
    refine wpAny_Assign_Name ?_
    refine wpAny_BinOp ?_
    refine r_list ?_
    refine sp_cons ?_
    refine Subscript_ ?_
    refine r_list ?_
    refine sp_cons ?_
    refine c_str fun ta _ => ?_
    refine sp_cons ?_
    refine c_str fun tb _ => ?_
    refine sp_cons ?_
    refine c_str fun tc _ => ?_
    refine sp_cons ?_
    refine c_str fun td _ => ?_
    refine sp_nil ?_
    refine ⟨_, _, rfl, Nat.le_of_ble_eq_true rfl, fun a₆ h₆ k₆ n₆ g₆ => ?_⟩
    have F₆ := F₅.grow k₆
    refine wpAny_BinOp ?_
    refine wpAny_BinOp ?_
    refine nm_local (F₆.ns 1 rfl) ?_ hmn
    refine wpAny_BinOp ?_
    refine c_int fun _ _ => ?_
    refine wpAny_BinOp ?_
    refine nm_local (F₆.ns 1 rfl) ?_
    refine c_int fun _ _ => ?_
    refine i_add fun _ _ => ?_
    refine i_pow (by omega) ?_ fun _ _ => ?_
    · have : (Builtin.Int.intBits 4 : Int) = 3 := by decide
      rw [this]; omega
    rw [e4]
    refine i_div (Int.ne_of_gt hpos) hsm fun _ _ => ?_
    refine c_int fun _ _ => ?_
    refine i_mod (by decide) fun _ _ => ?_
    obtain ⟨x, hx, hxv⟩ := pick4 n i ta tb tc td
    refine item_l (isList_of g₆) (Int.fmod_nonneg_of_pos _ (by decide)) (Int.lt_trans (Int.fmod_lt_of_pos _ (by decide)) (by decide)) hx ?_ rfl
    refine sp_nil ⟨_, _, rfl, Nat.le_of_ble_eq_true rfl, fun a₇ h₇ k₇ n₇ g₇ => ?_⟩
    have F₇ := F₆.grow k₇
    refine nm_local (F₇.ns 1 rfl) ?_ hml
    refine cat_l (isList_of g₇) ((lk_stays k₇).isList ((lk_stays k₆).isList hl₅)) ?_ fun a₈ h₈ k₈ n₈ hl₈ => ?_
    · have := hp.length
      rw [lbls_length] at this
      simp; omega
    · have F₈ := F₇.grow k₈
      refine st_local 1 F₈ rfl fun h₉ tk₉ F₉ hs₉ => ?_
      exact wpAny_execs_nil ⟨_, h₉, _, rfl, F₉, _, _, rfl, hmn, rfl, _, _, rfl, (lk_ns (F₈.ns 1 rfl) hs₉).isList hl₈, .cons hxv hp⟩
  · obtain ⟨m, v, rfl, hmn, hml, a, vs, rfl, hl, hp⟩ := hJ
    have hlen : (lbls n (1 + n.fmod 4 - 0).toNat) = hostL n := by unfold hostL; congr 1; omega
    rw [hlen] at hp
    refine wpAny_execs_cons ?_
    refine wpAny_Return_some ?_
    with_reducible refine str_meth F.slot_str_join F.type_str_join ?_
    refine c_str fun _ _ => ⟨_, _, rfl, ?_⟩
    refine callWith_method1 ?_
    refine sp_cons ?_
    refine nm_local (F'.ns 0 rfl) ?_ hml
    refine sp_nil ?_
    refine s_join hl hp ?_ fun t' tk' => hq _ _ _ F'.kp F'.ti
    have h1 := sum_le (hostL n) fun x hx => labs_len x (lbls_mem n _ x hx)
    have h2 : (hostL n).length = 1 + (n.fmod 4).toNat := lbls_length n _
    have h3 : (Str.ofString ".").length = 1 := rfl
    rw [h3]; omega
end
end Mine
end R13

section R14
open PySem PySem.W PyProof.Rows PySem.Calls PySem.Builtin.Str
set_option maxRecDepth 100000
set_option maxHeartbeats 4000000
namespace Mine

theorem cell_keep {h h' : Heap} {c : Addr} {v : Option Value} (t : TI h) (k : Kp h h') (x : h.IsCell c v) : h'.IsCell c v :=
  let ⟨o, e, hd⟩ := x; ⟨o, k _ _ (t.offD e fun ps q => by rw [hd] at q; cases q) e, hd⟩

section
variable {prog : Program} {w : World} {A : Around} {s : Shared} {h : Heap} {tk : Nat} {K : Frag} {mg mb : Str → Option Value} {E : Value → Shared → Prop} {Q : Value → Shared → Prop} {env : Env}

/-- the own things of a def with cells -/
abbrev ownC (qual : Str) (scope : Scope) (L f : Addr) (cdv : Value) (binds : List (Str × Value)) : List (Addr × Pr) :=
  (L, pNs (bindL (envOfC qual scope L f cdv).kindOf binds fun _ => none)) :: (cellsFrom (L + 1) scope.names []).map fun p => (p.2, pCell (bindC (envOfC qual scope L f cdv).kindOf binds (fun _ => none) p.1))

theorem enterCC {name qual : Str} {params : Arguments} {body : List Stmt} {scope : Scope} {dV kV doc pm cdv ct oc : Value} {an od : Option Addr} {osl : Array (Option Value)} {f : Addr} {pos : List Value} {binds : List (Str × Value)} {k : Nat}
    (R : Rm A (k + 1)) (W : Wd K mg mb h) (t : TI h)
    (ho : K.lookup f = some ⟨oc, od, .func (fnOf name qual params body scope dV kV doc pm an cdv ct), osl⟩) (hcd : codeIn K cdv qual = true)
    (hbind : bindArgs (fnOf name qual params body scope dV kV doc pm an cdv ct) ⟨pos, []⟩ = pure binds)
    (hkind : (binds.all fun y => scope.names.lookup y.1 == some .local || scope.names.lookup y.1 == some .cell) = true) (hnd : ((cellsFrom 0 scope.names []).map (·.1)).Nodup)
    (hq : ∀ L h₁ tk₁ E', Fm h (ownC qual scope L f cdv binds) h₁ → Rm (A.deeper (envOfC qual scope L f cdv)) k →
      wpAny (model prog w) (A.deeper (envOfC qual scope L f cdv)) (execs body (envOfC qual scope L f cdv)) (fun fl s' => Q (match fl with | .ret v => v | _ => .none) s') E' (St s h₁ tk₁))
    (hco : scope.isCoroutine = false) (hgen : scope.isGenerator = false) (hk : scope.kind = .function) :
    codeAny (model prog w) A (.call (.ref f) ⟨pos, []⟩) (fun r s' => match r with | .ok (.ret v) => Q v s' | .ok _ => False | .error e => E e s') (St s h tk) := by
  refine (codeAny_call_cells (fd := fnOf name qual params body scope dV kV doc pm an cdv ct) (body := body) (binds := binds) R.room (W.X _ _ ho) rfl W.lim (codeRec_of W.X hcd) rfl hbind rfl (kindsX hkind _) (fun s₁ x => ?_) hco hgen hk)
  obtain ⟨h₁, tk₁, rfl, hk₁⟩ := x.done
  have hLn : h.get? h.objs.size = none := get_none (Nat.le_refl _)
  have nd : ((cellsFrom (h.objs.size + 1) scope.names []).map (·.1)).Nodup := cellsFrom_names scope.names 0 (h.objs.size + 1) [] [] rfl ▸ hnd
  have abv : ∀ p ∈ cellsFrom (h.objs.size + 1) scope.names [], h.objs.size < p.2 := fun p hp => x.above p.1 p.2 hp
  refine hq h.objs.size h₁ tk₁ _ ⟨.of hk₁, t.stays hk₁, ?_, ?_, ?_, ?_, ?_⟩ R.deeper
  · intro p hp
    rcases List.mem_cons.mp hp with rfl | hp
    · obtain ⟨o, es, ep, e, r⟩ := x.toInCall.ns; exact ⟨o, e, es, ep, r⟩
    · obtain ⟨q, hq', rfl⟩ := List.mem_map.mp hp
      exact x.cell q.1 q.2 (lookup_of_mem_nodup nd hq')
  · intro p hp
    rcases List.mem_cons.mp hp with rfl | hp
    · exact pNs_plain
    · obtain ⟨q, hq', rfl⟩ := List.mem_map.mp hp; exact pCell_plain
  · intro p hp
    rcases List.mem_cons.mp hp with rfl | hp
    · exact hLn
    · obtain ⟨q, hq', rfl⟩ := List.mem_map.mp hp; exact get_none (Nat.le_of_lt (abv q hq'))
  · intro p hp
    rcases List.mem_cons.mp hp with rfl | hp
    · exact t.new hLn
    · obtain ⟨q, hq', rfl⟩ := List.mem_map.mp hp; exact t.new (get_none (Nat.le_of_lt (abv q hq')))
  · rw [List.map_cons, List.map_map]
    refine List.nodup_cons.mpr ⟨fun m => ?_, ?_⟩
    · obtain ⟨q, hq', e⟩ := List.mem_map.mp m
      exact absurd (abv q hq') (by rw [show q.2 = h.objs.size from e]; exact Nat.lt_irrefl _)
    · exact List.pairwise_map.mpr x.apart
theorem enterC {name qual : Str} {params : Arguments} {body : List Stmt} {scope : Scope} {dV kV doc pm cdv ct oc : Value} {an od : Option Addr} {osl : Array (Option Value)} {f : Addr} {pos : List Value} {binds : List (Str × Value)} {k : Nat}
    (R : Rm A (k + 1)) (W : Wd K mg mb h) (t : TI h)
    (ho : K.lookup f = some ⟨oc, od, .func (fnOf name qual params body scope dV kV doc pm an cdv ct), osl⟩) (hcd : codeIn K cdv qual = true)
    (hbind : bindArgs (fnOf name qual params body scope dV kV doc pm an cdv ct) ⟨pos, []⟩ = pure binds)
    (hkind : (binds.all fun y => scope.names.lookup y.1 == some .local || scope.names.lookup y.1 == some .cell) = true) (hnd : ((cellsFrom 0 scope.names []).map (·.1)).Nodup)
    (hq : ∀ L h₁ tk₁ E', Fm h (ownC qual scope L f cdv binds) h₁ → Rm (A.deeper (envOfC qual scope L f cdv)) k →
      wpAny (model prog w) (A.deeper (envOfC qual scope L f cdv)) (execs body (envOfC qual scope L f cdv)) (fun fl s' => Q (match fl with | .ret v => v | _ => .none) s') E' (St s h₁ tk₁))
    (hco : scope.isCoroutine = false) (hgen : scope.isGenerator = false) (hk : scope.kind = .function) :
    wpAny (model prog w) A (call (.ref f) pos) Q E (St s h tk) :=
  wpAny_call (enterCC R W t ho hcd hbind hkind hnd hq hco hgen hk)
/-- a text split -/
theorem s_split {x y : Str} {t u : Tok} (hy : (y.length == 0) = false) (hsz : x.length ≤ 1000)
    (hq : ∀ D vs h' tk', h.StaysIn h' → h'.IsList D (List.toArray vs) → Paired VS vs (Txt.split x y) → Q (.ref D) (St s h' tk')) : wpAny (model prog w) A (call (.builtin "str.split") [.str x t, .str y u]) Q E (St s h tk) := by
  refine SCH.split1 (P := fun h' => h.StaysIn h') (fun _ _ k b o e => Heap.get?_push_of_some _ (k b o e)) (fun _ _ e => e) hy (fun D l h' k hl hk hD => ?_) (by rw [sizeLine_eq]; omega) (by rw [sizeLine_eq, len_partsBetween]; have := StrLaws.occ_length_le x y 0 x.length (x.length + 1); omega)
  refine hq D _ h' k hk hD ?_
  rw [← hl]
  clear hl hD
  induction l with
  | nil => exact .nil
  | cons a r ih => exact .cons ⟨_, rfl⟩ ih
theorem r_len {np pos : Pos} {e : Expr} (W : Wd K mg mb h) (en : nsIn K mainGlobals (Str.ofString "len") = some none)
    (hq : wpAny (model prog w) A (eval e env) (fun v s₁ => ∃ a vs h₁ tk₁, v = .ref a ∧ s₁ = St s h₁ tk₁ ∧ h₁.IsList a (List.toArray vs) ∧ vs.length ≤ 10000 ∧ ∀ t' tk', Q (.int vs.length t') (St s h₁ tk')) E (St s h tk))
    (hg : env.globals = mainGlobals := by rfl) (hb : env.builtins = builtinsNs := by rfl) (hk : env.scope.kind = .function := by rfl) (hl : env.kindOf (Str.ofString "len") = some .globalImplicit := by rfl)
    (he : starEach [e] env = [(false, eval e env)] := by rfl) : wpAny (model prog w) A (eval (.Call (.Name (Str.ofString "len") np) [e] [] pos) env) Q E (St s h tk) := by
  refine wpAny_Call_ofName (nm_built W en boot_len (PyProof.Rows.callWith_builtin1 (sp_cons (wpAny_mono hq (fun v s₁ h₁ => ?_) fun _ _ e => e) he) he) (by decide) hg hb hk hl)
  obtain ⟨a, vs, h₂, tk₂, rfl, rfl, hl, hsz, hq⟩ := h₁
  refine sp_nil (len_list (s := St s h₂ tk₂) hl (by simp; omega) ?_)
  have := hq ((St s h₂ tk₂).toks + 1) ((St s h₂ tk₂).toks + 1 + 1)
  rw [List.size_toArray]
  exact this
end

def labelsF (x : Str) : List Str := (Txt.split (Txt.lower x) ".").reverse
theorem split_len (x y : Str) : (Txt.split x y).length ≤ x.length + 2 := by
  unfold Txt.split
  split
  · simp
  · split
    · simp
    · rw [len_partsBetween]; have := StrLaws.occ_length_le x y 0 x.length (x.length + 1); omega

section
variable {prog : Program} {w : World} {A : Around} {s : Shared} {h : Heap} {tk : Nat} {mg mb : Str → Option Value} {E : Value → Shared → Prop} {Q : Value → Shared → Prop} {env : Env}
theorem call_labels {x : Str} {t : Tok} {k : Nat} (R : Rm A (k + 2)) (W : Wd (KK w) mg mb h) (T : TI h) (hlen : (Txt.lower x).length ≤ 1000)
    (hq : ∀ a vs h' tk', Kp h h' → TI h' → h.get? a = none → h'.IsList a (List.toArray vs) → Paired VS vs (labelsF x) → Q (.ref a) (St s h' tk')) : wpAny (model prog w) A (call (.ref 103) [.str x t]) Q E (St s h tk) := by
  refine enterC (binds := [(Str.ofString "host", .str x t)]) R W T (by rfl) (by rfl) rfl rfl (by decide) (fun L h₁ tk₁ E' B R' => ?_) rfl rfl rfl
  refine wpAny_execs_cons ?_
  refine wpAny_Assign_Name ?_
  with_reducible refine str_meth F.slot_str_split F.type_str_split ?_
  with_reducible refine str_meth F.slot_str_lower F.type_str_lower ?_
  refine nm_local (B.ns 0 rfl) ?_
  refine ⟨_, _, rfl, ?_⟩
  refine callWith_method0 ?_
  refine s_lower hlen fun t₂ tk₂ => ?_
  refine ⟨_, _, rfl, ?_⟩
  refine callWith_method1 ?_
  refine sp_cons ?_
  refine c_str fun _ _ => ?_
  refine sp_nil ?_
  refine s_split rfl hlen fun D vs h₂ tk₂ k₂ hD hp => ?_
  have B₂ := B.grow k₂
  have hvl : vs.length ≤ 2000 := by have := hp.length; have := split_len (Txt.lower x) (Str.ofString "."); omega
  refine st_cell 1 B₂ rfl fun h₃ tk₃ B₃ hs₃ => ?_
  have hc₂ := B₂.cell 1 rfl
  have W₃ := W.keeps T B₃.kp
  have hD₃ : h₃.IsList D vs.toArray := hD.extBut hs₃.extBut (by rintro rfl; obtain ⟨o, e, hc, n, hd⟩ := hD; obtain ⟨o', e', hd'⟩ := hc₂; rw [e] at e'; cases e'; rw [hd] at hd'; cases hd')
  refine wpAny_execs_cons ?_
  refine wpAny_Return_some ?_
  refine comp_ (fun i _ y => ∃ z, (labelsF x)[i]? = some z ∧ VS y z) (fun _ _ _ _ _ e => e) R'.handled ?_
  refine range1 W₃ (by rfl) ?_
  refine r_len W₃ (by rfl) ?_
  refine nm_cell (B₃.cell 1 rfl) ?_
  refine ⟨_, _, _, _, rfl, rfl, hD₃, by omega, fun t' tk' => ?_⟩
  refine ⟨_, _, _, _, rfl, rfl, fun r h₄ tk₄ t₄ u₄ z₄ k₄ hr => ?_⟩
  have B₄ := B₃.grow k₄
  refine ⟨_, _, _, _, rfl, B₄.ti, .range hr (by decide) (by decide) (by omega) (by omega), by rw [sizeLine_eq]; omega, fun C D' i v h₅ tk₅ m₅ E₅ Q' hi hv hn hm hk ht hDn hDo hCn hq' => ?_, fun D' h' tk' ys hDn hk ht hl hlen hF => ?_⟩
  · obtain ⟨t₅, rfl⟩ := hv
    have hi : i < vs.length := by omega
    refine Subscript_ ?_
    refine nm_cell (cell_keep B₄.ti hk (B₄.cell 1 rfl)) ?_
    refine wpAny_BinOp ?_
    refine wpAny_UnaryOp ?_
    refine c_int fun _ _ => ?_
    refine i_neg fun _ _ => ?_
    refine nm_local hn ?_ hm
    refine i_sub fun _ _ => ?_
    have hD₅ : h₅.IsList D vs.toArray := (hk.lk B₄.ti).isList ((lk_stays k₄).isList hD₃)
    have hj : vs.length - 1 - i < (Txt.split (Txt.lower x) (Str.ofString ".")).length := by have := hp.length; omega
    obtain ⟨z, hz, hzv⟩ := Paired.get hp (List.getElem?_eq_getElem hj)
    refine item_neg hD₅ (by omega) (by omega) (by omega) (x := z) ?_ (hq' _ _ _ (Kp.refl _) ht ⟨_, ?_, hzv⟩)
    · rw [← hz]; congr 1; omega
    · unfold labelsF
      rw [List.getElem?_reverse (by have := hp.length; omega), ← List.getElem?_eq_getElem hj]
      congr 1
      have := hp.length; omega
  · refine hq D' ys h' tk' ((B₄.kp).trans hk) ht (B₄.kp.none (B₄.ti.new hDn) hDn) hl (Paired.mk ?_ fun i y z hy hz => ?_)
    · rw [hlen]; unfold labelsF; rw [List.length_reverse]; have := hp.length; omega
    · obtain ⟨z', e, r⟩ := hF i y hy
      rw [hz] at e; cases e; exact r
end
end Mine
end R14

section R15
open PySem PySem.W PyProof.Rows PySem.Calls PySem.Builtin.Str
set_option maxRecDepth 100000
set_option maxHeartbeats 4000000
namespace Mine

theorem Paired.drop {α β : Type} {F : α → β → Prop} : ∀ (n : Nat) {l₁ : List α} {l₂ : List β}, Paired F l₁ l₂ → Paired F (l₁.drop n) (l₂.drop n)
  | 0, _, _, p => p
  | _ + 1, _, _, .nil => .nil
  | n + 1, _, _, .cons _ r => Paired.drop n r
theorem Paired.take {α β : Type} {F : α → β → Prop} : ∀ (n : Nat) {l₁ : List α} {l₂ : List β}, Paired F l₁ l₂ → Paired F (l₁.take n) (l₂.take n)
  | 0, _, _, _ => .nil
  | _ + 1, _, _, .nil => .nil
  | n + 1, _, _, .cons x r => .cons x (Paired.take n r)
theorem Paired.append {α β : Type} {F : α → β → Prop} : ∀ {l₁ : List α} {l₂ : List β} {r₁ : List α} {r₂ : List β}, Paired F l₁ l₂ → Paired F r₁ r₂ → Paired F (l₁ ++ r₁) (l₂ ++ r₂)
  | _, _, _, _, .nil, q => q
  | _, _, _, _, .cons x r, q => .cons x (Paired.append r q)
/-- what a list's slice takes -/
def sl {α : Type} (l : List α) (lo hi : Option Int) : List α := (l.drop (kms_lo lo l.length)).take (kms_hi hi l.length - kms_lo lo l.length)
theorem Paired.sl {α β : Type} {F : α → β → Prop} {l₁ : List α} {l₂ : List β} (p : Paired F l₁ l₂) (lo hi : Option Int) : Paired F (sl l₁ lo hi) (sl l₂ lo hi) := by
  unfold Mine.sl
  rw [p.length]
  exact Paired.take _ (Paired.drop _ p)
theorem sl_from {α : Type} (l : List α) (i : Nat) : sl l (some i) none = l.drop i := by
  unfold sl kms_lo kms_hi
  dsimp only
  rw [if_neg (by omega)]
  rw [List.take_of_length_le (by simp)]
  simp only [Int.toNat_natCast]
  rcases Nat.le_total i l.length with h | h
  · rw [Nat.min_eq_left h]
  · rw [Nat.min_eq_right h, List.drop_eq_nil_of_le (Nat.le_refl _), List.drop_eq_nil_of_le h]
theorem sl_upto {α : Type} (l : List α) (i : Nat) : sl l none (some i) = l.take i := by
  unfold sl kms_lo kms_hi
  dsimp only
  rw [if_neg (by omega)]
  simp only [Int.toNat_natCast, List.drop_zero, Nat.sub_zero]
  rcases Nat.le_total i l.length with h | h
  · rw [Nat.min_eq_left h]
  · rw [Nat.min_eq_right h, List.take_of_length_le (Nat.le_refl _), List.take_of_length_le h]
theorem sl_init {α : Type} (l : List α) : sl l none (some (-1)) = l.dropLast := by
  unfold sl kms_lo kms_hi
  dsimp only
  rw [if_pos (by decide), List.dropLast_eq_take]
  rfl

section
variable {prog : Program} {w : World} {A : Around} {s : Shared} {h : Heap} {tk : Nat} {mg mb : Str → Option Value} {E : Value → Shared → Prop} {Q : Value → Shared → Prop} {env : Env}

theorem l_slice {value : Expr} {lower upper : Option Expr} {p pos : Pos}
    (hq : wpAny (model prog w) A (eval value env) (fun o s₁ => wpAny (model prog w) A (evalPart lower env) (fun vl s₂ => wpAny (model prog w) A (evalPart upper env) (fun vu s₃ =>
      ∃ l vs lo hi h₃ tk₃, o = .ref l ∧ s₃ = St s h₃ tk₃ ∧ h₃.IsList l (List.toArray vs) ∧ vs.length ≤ 10000 ∧ IsPart vl lo ∧ IsPart vu hi ∧
        ∀ a h', h₃.StaysIn h' → h₃.get? a = none → h'.IsList a (List.toArray (sl vs lo hi)) → Q (.ref a) (St s h' tk₃)) E s₂) E s₁) E (St s h tk))
    (ht : ∀ o r, letTemporaryGo value o r = pure () := by intro _ _; rfl) :
    wpAny (model prog w) A (eval (.Subscript value (.Slice lower upper none p) pos) env) Q E (St s h tk) := by
  refine wpAny_Subscript_list_slice (wpAny_mono hq (fun o s₁ h₁ => wpAny_mono h₁ (fun vl s₂ h₂ => wpAny_mono h₂ (fun vu s₃ h₃ => ?_) fun _ _ e => e) fun _ _ e => e) fun _ _ e => e) ht
  obtain ⟨l, vs, lo, hi, h₃, tk₃, rfl, rfl, hl, hsz, pl, pu, hq⟩ := h₃
  refine ⟨l, _, lo, hi, rfl, hl, by rw [sizeLine_eq, List.size_toArray]; omega, pl, pu, ?_⟩
  have k : h₃.StaysIn ((h₃.push { cls := .type "slice", data := .fields #[vl, vu, .none] }).push { cls := .type "list", data := .seq (sl vs lo hi).toArray }) := fun b o e => stays_push _ _ _ _ (stays_push _ _ _ _ e)
  have e : slicePick vs.toArray lo hi none = (sl vs lo hi).toArray := kms_pick_eq _ _ _
  rw [e]
  exact hq _ _ k (get_none (Nat.le_succ _)) (by have := isList_push (h₃.push { cls := .type "slice", data := .fields #[vl, vu, .none] }) (sl vs lo hi); rw [Heap.size_push] at this; exact this)
end

section
variable {M : Model} {A : Around} {s s0 : Shared} {E : Value → Shared → Prop}
/-- a test whose answer is c -/
theorem test_c (c : Bool) (h₁ : Heap) {m : Sem Bool} {Q : Bool → Shared → Prop} (h1 : wpAny M A m (fun b s' => b = c ∧ ∃ tk', s' = St s h₁ tk') E s0) (h2 : ∀ tk', Q c (St s h₁ tk')) : wpAny M A m Q E s0 :=
  wpAny_mono h1 (fun _ _ ⟨e, tk', e'⟩ => by rw [e, e']; exact h2 tk') fun _ _ e => e
theorem int_c (n : Int) (h₁ : Heap) {m : Sem Value} {Q : Value → Shared → Prop} (h1 : wpAny M A m (fun v s' => ∃ t tk', v = .int n t ∧ s' = St s h₁ tk') E s0) (h2 : ∀ t tk', Q (.int n t) (St s h₁ tk')) : wpAny M A m Q E s0 :=
  wpAny_mono h1 (fun _ _ ⟨t, tk', e, e'⟩ => by rw [e, e']; exact h2 t tk') fun _ _ e => e
end

def rungsF (x : Str) (ls : List Str) : List Str :=
  if (decide (1 < ls.length) && (ls.getLastD "" == Str.ofString "7")) = true then [x]
  else x :: (List.range (ls.length - (if (ls.getLastD "" == Str.ofString "local") = true then 1 else 2))).map fun i => Str.ofString "." ++ Txt.join "." (ls.drop (1 + i))
theorem last_of {vs : List Value} {ls : List Str} (p : Paired VS vs ls) (h0 : 0 < vs.length) : ∃ t, vs[((-1 : Int) + vs.length).toNat]? = some (.str (ls.getLastD "") t) := by
  have hl := p.length
  have hj : ls.length - 1 < ls.length := by omega
  obtain ⟨z, hz, t, rfl⟩ := Paired.get p (List.getElem?_eq_getElem hj)
  refine ⟨t, ?_⟩
  rw [show ((-1 : Int) + vs.length).toNat = ls.length - 1 by omega, hz]
  congr 2
  rw [List.getLastD_eq_getLast?, List.getLast?_eq_getElem?, List.getElem?_eq_getElem hj]; rfl

section
variable {prog : Program} {w : World} {A : Around} {s : Shared} {h : Heap} {tk : Nat} {mg mb : Str → Option Value} {E : Value → Shared → Prop} {Q : Value → Shared → Prop} {env : Env}
theorem call_rungs {x : Str} {t : Tok} {k : Nat} {ls : List Str} (R : Rm A (k + 2)) (W : Wd (KK w) mg mb h) (T : TI h) (hlen : x.length ≤ 1000) (hls : Txt.split x (Str.ofString ".") = ls) (h0 : 0 < ls.length) (h9 : ∀ i, ((ls.drop i).map (·.length)).sum + (ls.drop i).length ≤ 1000)
    (hq : ∀ a vs h' tk', Kp h h' → TI h' → h.get? a = none → h'.IsList a (List.toArray vs) → Paired VS vs (rungsF x ls) → Q (.ref a) (St s h' tk')) : wpAny (model prog w) A (call (.ref 122) [.str x t]) Q E (St s h tk) := by
  refine enterC (binds := [(Str.ofString "host", .str x t)]) R W T (by rfl) (by rfl) rfl rfl (by decide) (fun L h₁ tk₁ E' B R' => ?_) rfl rfl rfl
  refine wpAny_execs_cons ?_
  refine wpAny_Assign_Name ?_
  with_reducible refine str_meth F.slot_str_split F.type_str_split ?_
  refine nm_local (B.ns 0 rfl) ?_
  refine ⟨_, _, rfl, ?_⟩
  refine callWith_method1 ?_
  refine sp_cons ?_
  refine c_str fun _ _ => ?_
  refine sp_nil ?_
  refine s_split rfl hlen fun D vs h₂ tk₂ k₂ hD hp => ?_
  rw [hls] at hp
  have B₂ := B.grow k₂
  have hvl : vs.length ≤ 2000 := by have := hp.length; have := split_len x (Str.ofString "."); rw [hls] at this; omega
  have hv0 : 0 < vs.length := by have := hp.length; omega
  refine st_cell 1 B₂ rfl fun h₃ tk₃ B₃ hs₃ => ?_
  have hc₂ := B₂.cell 1 rfl
  have W₃ := W.keeps T B₃.kp
  have hD₃ : h₃.IsList D vs.toArray := hD.extBut hs₃.extBut (by rintro rfl; obtain ⟨o, e, hc, n, hd⟩ := hD; obtain ⟨o', e', hd'⟩ := hc₂; rw [e] at e'; cases e'; rw [hd] at hd'; cases hd')
  obtain ⟨tl, htl⟩ := last_of hp hv0
  have hl := hp.length
  refine wpAny_execs_cons ?_
  refine wpAny_If ?_
  refine test_c (s := s) (decide (1 < ls.length) && (ls.getLastD "" == Str.ofString "7")) h₃ ?_ fun tk₄ => ?_
  · refine wpAny_isTrue_BoolOp ?_
    refine wpAny_allTrue_And_cons ?_
    refine wpAny_isTrue_Compare1 ?_
    refine r_len W₃ (by rfl) ?_
    refine nm_cell (B₃.cell 1 rfl) ?_
    refine ⟨_, _, _, _, rfl, rfl, hD₃, by omega, fun _ _ => ?_⟩
    refine c_int fun _ _ => ?_
    refine P.gt_int ?_
    refine wpAny_truthy_bool ?_
    rw [show decide ((vs.length : Int) > 1) = decide (1 < ls.length) by rw [hl]; exact decide_eq_decide.mpr (by omega)]
    cases decide (1 < ls.length) with
    | false => exact ⟨rfl, _, rfl⟩
    | true =>
      refine wpAny_allTrue_And_cons ?_
      refine wpAny_isTrue_Compare1 ?_
      refine Subscript_ ?_
      refine nm_cell (B₃.cell 1 rfl) ?_
      refine wpAny_UnaryOp ?_
      refine c_int fun _ _ => ?_
      refine i_neg fun _ _ => ?_
      refine item_neg hD₃ (by decide) (by omega) (by decide) htl ?_
      refine c_str fun _ _ => ?_
      refine eq_str ?_
      refine wpAny_truthy_bool ?_
      cases (ls.getLastD "" == Str.ofString "7") with
      | false => exact ⟨rfl, _, rfl⟩
      | true => exact wpAny_allTrue_And_nil ⟨rfl, _, rfl⟩
  have er : rungsF x ls = if (decide (1 < ls.length) && (ls.getLastD "" == Str.ofString "7")) = true then [x] else x :: (List.range (ls.length - (if (ls.getLastD "" == Str.ofString "local") = true then 1 else 2))).map fun i => Str.ofString "." ++ Txt.join "." (ls.drop (1 + i)) := rfl
  cases e1 : decide (1 < ls.length) && (ls.getLastD "" == Str.ofString "7") with
  | true =>
    rw [e1] at er
    refine wpAny_execs_cons ?_
    refine wpAny_Return_some ?_
    refine r_list ?_
    refine sp_cons ?_
    refine nm_local (B₃.ns 0 rfl) ?_
    refine sp_nil ?_
    refine ⟨_, _, rfl, Nat.le_of_ble_eq_true rfl, fun a h₄ k₄ n₄ g₄ => ?_⟩
    refine hq a _ h₄ _ (B₃.grow k₄).kp (B₃.grow k₄).ti (B₃.kp.none (B₃.ti.new n₄) n₄) (isList_of g₄) ?_
    rw [er]; exact .cons ⟨_, rfl⟩ .nil
  | false =>
    rw [e1] at er
    refine wpAny_execs_nil ?_
    refine wpAny_execs_cons ?_
    refine wpAny_Assign_Name ?_
    refine int_c (s := s) (if (ls.getLastD "" == Str.ofString "local") = true then 1 else 2) h₃ ?_ fun tl tk₅ => ?_
    · refine wpAny_IfExp ?_
      refine wpAny_isTrue_Compare1 ?_
      refine Subscript_ ?_
      refine nm_cell (B₃.cell 1 rfl) ?_
      refine wpAny_UnaryOp ?_
      refine c_int fun _ _ => ?_
      refine i_neg fun _ _ => ?_
      refine item_neg hD₃ (by decide) (by omega) (by decide) htl ?_
      refine c_str fun _ _ => ?_
      refine eq_str ?_
      refine wpAny_truthy_bool ?_
      cases (ls.getLastD "" == Str.ofString "local") with
      | true => exact c_int fun _ _ => ⟨_, _, rfl, rfl⟩
      | false => exact c_int fun _ _ => ⟨_, _, rfl, rfl⟩
    rw [if_neg (by decide)] at er
    have hle : ∃ d : Nat, (if (ls.getLastD "" == Str.ofString "local") = true then 1 else 2) = d ∧ (if (ls.getLastD "" == Str.ofString "local") = true then (1 : Int) else 2) = d ∧ 1 ≤ d ∧ d ≤ 2 := by
      cases (ls.getLastD "" == Str.ofString "local") with
      | true => exact ⟨1, rfl, rfl, by decide, by decide⟩
      | false => exact ⟨2, rfl, rfl, by decide, by decide⟩
    obtain ⟨d, ed, ed', hd1, hd2⟩ := hle
    rw [ed] at er
    rw [ed']
    refine st_local 0 B₃ rfl fun h₆ tk₆ B₆ hs₆ => ?_
    have hD₆ : h₆.IsList D vs.toArray := (lk_ns (B₃.ns 0 rfl) hs₆).isList hD₃
    have W₆ := W.keeps T B₆.kp
    refine wpAny_execs_cons ?_
    refine wpAny_Return_some ?_
    refine wpAny_BinOp ?_
    refine r_list ?_
    refine sp_cons ?_
    refine nm_local (B₆.ns 0 rfl) ?_
    refine sp_nil ?_
    refine ⟨_, _, rfl, Nat.le_of_ble_eq_true rfl, fun a₇ h₇ k₇ n₇ g₇ => ?_⟩
    have B₇ := B₆.grow k₇
    have W₇ := W.keeps T B₇.kp
    have hD₇ := (lk_stays k₇).isList hD₆
    refine comp_ (fun i _ y => VS y (Str.ofString "." ++ Txt.join "." (ls.drop (1 + i)))) (fun _ _ _ _ _ e => e) R'.handled ?_
    refine range2 W₇ (by rfl) ?_
    refine c_int fun _ _ => ?_
    refine wpAny_BinOp ?_
    refine wpAny_BinOp ?_
    refine r_len W₇ (by rfl) ?_
    refine nm_cell (B₇.cell 1 rfl) ?_
    refine ⟨_, _, _, _, rfl, rfl, hD₇, by omega, fun _ _ => ?_⟩
    refine c_int fun _ _ => ?_
    refine i_add fun _ _ => ?_
    refine nm_local (B₇.ns 0 rfl) ?_
    refine i_sub fun _ _ => ?_
    refine ⟨_, _, _, _, _, _, rfl, rfl, rfl, fun r h₈ tk₈ t₈ u₈ z₈ k₈ hr => ?_⟩
    have B₈ := B₇.grow k₈
    have hD₈ := (lk_stays k₈).isList hD₇
    refine ⟨_, _, _, _, rfl, B₈.ti, .range hr (by decide) (by decide) (by omega) (by omega), by rw [sizeLine_eq]; omega, fun C D' i v h₉ tk₉ m₉ E₉ Q' hi hv hn hm hk ht hDn hDo hCn hq' => ?_, fun D' h' tk' ys hDn hk ht hlD hlen hF => ?_⟩
    · obtain ⟨t₉, rfl⟩ := hv
      have hD₉ := (hk.lk B₈.ti).isList hD₈
      refine wpAny_BinOp ?_
      refine c_str fun _ _ => ?_
      with_reducible refine str_meth F.slot_str_join F.type_str_join ?_
      refine c_str fun _ _ => ⟨_, _, rfl, ?_⟩
      refine callWith_method1 ?_
      refine sp_cons ?_
      refine l_slice ?_
      refine nm_cell (cell_keep B₈.ti hk (B₈.cell 1 rfl)) ?_
      refine wpAny_evalPart_some ?_
      refine nm_local hn ?_ hm
      refine wpAny_evalPart_none ⟨_, _, _, _, _, _, rfl, rfl, hD₉, by omega, .int _ _, .none, fun a h₁₀ k₁₀ n₁₀ hl₁₀ => ?_⟩
      have hps := Paired.sl hp (some ((1 : Int) + i * 1)) none
      rw [show (1 : Int) + i * 1 = ((1 + i : Nat) : Int) by omega] at hps hl₁₀
      rw [sl_from] at hl₁₀
      rw [sl_from, sl_from] at hps
      have h9i := h9 (1 + i)
      have hdot : (Str.ofString ".").length = 1 := rfl
      refine sp_nil ?_
      refine s_join hl₁₀ hps (by rw [hdot]; omega) fun _ _ => ?_
      refine s_add ?_ fun _ _ => ?_
      · rw [hdot]
        have := StrLaws.join_length_le (Str.ofString ".") (ls.drop (1 + i))
        rw [hdot] at this
        have e9 : Txt.join (Str.ofString ".") (ls.drop (1 + i)) = Str.join (Str.ofString ".") (ls.drop (1 + i)) := eq_of_beq (join_plain_closes _ _)
        rw [e9]; omega
      · exact hq' _ _ _ (Kp.of k₁₀) (ht.stays k₁₀) ⟨_, rfl⟩
    · have ha₇ : h'.IsList a₇ _ := (hk.lk B₈.ti).isList ((lk_stays k₈).isList (isList_of g₇))
      refine cat_l ha₇ hlD (by rw [hlen]; simp; omega) fun a₉ h₉ k₉ n₉ hl₉ => ?_
      have B₉ := (B₈.call hk ht).grow k₉
      have B₉' := (B₈.call hk ht)
      refine hq a₉ _ h₉ _ B₉.kp B₉.ti (B₉'.kp.none (B₉'.ti.new n₉) n₉) hl₉ ?_
      rw [er]
      refine .cons ⟨_, rfl⟩ (Paired.mk ?_ fun i y z hy hz => ?_)
      · show ys.length = _
        rw [hlen, List.length_map, List.length_range]; omega
      · have := hF i y hy
        rw [List.getElem?_map] at hz
        obtain ⟨j, hj, rfl⟩ := Option.map_eq_some_iff.mp hz
        obtain ⟨hj1, hj2⟩ := List.getElem?_eq_some_iff.mp hj
        rw [List.getElem_range] at hj2
        subst hj2
        exact this
end
end Mine
end R15

section R16
open PySem PySem.W PyProof.Rows PySem.Calls PySem.Builtin.Str
set_option maxRecDepth 100000
set_option maxHeartbeats 4000000
namespace Mine

/-- a list without more of its own -/
def pPl (vs : List Value) : Pr := fun o => ∃ n, o = { cls := .type "list", data := .seq vs.toArray n }
theorem pPl_plain {vs : List Value} (o : Obj) (h : pPl vs o) : Plain o := .inl fun _ e => by obtain ⟨n, rfl⟩ := h; cases e
theorem Fm.plist {g h : Heap} {own : List (Addr × Pr)} {a : Addr} {vs : List Value} (i : Nat) (F : Fm g own h) (hi : own[i]? = some (a, pPl vs)) : h.PlainList a vs.toArray := by
  obtain ⟨o, e, n, rfl⟩ := F.at hi
  exact ⟨n, e⟩

section
variable {prog : Program} {w : World} {A : Around} {s : Shared} {h : Heap} {tk : Nat} {K : Frag} {mg mb : Str → Option Value} {E : Value → Shared → Prop} {Q : Value → Shared → Prop} {env : Env}
/-- a list of the frame's own gains an item -/
theorem l_append {g : Heap} {own : List (Addr × Pr)} {a : Addr} {vs : List Value} {x : Value} (i : Nat) (F : Fm g own h) (hi : own[i]? = some (a, pPl vs)) (hsz : vs.length ≤ 10000)
    (hq : ∀ h', Fm g (own.set i (a, pPl (vs ++ [x]))) h' → Heap.SameBut a h h' → Q .none (St s h' tk)) : wpAny (model prog w) A (call (.builtin "list.append") [.ref a, x]) Q E (St s h tk) := by
  refine wpAny_list_append_plain (s := St s h tk) (F.plist i hi) (fun h' hl hs => ?_) (by rw [List.size_toArray, sizeLine_eq]; omega)
  have hl' : h'.PlainList a (vs ++ [x]).toArray := by simpa using hl
  exact hq h' (F.set i hi hs.extBut (let ⟨n, e⟩ := hl'; ⟨_, e, n, rfl⟩) pPl_plain) hs
theorem list_meth {o : Expr} {name : Str} {apos pos : Pos} {args : List Expr} {id : String} (slot : Slot "list" name id) (hty : typeOf (.builtin id) = pure (.type "method_descriptor"))
    (hq : wpAny (model prog w) A (eval o env) (fun ov s₁ => ∃ a vs h₁ tk₁, ov = .ref a ∧ s₁ = St s h₁ tk₁ ∧ h₁.PlainList a vs ∧ wpAny (model prog w) A (callWith pos (.builtin id) [.ref a] (backTo pos (starEach args env)) []) Q E s₁) E (St s h tk))
    (hbase : attributeBase o name env (eval o env) = eval o env := by k_dflt rfl)
    (hfew : ((backTo pos (starEach args env)).all (fun x => !x.1) && (backToKw pos (keywordEach [] env)).all (fun x => x.1.isSome)
      && decide (args.length + ([] : List Keyword).length + (if ([] : List Keyword).isEmpty then 0 else 1) < 30)) = true := by k_dflt rfl)
    (hline : (apos.endLine == pos.line) = true := by k_dflt rfl) : wpAny (model prog w) A (eval (.Call (.Attribute o name apos) args [] pos) env) Q E (St s h tk) :=
  call_meth PySem.F.plainAttrs_list slot hty (wpAny_mono hq (fun ov s₁ h₁ => by obtain ⟨a, vs, h₁, tk₁, rfl, rfl, hl, h₁⟩ := h₁; exact ⟨hl.isList.typeIs, fun b e => by cases e; obtain ⟨n, e⟩ := hl; exact ⟨_, e, rfl⟩, h₁⟩) fun _ _ e => e) hbase hfew hline
end

/-- the rungs above b -/
def climb : Nat → Str → List Str
  | 0, _ => []
  | n + 1, b => if (reachF b == b) = true then [] else reachF b :: climb n (Txt.slice (reachF b) (some 1) none)
def OkC : Nat → Str → Prop
  | 0, _ => True
  | n + 1, b => Ok b ∧ (reachF b).length ≤ 1000 ∧ ((reachF b == b) = false → OkC n (Txt.slice (reachF b) (some 1) none))
def ladderN (x : Str) : Nat := (Txt.count x "." + 1).toNat
def ladderF (x : Str) : List Str := x :: climb (ladderN x) x

section
variable {prog : Program} {w : World} {A : Around} {s : Shared} {h : Heap} {tk : Nat} {mg mb : Str → Option Value} {E : Value → Shared → Prop} {Q : Value → Shared → Prop} {env : Env}
theorem call_ladder {x : Str} {t : Tok} {k : Nat} (R : Rm A (k + 3)) (W : Wd (KK w) mg mb h) (T : TI h) (ok : OkC (ladderN x) x) (hc : Txt.count x "." ≤ 1000) (hc0 : 0 ≤ Txt.count x ".")
    (hq : ∀ a vs h' tk', Kp h h' → TI h' → h.get? a = none → h'.IsList a (List.toArray vs) → Paired VS vs (ladderF x) → Q (.ref a) (St s h' tk')) : wpAny (model prog w) A (call (.ref 117) [.str x t]) Q E (St s h tk) := by
  refine enter (binds := [(Str.ofString "host", .str x t)]) R W T (by rfl) (by rfl) (BindsTo.of_eq rfl) (locs rfl) (fun L h₁ tk₁ E' B R' => ?_) rfl rfl rfl (by decide)
  refine wpAny_execs_cons ?_
  refine wpAny_Assign_Name ?_
  refine r_list ?_
  refine sp_cons ?_
  refine nm_local (B.ns 0 rfl) ?_
  refine sp_nil ?_
  refine ⟨_, _, rfl, Nat.le_of_ble_eq_true rfl, fun a h₂ k₂ n₂ g₂ => ?_⟩
  have na : h.get? a = none := B.kp.none (B.ti.new n₂) n₂
  have B₂ : Fm h ((a, pPl [.str x t]) :: _) h₂ := B.own1 k₂ n₂ ⟨_, g₂, 0, rfl⟩ pPl_plain
  refine st_local 1 B₂ rfl fun h₃ tk₃ B₃ hs₃ => ?_
  refine wpAny_execs_cons ?_
  refine wpAny_Assign_Name ?_
  refine nm_local (B₃.ns 1 rfl) ?_
  refine st_local 1 B₃ rfl fun h₄ tk₄ B₄ hs₄ => ?_
  have W₄ := W.keeps T B₄.kp
  refine wpAny_execs_cons (for_range R'.handled (g := h) (fun i own _ => ∃ m vs acc b tb, own = [(a, pPl vs), (L, pNs m)] ∧ m (Str.ofString "ladder") = some (.ref a) ∧ m (Str.ofString "below") = some (.str b tb) ∧ Paired VS vs acc ∧ acc.length = i + 1 ∧ acc ++ climb (ladderN x - i) b = ladderF x ∧ OkC (ladderN x - i) b)
    (fun i own h h' lk e => e) ?_)
  refine range1 W₄ (by rfl) ?_
  refine wpAny_BinOp ?_
  with_reducible refine str_meth F.slot_str_count F.type_str_count ?_
  refine nm_local (B₄.ns 1 rfl) ?_
  refine ⟨_, _, rfl, ?_⟩
  refine callWith_method1 ?_
  refine sp_cons ?_
  refine c_str fun _ _ => ?_
  refine sp_nil ?_
  refine s_count fun _ _ => ?_
  refine c_int fun _ _ => ?_
  refine i_add fun _ _ => ?_
  refine ⟨_, _, _, _, rfl, rfl, fun r h₅ tk₅ t₅ u₅ z₅ k₅ hr => ?_⟩
  refine ⟨r, _, _, _, _, _, _, _, _, rfl, rfl, hr, ⟨by decide, by decide, by omega, by omega⟩, B₄.grow k₅, ⟨_, _, [x], _, _, rfl, rfl, rfl, .cons ⟨_, rfl⟩ .nil, rfl, rfl, ok⟩, fun I p i own' h' tk tk' E₂ hi hJ F' => ?_, fun own' h' tk hJ F' => ?_⟩
  · obtain ⟨m, vs, acc, b, tb, rfl, hml, hmb, hp, hal, hac, hok⟩ := hJ
    have hN : (Txt.count x "." + 1 - 0).toNat = ladderN x := by unfold ladderN; rw [Int.sub_zero]
    have hi' : i < ladderN x := by rw [← hN]; exact hi
    obtain ⟨d, hd⟩ : ∃ d, ladderN x - i = d + 1 := ⟨ladderN x - i - 1, by omega⟩
    rw [hd] at hac hok
    have hd' : ladderN x - (i + 1) = d := by omega
    obtain ⟨hob, hrl, hon⟩ := hok
    refine st_local 2 F' rfl fun h₆ tk₆ F₆ hs₆ => ?_
    have W₆ := W.keeps T F₆.kp
    refine wpAny_execs_cons ?_
    refine wpAny_Assign_Name ?_
    refine call_fn W₆ (f := 64) (by rfl) (by rfl) ?_
    refine sp_cons ?_
    refine nm_local (F₆.ns 2 rfl) ?_ hmb
    refine sp_nil ?_
    refine ⟨W₆.X, ?_⟩
    refine call_reach (k := k) R' W₆ F₆.ti hob fun tr h₇ tk₇ k₇ T₇ => ?_
    have F₇ := F₆.call k₇ T₇
    refine st_local 2 F₇ rfl fun h₈ tk₈ F₈ hs₈ => ?_
    refine wpAny_execs_cons ?_
    refine wpAny_If ?_
    refine wpAny_isTrue_Compare1 ?_
    refine nm_local (F₈.ns 2 rfl) ?_
    refine nm_local (F₈.ns 2 rfl) ?_ hmb
    refine eq_str ?_
    refine wpAny_truthy_bool ?_
    cases e1 : (reachF b == b) with
    | true =>
      refine wpAny_execs_cons ?_
      refine wpAny_Return_some ?_
      refine nm_local (F₈.ns 2 rfl) ?_ hml
      have hcl : climb (d + 1) b = [] := by rw [climb, if_pos e1]
      rw [hcl, List.append_nil] at hac
      exact hq a vs h₈ tk₈ F₈.kp F₈.ti na (F₈.plist 1 rfl).isList (hac ▸ hp)
    | false =>
      refine wpAny_execs_nil ?_
      have hcl : climb (d + 1) b = reachF b :: climb d (Txt.slice (reachF b) (some 1) none) := by rw [climb, if_neg (by rw [e1]; decide)]
      refine wpAny_execs_cons ?_
      refine wpAny_Expr_any ?_
      with_reducible refine list_meth PySem.F.slot_list_append PySem.F.type_list_append ?_
      refine nm_local (F₈.ns 2 rfl) ?_ hml
      refine ⟨_, _, _, _, rfl, rfl, F₈.plist 1 rfl, ?_⟩
      refine callWith_method1 ?_
      refine sp_cons ?_
      refine nm_local (F₈.ns 2 rfl) ?_
      refine sp_nil ?_
      refine l_append 1 F₈ rfl ?_ fun h₉ F₉ hs₉ => ?_
      · have := hp.length; unfold ladderN at hi'; omega
      refine wpAny_execs_cons ?_
      refine wpAny_Assign_Name ?_
      refine sub_from (x := reachF b) (t := tr) ?_ hrl
      refine nm_local (F₉.ns 2 rfl) ?_
      refine ⟨rfl, ?_⟩
      refine c_int fun _ _ => ?_
      refine ⟨_, _, _, _, rfl, rfl, fun h₁₀ t₁₀ tk₁₀ k₁₀ => ?_⟩
      have F₁₀ := F₉.grow k₁₀
      refine st_local 2 F₁₀ rfl fun h₁₁ tk₁₁ F₁₁ hs₁₁ => ?_
      refine wpAny_execs_nil ⟨_, h₁₁, _, rfl, F₁₁, _, _, acc ++ [reachF b], _, _, rfl, hml, rfl, ?_, by rw [List.length_append, hal]; rfl, ?_, ?_⟩
      · exact Paired.append hp (.cons ⟨_, rfl⟩ .nil)
      · rw [hd', List.append_assoc, ← hac, hcl]; rfl
      · rw [hd']; exact hon e1
  · obtain ⟨m, vs, acc, b, tb, rfl, hml, hmb, hp, hal, hac, hok⟩ := hJ
    have hN : (Txt.count x "." + 1 - 0).toNat = ladderN x := by unfold ladderN; rw [Int.sub_zero]
    have hcl : climb (ladderN x - (Txt.count x "." + 1 - 0).toNat) b = [] := by rw [hN, Nat.sub_self]; rfl
    rw [hcl, List.append_nil] at hac
    refine wpAny_execs_cons ?_
    refine wpAny_Return_some ?_
    refine nm_local (F'.ns 1 rfl) ?_ hml
    exact hq a vs h' _ F'.kp F'.ti na (F'.plist 0 rfl).isList (hac ▸ hp)
end
end Mine
end R16

section R17
open PySem PySem.W PyProof.Rows PySem.Calls PySem.Builtin.Str
set_option maxRecDepth 100000
set_option maxHeartbeats 4000000
namespace Mine

/-- how a thing lies as data -/
structure Rp {α : Type} [DecidableEq α] (R : Heap → Value → α → Prop) (G : α → Prop) (d : α → PyData) (k : Nat) : Prop where
  reads : ∀ h v x, R h v x → ∃ as, Reads h v (d x) as
  lay : ∀ x, G x → (d x).canLay0 = true
  dep : ∀ x, (d x).depth ≤ k
  eqv : ∀ x y, PyData.eqv (d x) (d y) = decide (x = y)
theorem Rp.list {α : Type} [DecidableEq α] {R : Heap → Value → α → Prop} {G : α → Prop} {d : α → PyData} {k : Nat} (p : Rp R G d k) : Rp (LOf R) (fun xs => ∀ x ∈ xs, G x) (fun xs => .list (xs.map d)) (k + 1) where
  reads h v xs := by
    rintro ⟨a, vs, rfl, ⟨o, e, hc, n, hd⟩, hp⟩
    have : ∃ as, ReadsAll h vs (xs.map d) as := by
      clear e hc hd
      induction hp with
      | nil => exact ⟨_, .nil⟩
      | cons hx _ ih => obtain ⟨as, r⟩ := p.reads _ _ _ hx; obtain ⟨bs, rs⟩ := ih; exact ⟨_, .cons r rs⟩
    obtain ⟨as, r⟩ := this
    exact ⟨_, .list e hc hd r⟩
  lay xs h := by
    show PyData.canLayAll0 _ = true
    induction xs with
    | nil => rfl
    | cons a r ih => rw [List.map_cons, PyData.canLayAll0, p.lay a (h a (.head _)), ih fun x hx => h x (.tail _ hx)]; rfl
  dep xs := by
    rw [PyData.depth]
    refine Nat.succ_le_succ ?_
    induction xs with
    | nil => exact Nat.zero_le _
    | cons a r ih => rw [List.map_cons, PyData.depthAll]; exact Nat.max_le.mpr ⟨p.dep a, ih⟩
  eqv xs ys := by
    rw [PyData.eqv]
    induction xs generalizing ys with
    | nil => cases ys with
      | nil => rfl
      | cons => rfl
    | cons a r ih => cases ys with
      | nil => rfl
      | cons b t =>
        rw [List.map_cons, List.map_cons, PyData.eqvAll, p.eqv, ih]
        by_cases h : a = b <;> by_cases h' : r = t <;> simp [h, h']
theorem rpS : Rp (fun _ => VS) (fun x => PyData.strOk x = true) PyData.str 0 where
  reads h v x := by rintro ⟨t, rfl⟩; exact ⟨_, .str _ _⟩
  lay x h := h
  dep x := Nat.le_refl _
  eqv x y := by rw [PyData.eqv]; by_cases h : x = y <;> simp [h]
theorem rpI : Rp (fun _ => VI) (fun _ => True) PyData.int 0 where
  reads h v x := by rintro ⟨t, rfl⟩; exact ⟨_, .int _ _⟩
  lay x h := rfl
  dep x := Nat.le_refl _
  eqv x y := by rw [PyData.eqv]; by_cases h : x = y <;> simp [h]
theorem rpB : Rp (fun _ => VB) (fun _ => True) PyData.bool 0 where
  reads h v x := by rintro rfl; exact ⟨_, .bool _⟩
  lay x h := rfl
  dep x := Nat.le_refl _
  eqv x y := by rw [PyData.eqv]; by_cases h : x = y <;> simp [h]

section
variable {prog : Program} {w : World} {A : Around} {s : Shared} {h : Heap} {tk : Nat} {K : Frag} {mg mb : Str → Option Value} {E : Value → Shared → Prop} {Q : Value → Shared → Prop} {env : Env}
theorem d_eq {α : Type} [DecidableEq α] {R : Heap → Value → α → Prop} {G : α → Prop} {d : α → PyData} {k : Nat} (p : Rp R G d k) (hk : k ≤ 64) {n : Nat} (Ro : Rm A n) {a b : Value} {x y : α} (ha : R h a x) (hb : R h b y) (gx : G x) (gy : G y)
    (hq : Q (.bool (decide (x = y))) (St s h tk)) : wpAny (model prog w) A (compareOp .Eq a b) Q E (St s h tk) := by
  obtain ⟨as, ra⟩ := p.reads _ _ _ ha
  obtain ⟨bs, rb⟩ := p.reads _ _ _ hb
  refine eq_dataH (s := St s h tk) ra rb ?_ ?_ Ro.u64 ?_
  · unfold SeqAt.shaped; rw [p.lay x gx, decide_eq_true (Nat.le_trans (p.dep x) hk)]; rfl
  · unfold SeqAt.shaped; rw [p.lay y gy, decide_eq_true (Nat.le_trans (p.dep y) hk)]; rfl
  · rw [p.eqv]; exact hq
theorem d_ne {α : Type} [DecidableEq α] {R : Heap → Value → α → Prop} {G : α → Prop} {d : α → PyData} {k : Nat} (p : Rp R G d k) (hk : k ≤ 64) {n : Nat} (Ro : Rm A n) {a b : Value} {x y : α} (ha : R h a x) (hb : R h b y) (gx : G x) (gy : G y)
    (hq : Q (.bool (!decide (x = y))) (St s h tk)) : wpAny (model prog w) A (compareOp .NotEq a b) Q E (St s h tk) := by
  obtain ⟨as, ra⟩ := p.reads _ _ _ ha
  obtain ⟨bs, rb⟩ := p.reads _ _ _ hb
  refine ne_dataH (s := St s h tk) ra rb ?_ ?_ Ro.u64 ?_
  · unfold SeqAt.shaped; rw [p.lay x gx, decide_eq_true (Nat.le_trans (p.dep x) hk)]; rfl
  · unfold SeqAt.shaped; rw [p.lay y gy, decide_eq_true (Nat.le_trans (p.dep y) hk)]; rfl
  · rw [p.eqv]; exact hq
end

/-- does the wide one, as labels, hold the narrow one -/
def holdsF (wide narrow : List Str) : Bool :=
  if (wide.getLastD "" == Str.ofString "") = true then decide (wide.length ≤ narrow.length) && decide (narrow.take (wide.length - 1) = wide.dropLast) else decide (narrow = wide)

section
variable {prog : Program} {w : World} {A : Around} {s : Shared} {h : Heap} {tk : Nat} {mg mb : Str → Option Value} {E : Value → Shared → Prop} {Q : Value → Shared → Prop} {env : Env}
theorem call_holds {a b : Value} {xs ys : List Str} {k : Nat} (R : Rm A (k + 2)) (W : Wd (KK w) mg mb h) (T : TI h) (ha : SL h a xs) (hb : SL h b ys) (h0 : 0 < xs.length) (hx : xs.length ≤ 1000) (hy : ys.length ≤ 1000) (gx : ∀ x ∈ xs, PyData.strOk x = true) (gy : ∀ x ∈ ys, PyData.strOk x = true)
    (hq : ∀ h' tk', Kp h h' → TI h' → Q (.bool (holdsF xs ys)) (St s h' tk')) : wpAny (model prog w) A (call (.ref 129) [a, b]) Q E (St s h tk) := by
  refine enter (binds := [(Str.ofString "wide", a), (Str.ofString "narrow", b)]) R W T (by rfl) (by rfl) (BindsTo.of_eq rfl) (locs rfl) (fun L h₁ tk₁ E' B R' => ?_) rfl rfl rfl (by decide)
  have W₁ := W.keeps T B.kp
  have ha₁ := ha.mono (B.kp.lk T)
  have hb₁ := hb.mono (B.kp.lk T)
  obtain ⟨la, va, rfl, hla, hpa⟩ := id ha₁
  obtain ⟨lb, vb, rfl, hlb, hpb⟩ := id hb₁
  have hal := hpa.length
  have hbl := hpb.length
  obtain ⟨tl, htl⟩ := last_of hpa (by omega)
  refine wpAny_execs_cons ?_
  refine wpAny_If ?_
  refine wpAny_isTrue_Compare1 ?_
  refine Subscript_ ?_
  refine nm_local (B.ns 0 rfl) ?_
  refine wpAny_UnaryOp ?_
  refine c_int fun _ _ => ?_
  refine i_neg fun _ _ => ?_
  refine item_neg hla (by decide) (by omega) (by decide) htl ?_
  refine c_str fun _ _ => ?_
  refine eq_str ?_
  refine wpAny_truthy_bool ?_
  cases e1 : (xs.getLastD "" == Str.ofString "") with
  | true =>
    have er : holdsF xs ys = (decide (xs.length ≤ ys.length) && decide (ys.take (xs.length - 1) = xs.dropLast)) := by unfold holdsF; rw [if_pos e1]
    refine wpAny_execs_cons ?_
    refine wpAny_Return_some ?_
    refine wpAny_And2 ?_
    refine wpAny_Compare1 ?_
    refine r_len W₁ (by rfl) ?_
    refine nm_local (B.ns 0 rfl) ?_
    refine ⟨_, _, _, _, rfl, rfl, hlb, by omega, fun _ _ => ?_⟩
    refine r_len W₁ (by rfl) ?_
    refine nm_local (B.ns 0 rfl) ?_
    refine ⟨_, _, _, _, rfl, rfl, hla, by omega, fun _ _ => ?_⟩
    refine P.ge_int ?_
    refine wpAny_truthy_bool ?_
    rw [show decide ((vb.length : Int) ≥ va.length) = decide (xs.length ≤ ys.length) by rw [hal, hbl]; exact decide_eq_decide.mpr (by omega)]
    cases e2 : decide (xs.length ≤ ys.length) with
    | false =>
      rw [e2] at er
      rw [show holdsF xs ys = false from er] at hq
      exact hq _ _ B.kp B.ti
    | true =>
      rw [e2, Bool.true_and] at er
      refine wpAny_Compare1 ?_
      refine l_slice ?_
      refine nm_local (B.ns 0 rfl) ?_
      refine wpAny_evalPart_none ?_
      refine wpAny_evalPart_some ?_
      refine wpAny_BinOp ?_
      refine r_len W₁ (by rfl) ?_
      refine nm_local (B.ns 0 rfl) ?_
      refine ⟨_, _, _, _, rfl, rfl, hla, by omega, fun _ _ => ?_⟩
      refine c_int fun _ _ => ?_
      refine i_sub fun _ _ => ?_
      refine ⟨_, _, _, _, _, _, rfl, rfl, hlb, by omega, .none, .int _ _, fun a₂ h₂ k₂ n₂ hl₂ => ?_⟩
      have B₂ := B.grow k₂
      refine l_slice ?_
      refine nm_local (B₂.ns 0 rfl) ?_
      refine wpAny_evalPart_none ?_
      refine wpAny_evalPart_some ?_
      refine wpAny_UnaryOp ?_
      refine c_int fun _ _ => ?_
      refine i_neg fun _ _ => ?_
      refine ⟨_, _, _, _, _, _, rfl, rfl, (lk_stays k₂).isList hla, by omega, .none, .int _ _, fun a₃ h₃ k₃ n₃ hl₃ => ?_⟩
      have B₃ := B₂.grow k₃
      have p₂ := Paired.sl hpb none (some ((va.length : Int) - 1))
      have p₃ := Paired.sl hpa none (some (-1))
      rw [show ((va.length : Int) - 1) = ((xs.length - 1 : Nat) : Int) by omega] at p₂ hl₂
      rw [sl_upto, sl_upto] at p₂
      rw [sl_upto] at hl₂
      rw [sl_init, sl_init] at p₃
      rw [sl_init] at hl₃
      refine d_eq rpS.list (by decide) R' ⟨_, _, rfl, (lk_stays k₃).isList hl₂, p₂⟩ ⟨_, _, rfl, hl₃, p₃⟩ (fun x hx => gy x (List.mem_of_mem_take hx)) (fun x hx => gx x ((List.dropLast_sublist xs).subset hx)) ?_
      rw [er] at hq
      exact hq _ _ B₃.kp B₃.ti
  | false =>
    have er : holdsF xs ys = decide (ys = xs) := by unfold holdsF; rw [if_neg (by rw [e1]; decide)]
    refine wpAny_execs_nil ?_
    refine wpAny_execs_cons ?_
    refine wpAny_Return_some ?_
    refine wpAny_Compare1 ?_
    refine nm_local (B.ns 0 rfl) ?_
    refine nm_local (B.ns 0 rfl) ?_
    refine d_eq rpS.list (by decide) R' hb₁ ha₁ gy gx ?_
    rw [er] at hq
    exact hq _ _ B.kp B.ti
end
end Mine
end R17

section R18
open PySem PySem.W PyProof.Rows PySem.Calls PySem.Builtin.Str
set_option maxRecDepth 100000
set_option maxHeartbeats 4000000
namespace Mine

theorem codeAmong_app (pos : Pos) (r l : List Value) (h : TriplesOk l) : codeAmong pos (l ++ r) = (codeAmong pos l).or (codeAmong pos r) := by
  fun_induction TriplesOk l with
  | case1 => simp [codeAmong]
  | case2 a t b u x rest ih =>
    simp only [List.cons_append, codeAmong]
    split
    · rfl
    · exact ih h
  | case3 l h1 h2 => exact h.elim
theorem triples_1 {l : List Value} (h : TriplesOk l) {q : Str} {t : Tok} : l[1]? ≠ some (.str q t) := by
  fun_induction TriplesOk l with
  | case1 => simp
  | case2 a t b u x rest ih => simp
  | case3 l h1 h2 => exact h.elim
theorem Tab.noStr {h : Heap} {c P : Addr} {q : Str} (x : Tab h c P q) {o : Obj} {vs : Array Value} {q' : Str} {t : Tok} (e : h.get? P = some o) (hd : o.data = .fields vs) : vs[1]? ≠ some (.str q' t) := by
  obtain ⟨ps, e', ht, _⟩ := x.tab
  rw [e] at e'; cases e'; cases hd
  intro q
  exact triples_1 (q := q') (t := t) ht (by rw [← q]; simp)
theorem TI.code {h h' : Heap} (T : TI h) (k : Kp h h') {cd : Value} {q : Str} (x : h.CodeRec cd q) : h'.CodeRec cd q := by
  obtain ⟨c, o, vs, t, e, g, hd, r⟩ := x
  refine ⟨c, o, vs, t, e, k _ _ (fun m => ?_) g, hd, r⟩
  simp only [tabs, List.mem_cons, List.not_mem_nil, or_false] at m
  rcases m with rfl | rfl | rfl
  · exact T.t1.noStr g hd r
  · exact T.t2.noStr g hd r
  · exact T.t3.noStr g hd r
/-- another table grows -/
theorem Tab.aside {h h' : Heap} {c P c₀ P₀ : Addr} {q q₀ : Str} (x : Tab h c P q) (x₀ : Tab h c₀ P₀ q₀) (k : Heap.ExtBut P₀ h h') (hP : P ≠ P₀) : Tab h' c P q := by
  obtain ⟨ps, e, t, r⟩ := x.tab
  obtain ⟨ps₀, e₀, t₀, r₀⟩ := id x₀.tab
  obtain ⟨o₁, vs, f, tf, fl, tg, b, n, tt, e1, e2, e3, rest⟩ := x.code
  have hc : c ≠ P₀ := by rintro rfl; rw [e₀] at e1; cases e1; cases e2
  refine ⟨⟨o₁, vs, f, tf, fl, tg, b, n, tt, k _ _ hc e1, e2, e3, rest⟩, ps, k _ _ hP e, t, fun pos => (r pos).imp id ?_⟩
  rintro ⟨c', e', c₂, o₂, vs₂, t₂, g1, g2, g3, g4⟩
  exact ⟨c', e', c₂, o₂, vs₂, t₂, g1, k _ _ (by rintro rfl; exact x₀.noStr g2 g3 g4) g2, g3, g4⟩
/-- the table grows -/
theorem Tab.more {h h' : Heap} {c P c' : Addr} {q : Str} {pos : Pos} {ps : Array Value} (x : Tab h c P q) (k : Heap.ExtBut P h h') (hP : h.get? P = some (tabObj ps)) (hr : h'.CodeRec (.ref c') q) (hP' : h'.get? P = some (tabObj (ps ++ #[rawInt pos.line, rawInt pos.col, .ref c']))) : Tab h' c P q := by
  obtain ⟨ps₀, e, t, r⟩ := id x.tab
  rw [hP] at e; cases e
  obtain ⟨o₁, vs, f, tf, fl, tg, b, n, tt, e1, e2, e3, rest⟩ := x.code
  have hc : c ≠ P := by rintro rfl; rw [hP] at e1; cases e1; cases e2
  refine ⟨⟨o₁, vs, f, tf, fl, tg, b, n, tt, k _ _ hc e1, e2, e3, rest⟩, _, hP', ?_, fun pos' => ?_⟩
  · rw [Array.toList_append]; exact TriplesOk_snoc _ _ _ _ t
  · rw [Array.toList_append, codeAmong_app _ _ _ t]
    rcases r pos' with h0 | ⟨c₁, h1, c₂, o₂, vs₂, t₂, g1, g2, g3, g4⟩
    · rw [h0]
      show codeAmong pos' [rawInt pos.line, rawInt pos.col, .ref c'] = none ∨ _
      simp only [rawInt, codeAmong]
      split
      · exact .inr ⟨c', rfl, hr⟩
      · exact .inl rfl
    · rw [h1]
      exact .inr ⟨c₁, rfl, c₂, o₂, vs₂, t₂, g1, k _ _ (by rintro rfl; exact x.noStr g2 g3 g4) g2, g3, g4⟩

/-- a lambda's object -/
def IsLam (h : Heap) (f : Addr) (q : Str) (params : Arguments) (body : Expr) (scope : Scope) (clos : List (Str × Addr)) : Prop :=
  ∃ pm c' ctv, h.get? f = some (kla_obj "<lambda>" q params body scope clos pm c' ctv) ∧ h.CodeRec (.ref c') q
theorem IsLam.keep {h h' : Heap} {f : Addr} {q : Str} {params : Arguments} {body : Expr} {scope : Scope} {clos : List (Str × Addr)} (x : IsLam h f q params body scope clos) (T : TI h) (k : Kp h h') : IsLam h' f q params body scope clos := by
  obtain ⟨pm, c', ctv, e, r⟩ := x
  exact ⟨pm, c', ctv, k _ _ (T.offD e fun ps q => by cases q) e, T.code k r⟩

section
variable {prog : Program} {w : World} {M : Model} {A : Around} {s : Shared} {h : Heap} {tk : Nat} {K : Frag} {mg mb : Str → Option Value} {E : Value → Shared → Prop} {Q : Value → Shared → Prop} {env : Env}
theorem lam_ {params : Arguments} {body : Expr} {scope : Scope} {pos : Pos} {clos : List (Str × Addr)} {c P : Addr} {q : Str} (W : Wd K mg mb h) (T : TI h) (hP : P ∈ tabs) (X : Tab h c P q)
    (hT : ∀ h', Heap.ExtBut P h h' → Tab h' c P q → TI h')
    (hq : ∀ f h' tk', Kp h h' → TI h' → h.get? f = none → IsLam h' f q params body scope clos → Q (.ref f) (St s h' tk'))
    (hcode : env.code = .ref c := by rfl) (hqu : env.qual ++ "<lambda>" = q := by rfl) (hcl : closureFor scope env = pure clos := by rfl) (hg : env.globals = mainGlobals := by rfl) (hdef : defaultsOf params env = ([], []) := by rfl) :
    wpAny M A (eval (.Lambda params body scope pos) env) Q E (St s h tk) := by
  refine kla_eval hdef ?_
  rw [hqu]
  obtain ⟨ps, e, t, r⟩ := X.tab
  obtain ⟨bm, ob, b1, b2, b3, b4, b5, b6⟩ := W.bm
  have hgP : mainGlobals ≠ P := fun q => by
    obtain ⟨o, es, ep, e', hd, _⟩ := W.g
    rw [q, e] at e'; cases e'; cases hd
  have hbP : bm ≠ P := fun q => by rw [q, e] at b3; cases b3; cases b4
  have hbG : bm ≠ mainGlobals := fun q => by
    obtain ⟨o, es, ep, e, hd, _⟩ := W.g
    rw [q, e] at b3; cases b3; rw [hd] at b6; cases b6
  rcases r pos with h0 | ⟨c', h1, hr⟩
  · refine kla_makeFunction (s := St s h tk) (mg := mg) hcl hg W.g hcode X.code e t h0 hgP ⟨bm, ob, b1, b2, hbG, hbP, b3, b4, b5, b6⟩ fun c' ctv h' tk' hx hge hlt hrec htb => ?_
    have X' := X.more hx e hrec htb
    have T' := hT h' hx X'
    have hn : h'.get? h'.objs.size = none := get_none (Nat.le_refl _)
    have k' : Kp h h' := fun b o hb e => hx b o (by rintro rfl; exact hb hP) e
    refine hq _ _ _ (k'.trans (.of (stays_push _ _))) (T'.stays (stays_push _ _)) (k'.none (T'.new hn) hn) ⟨_, _, _, Heap.get?_push_size _ rfl, hrec.push _⟩
  · refine kla_makeFunctionHit (s := St s h tk) (mg := mg) hcl hg W.g hcode X.code e t h1 ⟨bm, ob, b1, b2, hbG, hbP, b3, b4, b5, b6⟩ fun ctv h' tk' hk hsz => ?_
    have T' := T.stays hk
    have hn : h'.get? h'.objs.size = none := get_none (Nat.le_refl _)
    have k' : Kp h h' := .of hk
    refine hq _ _ _ (k'.trans (.of (stays_push _ _))) (T'.stays (stays_push _ _)) (k'.none (T'.new hn) hn) ⟨_, _, _, Heap.get?_push_size _ rfl, (hr.keeps hk).push _⟩

theorem enterL {q : Str} {params : Arguments} {body : Expr} {scope : Scope} {clos : List (Str × Addr)} {f : Addr} {pos : List Value} {binds : List (Str × Value)} {k : Nat}
    (R : Rm A (k + 1)) (W : Wd K mg mb h) (T : TI h) (ho : IsLam h f q params body scope clos) (hbind : ∀ pm c' ctv, bindArgs (kla_fn "<lambda>" q params body scope clos pm (.ref c') ctv) ⟨pos, []⟩ = pure binds) (hloc : ∀ y ∈ binds, scope.names.lookup y.1 = some .local)
    (hq : ∀ L c' h₁ tk₁ E', Fm h [(L, pNs fun y => binds.reverse.lookup y)] h₁ → Rm (A.deeper (envX q scope L f (.ref c') clos)) k →
      wpAny (model prog w) (A.deeper (envX q scope L f (.ref c') clos)) (eval body (envX q scope L f (.ref c') clos)) Q E' (St s h₁ tk₁))
    (hco : scope.isCoroutine = false) (hgen : scope.isGenerator = false) (hk : scope.kind = .function) (hcell : ∀ x ∈ scope.names, x.2 ≠ .cell) :
    wpAny (model prog w) A (call (.ref f) pos) Q E (St s h tk) := by
  obtain ⟨pm, c', ctv, e, r⟩ := ho
  refine wpAny_call (kla_callFunE (s := St s h tk) R.room e rfl hco hgen rfl r ?_)
  rw [hbind]
  refine wpAny_pure (wpAny_newFunctionEnv hcell hloc (fun h₁ hns hsb => ⟨(W.lim).fresh _ hsb, ?_⟩) hk)
  show codeAny _ _ (.expr body (envX q scope h.objs.size f (.ref c') clos)) _ (St s h₁ _)
  have hk₁ : h.StaysIn h₁ := fun b o e => hsb.extBut b o (Nat.ne_of_lt (Heap.lt_size e)) (Heap.get?_push_of_some _ e)
  have F : Fm h [(h.objs.size, pNs fun y => binds.reverse.lookup y)] h₁ :=
    (Fm.nil T).own1 hk₁ (get_none (Nat.le_refl _)) (by obtain ⟨o, es, ep, e, r⟩ := hns; exact ⟨o, e, es, ep, r⟩) pNs_plain
  exact kla_codeExpr (hq h.objs.size c' h₁ _ _ F R.deeper)
end
end Mine
end R18

section R19
open PySem PySem.W PyProof.Rows PySem.Calls PySem.Builtin.Str
set_option maxRecDepth 100000
set_option maxHeartbeats 4000000
namespace Mine

/-- a key that answers for each item of a list -/
def KeyOk (prog : Program) (w : World) (s : Shared) (h : Heap) (f : Addr) (j : Nat) (vs : List Value) (G : Nat → Heap → Value → Prop) : Prop :=
  ∀ A i v h' tk' E (Q : Value → Shared → Prop), Rm A j → vs[i]? = some v → Kp h h' → TI h' → (∀ y h'' tk'', Kp h' h'' → TI h'' → G i h'' y → Q y (St s h'' tk'')) → wpAny (model prog w) A (call (.ref f) [v]) Q E (St s h' tk')
theorem fnAt_keep {h h' : Heap} {f : Addr} (T : TI h) (k : Kp h h') (x : FnAt f h) : FnAt f h' := let ⟨oc, od, fd, sl, e⟩ := x; ⟨oc, od, fd, sl, k _ _ (T.offD e fun _ q => by cases q) e⟩
theorem IsLam.fnAt {h : Heap} {f : Addr} {q : Str} {params : Arguments} {body : Expr} {scope : Scope} {clos : List (Str × Addr)} (x : IsLam h f q params body scope clos) : FnAt f h := let ⟨_, _, _, e, _⟩ := x; ⟨_, _, _, _, e⟩
/-- how a call of the def at f binds -/
def Binds (w : World) (f : Addr) (s : Shared) (h : Heap) (tk : Nat) (pos : List Value) (kw binds : List (Str × Value)) : Prop :=
  ∀ oc od osl fd, (KK w).lookup f = some ⟨oc, od, .func fd, osl⟩ → BindsTo (St s h tk) fd ⟨pos, kw⟩ binds
/-- the names of a search -/
structure BNames (m : Str → Option Value) (a : Addr) (x : Value) (lo hi : Nat) (f : Addr) : Prop where
  a : m (Str.ofString "a") = some (.ref a)
  x : m (Str.ofString "x") = some x
  lo : ∃ t, m (Str.ofString "lo") = some (.int lo t)
  hi : ∃ t, m (Str.ofString "hi") = some (.int hi t)
  key : m (Str.ofString "key") = some (.ref f)
theorem not_lt0 (n : Nat) : decide ((n : Int) < 0) = false := decide_eq_false (by omega)

section
variable {prog : Program} {w : World} {A : Around} {s : Shared} {h : Heap} {tk : Nat} {mg mb : Str → Option Value} {E : Value → Shared → Prop} {Q : Value → Shared → Prop} {env : Env}
theorem execs_join {M : Model} {st : Stmt} {rest : List Stmt} (P : Shared → Prop) {Q : Flow → Shared → Prop} {s : Shared} (h1 : wpAny M A (exec st env) (fun fl s' => match fl with | .next => P s' | fl => Q fl s') E s) (h2 : ∀ s', P s' → wpAny M A (execs rest env) Q E s') : wpAny M A (execs (st :: rest) env) Q E s :=
  wpAny_execs_cons (wpAny_mono h1 (fun fl s' h => by cases fl <;> first | exact h2 s' h | exact h) fun _ _ e => e)

theorem call_bisL {a f : Addr} {vs : List Value} {kf : Nat → Bool} {lo hi : Nat} {tl : Tok} {hv : Value} {pos : List Value} {kw binds : List (Str × Value)} {j : Nat} (R : Rm A (j + 1)) (W : Wd (KK w) mg mb h) (T : TI h)
    (hb : Binds w 91 s h tk pos kw binds) (hn : ∀ y ∈ binds, y.1 ∈ [Str.ofString "a", Str.ofString "x", Str.ofString "lo", Str.ofString "hi", Str.ofString "key"])
    (ba : binds.reverse.lookup (Str.ofString "a") = some (.ref a)) (bx : binds.reverse.lookup (Str.ofString "x") = some (.bool true)) (bl : binds.reverse.lookup (Str.ofString "lo") = some (.int lo tl)) (bh : binds.reverse.lookup (Str.ofString "hi") = some hv) (bk : binds.reverse.lookup (Str.ofString "key") = some (.ref f))
    (hl : h.IsList a (List.toArray vs)) (hsz : vs.length ≤ 1000) (hf : FnAt f h) (key : KeyOk prog w s h f j vs (fun i _ y => y = .bool (kf i))) (hhv : (hv = .none ∧ hi = vs.length) ∨ ∃ t, hv = .int hi t) (hle : lo ≤ hi) (hhi : hi ≤ vs.length)
    (hq : ∀ (p : Nat) t' h' tk', Kp h h' → TI h' → lo ≤ p → p ≤ hi → (p = lo ∨ kf (p - 1) = false) → (p = hi ∨ kf p = true) → Q (.int p t') (St s h' tk')) : wpAny (model prog w) A (call (.ref 91) pos kw) Q E (St s h tk) := by
  refine enter (binds := binds) R W T (by rfl) (by rfl) (hb _ _ _ _ (by rfl)) (by intro y hy; have := hn y hy; revert this; generalize y.1 = n; revert n; decide) (fun L h₁ tk₁ E' B R' => ?_) rfl rfl rfl (by decide)
  have W₁ := W.keeps T B.kp
  have hl₁ := (B.kp.lk T).isList hl
  refine wpAny_execs_cons ?_
  refine wpAny_If ?_
  refine wpAny_isTrue_Compare1 ?_
  refine nm_local (B.ns 0 rfl) ?_ bl
  refine c_int fun _ _ => ?_
  refine P.lt_int ?_
  refine wpAny_truthy_bool ?_
  rw [not_lt0 lo]
  refine wpAny_execs_nil ?_
  refine execs_join (fun s' => ∃ h₂ tk₂ m, s' = St s h₂ tk₂ ∧ Fm h [(L, pNs m)] h₂ ∧ BNames m a (.bool true) lo hi f) ?_ ?_
  · refine wpAny_If ?_
    refine wpAny_isTrue_Compare1 ?_
    refine nm_local (B.ns 0 rfl) ?_ bh
    refine wpAny_Constant_none ?_
    refine is_none_gen ?_
    refine wpAny_truthy_bool ?_
    rcases hhv with ⟨rfl, rfl⟩ | ⟨t, rfl⟩
    · refine wpAny_execs_cons ?_
      refine wpAny_Assign_Name ?_
      refine r_len W₁ (by rfl) ?_
      refine nm_local (B.ns 0 rfl) ?_ ba
      refine ⟨_, _, _, _, rfl, rfl, hl₁, by omega, fun _ _ => ?_⟩
      refine st_local 0 B rfl fun h₂ tk₂ B₂ _ => wpAny_execs_nil ⟨h₂, tk₂, _, rfl, B₂, ba, bx, ⟨_, bl⟩, ⟨_, rfl⟩, bk⟩
    · exact wpAny_execs_nil ⟨h₁, _, _, rfl, B, ba, bx, ⟨_, bl⟩, ⟨_, bh⟩, bk⟩
  · rintro s' ⟨h₂, tk₂, m, rfl, B₂, N⟩
    refine wpAny_execs_cons ?_
    refine wpAny_If ?_
    refine wpAny_isTrue_Compare1 ?_
    refine nm_local (B₂.ns 0 rfl) ?_ N.key
    refine wpAny_Constant_none ?_
    refine is_none_ne (by nofun) ?_
    refine wpAny_truthy_bool ?_
    refine wpAny_execs_cons ?_
    refine wpAny_While (codeAny_whileLoop (fun n s' => ∃ (lo' hi' : Nat) (h₃ : Heap) (tk₃ : Nat) (m : Str → Option Value), s' = St s h₃ tk₃ ∧ Fm h [(L, pNs m)] h₃ ∧ BNames m a (.bool true) lo' hi' f ∧ lo ≤ lo' ∧ lo' ≤ hi' ∧ hi' ≤ hi ∧ (lo' = lo ∨ kf (lo' - 1) = false) ∧ (hi' = hi ∨ kf hi' = true) ∧ n = hi' - lo') ?_ (hi - lo)
      ⟨lo, hi, h₂, tk₂, m, rfl, B₂, N, Nat.le_refl _, hle, Nat.le_refl _, .inl rfl, .inl rfl, rfl⟩)
    intro n s' hI
    obtain ⟨lo', hi', h₃, tk₃, m, rfl, B₃, N, b1, b2, b3, b4, b5, rfl⟩ := hI
    obtain ⟨tlo, hlo⟩ := N.lo
    obtain ⟨thi, hhi'⟩ := N.hi
    refine wpAny_isTrue_Compare1 ?_
    refine nm_local (B₃.ns 0 rfl) ?_ hlo
    refine nm_local (B₃.ns 0 rfl) ?_ hhi'
    refine P.lt_int ?_
    refine wpAny_truthy_bool ?_
    by_cases hlt : lo' < hi'
    · rw [decide_eq_true (show (lo' : Int) < hi' by omega)]
      rw [if_pos rfl]
      refine wpAny_execs_cons ?_
      refine wpAny_Assign_Name ?_
      refine wpAny_BinOp ?_
      refine wpAny_BinOp ?_
      refine nm_local (B₃.ns 0 rfl) ?_ hlo
      refine nm_local (B₃.ns 0 rfl) ?_ hhi'
      refine i_add fun _ _ => ?_
      refine c_int fun _ _ => ?_
      refine i_div (by decide) (by decide) fun _ _ => ?_
      rw [show ((lo' : Int) + hi').fdiv 2 = ((lo' + hi') / 2 : Nat) by rw [Int.fdiv_eq_ediv_of_nonneg _ (by decide)]; omega]
      refine st_local 0 B₃ rfl fun h₄ tk₄ B₄ hs₄ => ?_
      have W₄ := W.keeps T B₄.kp
      have hl₄ := (B₄.kp.lk T).isList hl
      have hmid : (lo' + hi') / 2 < vs.length := by omega
      have hF₄ := fnAt_keep T B₄.kp hf
      refine wpAny_execs_cons ?_
      refine wpAny_If ?_
      refine wpAny_isTrue_Compare1 ?_
      refine wpAny_Call_ofName ?_
      refine nm_local (B₄.ns 0 rfl) ?_ N.key
      refine callWith_F hF₄ ?_ rfl rfl
      refine sp_cons ?_
      refine Subscript_ ?_
      refine nm_local (B₄.ns 0 rfl) ?_ N.a
      refine nm_local (B₄.ns 0 rfl) ?_
      refine item_l hl₄ (by omega) (by omega) (x := vs[(lo' + hi') / 2]) (by rw [Int.toNat_natCast]; exact List.getElem?_eq_getElem hmid) ?_
      refine sp_nil ?_
      refine ⟨hF₄, ?_⟩
      refine key _ _ _ _ _ _ _ R' (List.getElem?_eq_getElem hmid) B₄.kp B₄.ti fun y h₅ tk₅ k₅ T₅ hy => ?_
      subst hy
      have B₅ := B₄.call k₅ T₅
      refine nm_local (B₅.ns 0 rfl) ?_ N.x
      refine lt_bool ?_
      refine wpAny_truthy_bool ?_
      cases hkm : kf ((lo' + hi') / 2) with
      | false =>
        refine wpAny_execs_cons ?_
        refine wpAny_Assign_Name ?_
        refine wpAny_BinOp ?_
        refine nm_local (B₅.ns 0 rfl) ?_
        refine c_int fun _ _ => ?_
        refine i_add fun _ _ => ?_
        rw [show (((lo' + hi') / 2 : Nat) : Int) + 1 = ((lo' + hi') / 2 + 1 : Nat) by omega]
        refine st_local 0 B₅ rfl fun h₆ tk₆ B₆ _ => wpAny_execs_nil (wpAny_execs_nil ⟨hi' - ((lo' + hi') / 2 + 1), by omega, _, hi', h₆, tk₆, _, rfl, B₆, ⟨N.a, N.x, ⟨_, rfl⟩, N.hi, N.key⟩, by omega, by omega, b3, .inr hkm, b5, rfl⟩)
      | true =>
        refine wpAny_execs_cons ?_
        refine wpAny_Assign_Name ?_
        refine nm_local (B₅.ns 0 rfl) ?_
        refine st_local 0 B₅ rfl fun h₆ tk₆ B₆ _ => wpAny_execs_nil (wpAny_execs_nil ⟨(lo' + hi') / 2 - lo', by omega, lo', _, h₆, tk₆, _, rfl, B₆, ⟨N.a, N.x, N.lo, ⟨_, rfl⟩, N.key⟩, b1, by omega, by omega, b4, .inr hkm, rfl⟩)
    · rw [decide_eq_false (show ¬ (lo' : Int) < hi' by omega)]
      refine wpAny_execs_nil ?_
      refine wpAny_execs_nil ?_
      refine wpAny_execs_cons ?_
      refine wpAny_Return_some ?_
      refine nm_local (B₃.ns 0 rfl) ?_ hlo
      have : lo' = hi' := by omega
      subst this
      exact hq lo' _ _ _ B₃.kp B₃.ti b1 b3 b4 b5
end
end Mine
end R19

section R20
open PySem PySem.W PyProof.Rows PySem.Calls PySem.Builtin.Str
set_option maxRecDepth 100000
set_option maxHeartbeats 4000000
namespace Mine
open AutoSeq1 (wpAny_loadPart')
open MeetsSeq MeetsSeq2 MeetsSeq3

def ltS (x y : Str) : Bool := decide (x.cps.toList < y.cps.toList)
def ltL : List Str → List Str → Bool
  | [], [] => false
  | [], _ :: _ => true
  | _ :: _, [] => false
  | x :: xs, y :: ys => if (x == y) = true then ltL xs ys else ltS x y

theorem lt_loopAt (l b : Addr) (vs ws : List Value) (xs ys : List Str) (n n2 : Nat) (dd dd2 : Option Addr) (sl sl2 : Array (Option Value)) (hx : Paired VS vs xs) (hy : Paired VS ws ys) (k : Nat) :
    ∀ i : Nat, i ≤ vs.length → vs.length - i = k → Meets (Builtin.«list.__eq__.loop» ⟨[.ref l, .ref b, rawInt i, rawInt 0], []⟩)
      (fun A R s => s.heap.get? l = some { cls := .type "list", dict := dd, data := .seq vs.toArray n, slots := sl } ∧ s.heap.get? b = some { cls := .type "list", dict := dd2, data := .seq ws.toArray n2, slots := sl2 } ∧
        R (.ok (.ret (.bool (ltL (xs.drop i) (ys.drop i))))) s) := by
  have lx := hx.length
  have ly := hy.length
  induction k with
  | zero =>
    intro i hik hk prog w A R s h
    obtain ⟨hp, g, d, tk, os⟩ := s; obtain ⟨hl, hb, h⟩ := h
    wp_walk using wpAny_loadPart' hl, wpAny_loadPart' hb
    have hi1 : vs.toArray[((i : Nat) : Int).toNat]? = none := by simp; omega
    have hd : xs.drop i = [] := List.drop_eq_nil_of_le (by omega)
    rw [hi1]
    wp_walk using wpAny_loadPart' hl, wpAny_loadPart' hb
    show R (.ok (.ret (.bool (decide (vs.toArray.size < ws.toArray.size))))) _
    have hi0 : i = vs.length := by omega
    rw [hd] at h
    by_cases hlt2 : i < ys.length
    · rw [List.drop_eq_getElem_cons hlt2] at h
      rw [decide_eq_true (by simp; omega)]
      exact h
    · rw [List.drop_eq_nil_of_le (Nat.le_of_not_lt hlt2)] at h
      rw [decide_eq_false (by simp; omega)]
      exact h
  | succ k ih =>
    intro i hik hk prog w A R s h
    obtain ⟨hp, g, d, tk, os⟩ := s; obtain ⟨hl, hb, h⟩ := h
    wp_walk using wpAny_loadPart' hl, wpAny_loadPart' hb
    have hlt : i < vs.length := by omega
    have hltx : i < xs.length := by omega
    obtain ⟨v, hv, t, rfl⟩ := Paired.get hx (List.getElem?_eq_getElem hltx)
    have hi1 : vs.toArray[((i : Nat) : Int).toNat]? = some (.str xs[i] t) := by rw [Int.toNat_natCast, List.getElem?_toArray]; exact hv
    have hdx : xs.drop i = xs[i] :: xs.drop (i + 1) := List.drop_eq_getElem_cons hltx
    have hc : ((i : Int) + 1) = ((i + 1 : Nat) : Int) := by push_cast; rfl
    rw [hi1]
    by_cases hlt2 : i < ws.length
    · have hlty : i < ys.length := by omega
      obtain ⟨v', hv', t', rfl⟩ := Paired.get hy (List.getElem?_eq_getElem hlty)
      have hi2 : ws.toArray[((i : Nat) : Int).toNat]? = some (.str ys[i] t') := by rw [Int.toNat_natCast, List.getElem?_toArray]; exact hv'
      have hdy : ys.drop i = ys[i] :: ys.drop (i + 1) := List.drop_eq_getElem_cons hlty
      rw [hi2]
      rw [hdx, hdy, ltL] at h
      refine wpAny_bind (SeqAt.EqAt.str_str _ _ _ _ prog w _ _ ?_)
      cases hb' : (xs[i] == ys[i]) with
      | true =>
        rw [if_pos hb'] at h
        wp_walk
        rw [hc]
        exact ⟨plainId_quiet plain_eq_loop _, codeAny_builtin entry_eq_loop (by
          rw [Around.under_plainId plain_eq_loop _]
          exact ih (i + 1) (by omega) (by omega) prog w A R _ ⟨hl, hb, h⟩)⟩
      | false =>
        rw [if_neg (by rw [hb']; decide)] at h
        wp_walk using wpAny_loadPart' hl, wpAny_loadPart' hb
        rw [hi1, hi2]
        refine wpAny_bind (lt_str ?_)
        wp_walk
        exact h
    · have hi2 : ws.toArray[((i : Nat) : Int).toNat]? = none := by simp; omega
      have hdy : ys.drop i = [] := List.drop_eq_nil_of_le (by omega)
      rw [hi2]
      rw [hdx, hdy] at h
      wp_walk using wpAny_loadPart' hl, wpAny_loadPart' hb
      show R (.ok (.ret (.bool (decide (vs.toArray.size < ws.toArray.size))))) _
      rw [decide_eq_false (by simp; omega)]
      exact h
theorem list_ltAt (l b : Addr) (vs ws : List Value) (xs ys : List Str) (n n2 : Nat) (dd dd2 : Option Addr) (sl sl2 : Array (Option Value)) (hx : Paired VS vs xs) (hy : Paired VS ws ys) :
    Meets (Builtin.«list.__lt__» ⟨[.ref l, .ref b], []⟩)
      (fun A R s => s.heap.get? l = some { cls := .type "list", dict := dd, data := .seq vs.toArray n, slots := sl } ∧ s.heap.get? b = some { cls := .type "list", dict := dd2, data := .seq ws.toArray n2, slots := sl2 } ∧
        R (.ok (.ret (.bool (ltL xs ys)))) s) := by
  intro prog w A R s h
  obtain ⟨hp, g, d, tk, os⟩ := s; obtain ⟨hl, hb, h⟩ := h
  have f3 := AutoSeq1.sub_list_list
  wp_walk using wpAny_loadPart' hl, wpAny_loadPart' hb
  exact ⟨plainId_quiet plain_eq_loop _, codeAny_builtin entry_eq_loop (by
    rw [Around.under_plainId plain_eq_loop _]
    exact lt_loopAt l b vs ws xs ys n n2 dd dd2 sl sl2 hx hy _ 0 (Nat.zero_le _) rfl prog w A R _ ⟨hl, hb, by simpa using h⟩)⟩

section
variable {prog : Program} {w : World} {A : Around} {s : Shared} {h : Heap} {tk : Nat} {K : Frag} {mg mb : Str → Option Value} {E : Value → Shared → Prop} {Q : Value → Shared → Prop} {env : Env}
theorem l_lt {n : Nat} (Ro : Rm A n) {a b : Value} {xs ys : List Str} (ha : SL h a xs) (hb : SL h b ys) (hq : Q (.bool (ltL xs ys)) (St s h tk)) : wpAny (model prog w) A (compareOp .Lt a b) Q E (St s h tk) := by
  obtain ⟨l, vs, rfl, hl, hx⟩ := ha
  obtain ⟨m, ws, rfl, hm, hy⟩ := hb
  have tl : (St s h tk).TypeIs (.ref l) "list" := hl.typeIs
  have tm : (St s h tk).TypeIs (.ref m) "list" := hm.typeIs
  obtain ⟨⟨c1, d1, x1, sl1⟩, g1, e1, n1, f1⟩ := hl
  obtain ⟨⟨c2, d2, x2, sl2⟩, g2, e2, n2, f2⟩ := hm
  dsimp only at e1 f1 e2 f2
  subst e1 f1 e2 f2
  show wpAny _ _ (richCompare .Lt _ _) _ _ _
  exact richCompare_meets_room tl tm PySem.F.slot_list_lt PySem.F.entry_list_lt (PySem.F.args_list_lt_2 _ _) (list_ltAt l m vs ws xs ys n1 n2 d1 d2 sl1 sl2 hx hy) ⟨g1, g2, by nofun, hq⟩ (by have := Ro.u64; omega)
end
end Mine
end R20

section R21
open PySem PySem.W PyProof.Rows PySem.Calls PySem.Builtin.Str
set_option maxRecDepth 100000
set_option maxHeartbeats 4000000
namespace Mine

/-- a key that answers for each turn with its labels -/
def KeyT (prog : Program) (w : World) (s : Shared) (h : Heap) (f : Addr) (j n : Nat) (ks : Nat → List Str) : Prop :=
  ∀ A (i : Nat) t h' tk' E (Q : Value → Shared → Prop), Rm A j → i < n → Kp h h' → TI h' → (∀ y h'' tk'', Kp h' h'' → TI h'' → SL h'' y (ks i) → Q y (St s h'' tk'')) → wpAny (model prog w) A (call (.ref f) [.int i t]) Q E (St s h' tk')
theorem KeyT.later {prog : Program} {w : World} {s : Shared} {h h₁ : Heap} {f : Addr} {j n : Nat} {ks : Nat → List Str} (x : KeyT prog w s h f j n ks) (k : Kp h h₁) : KeyT prog w s h₁ f j n ks :=
  fun A i t h' tk' E Q R hi k' T hq => x A i t h' tk' E Q R hi (k.trans k') T hq
/-- the turns in a row -/
def VT (v : Value) (n : Nat) : Prop := ∃ t, v = .int n t

section
variable {prog : Program} {w : World} {A : Around} {s : Shared} {h : Heap} {tk : Nat} {mg mb : Str → Option Value} {E : Value → Shared → Prop} {Q : Value → Shared → Prop} {env : Env}
theorem call_bisR {a f : Addr} {vs : List Value} {row : List Nat} {ks : Nat → List Str} {xk : List Str} {xv : Value} {tl : Tok} {n : Nat} {pos : List Value} {kw : List (Str × Value)} {j : Nat} (R : Rm A (j + 1)) (W : Wd (KK w) mg mb h) (T : TI h)
    (hb : Binds w 82 s h tk pos kw [(Str.ofString "a", .ref a), (Str.ofString "x", xv), (Str.ofString "lo", .int 0 tl), (Str.ofString "hi", .none), (Str.ofString "key", .ref f)])
    (hl : h.IsList a (List.toArray vs)) (hp : Paired VT vs row) (hsz : vs.length ≤ 1000) (hr : ∀ i ∈ row, i < n) (hf : FnAt f h) (hx : SL h xv xk) (key : KeyT prog w s h f j n ks)
    (hq : ∀ (p : Nat) t' h' tk', Kp h h' → TI h' → p ≤ row.length → (p = 0 ∨ ∃ i, row[p - 1]? = some i ∧ ltL xk (ks i) = false) → (p = row.length ∨ ∃ i, row[p]? = some i ∧ ltL xk (ks i) = true) → Q (.int p t') (St s h' tk')) : wpAny (model prog w) A (call (.ref 82) pos kw) Q E (St s h tk) := by
  have hrl := hp.length
  refine enter (binds := [(Str.ofString "a", .ref a), (Str.ofString "x", xv), (Str.ofString "lo", .int 0 tl), (Str.ofString "hi", .none), (Str.ofString "key", .ref f)]) R W T (by rfl) (by rfl) (hb _ _ _ _ (by rfl)) (locs rfl) (fun L h₁ tk₁ E' B R' => ?_) rfl rfl rfl (by decide)
  have W₁ := W.keeps T B.kp
  have hl₁ := (B.kp.lk T).isList hl
  refine wpAny_execs_cons ?_
  refine wpAny_If ?_
  refine wpAny_isTrue_Compare1 ?_
  refine nm_local (B.ns 0 rfl) ?_
  refine c_int fun _ _ => ?_
  refine P.lt_int ?_
  refine wpAny_truthy_bool ?_
  refine wpAny_execs_nil ?_
  refine wpAny_execs_cons ?_
  refine wpAny_If ?_
  refine wpAny_isTrue_Compare1 ?_
  refine nm_local (B.ns 0 rfl) ?_
  refine wpAny_Constant_none ?_
  refine is_none_gen ?_
  refine wpAny_truthy_bool ?_
  refine wpAny_execs_cons ?_
  refine wpAny_Assign_Name ?_
  refine r_len W₁ (by rfl) ?_
  refine nm_local (B.ns 0 rfl) ?_
  refine ⟨_, _, _, _, rfl, rfl, hl₁, by omega, fun _ _ => ?_⟩
  refine st_local 0 B rfl fun h₂ tk₂ B₂ _ => wpAny_execs_nil ?_
  obtain ⟨m, B₂, N⟩ : ∃ m, Fm h [(L, pNs m)] h₂ ∧ BNames m a xv 0 vs.length f := ⟨_, B₂, rfl, rfl, ⟨_, rfl⟩, ⟨_, rfl⟩, rfl⟩
  refine wpAny_execs_cons ?_
  refine wpAny_If ?_
  refine wpAny_isTrue_Compare1 ?_
  refine nm_local (B₂.ns 0 rfl) ?_ N.key
  refine wpAny_Constant_none ?_
  refine is_none_ne (by nofun) ?_
  refine wpAny_truthy_bool ?_
  refine wpAny_execs_cons ?_
  refine wpAny_While (codeAny_whileLoop (fun n s' => ∃ (lo' hi' : Nat) (h₃ : Heap) (tk₃ : Nat) (m : Str → Option Value), s' = St s h₃ tk₃ ∧ Fm h [(L, pNs m)] h₃ ∧ BNames m a xv lo' hi' f ∧ lo' ≤ hi' ∧ hi' ≤ row.length ∧ (lo' = 0 ∨ ∃ i, row[lo' - 1]? = some i ∧ ltL xk (ks i) = false) ∧ (hi' = row.length ∨ ∃ i, row[hi']? = some i ∧ ltL xk (ks i) = true) ∧ n = hi' - lo') ?_ (vs.length - 0)
    ⟨0, vs.length, h₂, tk₂, _, rfl, B₂, N, Nat.zero_le _, Nat.le_of_eq hrl, .inl rfl, .inl hrl, rfl⟩)
  intro n' s' hI
  obtain ⟨lo', hi', h₃, tk₃, m, rfl, B₃, N, b2, b3, b4, b5, rfl⟩ := hI
  obtain ⟨tlo, hlo⟩ := N.lo
  obtain ⟨thi, hhi'⟩ := N.hi
  refine wpAny_isTrue_Compare1 ?_
  refine nm_local (B₃.ns 0 rfl) ?_ hlo
  refine nm_local (B₃.ns 0 rfl) ?_ hhi'
  refine P.lt_int ?_
  refine wpAny_truthy_bool ?_
  by_cases hlt : lo' < hi'
  · rw [decide_eq_true (show (lo' : Int) < hi' by omega)]
    rw [if_pos rfl]
    refine wpAny_execs_cons ?_
    refine wpAny_Assign_Name ?_
    refine wpAny_BinOp ?_
    refine wpAny_BinOp ?_
    refine nm_local (B₃.ns 0 rfl) ?_ hlo
    refine nm_local (B₃.ns 0 rfl) ?_ hhi'
    refine i_add fun _ _ => ?_
    refine c_int fun _ _ => ?_
    refine i_div (by decide) (by decide) fun _ _ => ?_
    rw [show ((lo' : Int) + hi').fdiv 2 = ((lo' + hi') / 2 : Nat) by rw [Int.fdiv_eq_ediv_of_nonneg _ (by decide)]; omega]
    refine st_local 0 B₃ rfl fun h₄ tk₄ B₄ hs₄ => ?_
    have hl₄ := (B₄.kp.lk T).isList hl
    have hmid : (lo' + hi') / 2 < row.length := by omega
    have hF₄ := fnAt_keep T B₄.kp hf
    obtain ⟨z, hz, tz, rfl⟩ := Paired.get hp (List.getElem?_eq_getElem hmid)
    refine wpAny_execs_cons ?_
    refine wpAny_If ?_
    refine wpAny_isTrue_Compare1 ?_
    refine nm_local (B₄.ns 0 rfl) ?_ N.x
    refine wpAny_Call_ofName ?_
    refine nm_local (B₄.ns 0 rfl) ?_ N.key
    refine callWith_F hF₄ ?_ rfl rfl
    refine sp_cons ?_
    refine Subscript_ ?_
    refine nm_local (B₄.ns 0 rfl) ?_ N.a
    refine nm_local (B₄.ns 0 rfl) ?_
    refine item_l hl₄ (by omega) (by omega) (x := .int row[(lo' + hi') / 2] tz) (by rw [Int.toNat_natCast]; exact hz) ?_
    refine sp_nil ?_
    refine ⟨hF₄, ?_⟩
    refine key _ _ _ _ _ _ _ R' (hr _ (List.getElem_mem hmid)) B₄.kp B₄.ti fun y h₅ tk₅ k₅ T₅ hy => ?_
    have B₅ := B₄.call k₅ T₅
    refine l_lt R' (hx.mono (B₅.kp.lk T)) hy ?_
    refine wpAny_truthy_bool ?_
    cases hkm : ltL xk (ks row[(lo' + hi') / 2]) with
    | true =>
      refine wpAny_execs_cons ?_
      refine wpAny_Assign_Name ?_
      refine nm_local (B₅.ns 0 rfl) ?_
      refine st_local 0 B₅ rfl fun h₆ tk₆ B₆ _ => wpAny_execs_nil (wpAny_execs_nil ⟨(lo' + hi') / 2 - lo', by omega, lo', _, h₆, tk₆, _, rfl, B₆, ⟨N.a, N.x, N.lo, ⟨_, rfl⟩, N.key⟩, by omega, by omega, b4, .inr ⟨_, List.getElem?_eq_getElem hmid, hkm⟩, rfl⟩)
    | false =>
      refine wpAny_execs_cons ?_
      refine wpAny_Assign_Name ?_
      refine wpAny_BinOp ?_
      refine nm_local (B₅.ns 0 rfl) ?_
      refine c_int fun _ _ => ?_
      refine i_add fun _ _ => ?_
      rw [show (((lo' + hi') / 2 : Nat) : Int) + 1 = ((lo' + hi') / 2 + 1 : Nat) by omega]
      refine st_local 0 B₅ rfl fun h₆ tk₆ B₆ _ => wpAny_execs_nil (wpAny_execs_nil ⟨hi' - ((lo' + hi') / 2 + 1), by omega, _, hi', h₆, tk₆, _, rfl, B₆, ⟨N.a, N.x, ⟨_, rfl⟩, N.hi, N.key⟩, by omega, b3, .inr ⟨_, List.getElem?_eq_getElem hmid, hkm⟩, b5, rfl⟩)
  · rw [decide_eq_false (show ¬ (lo' : Int) < hi' by omega)]
    refine wpAny_execs_nil ?_
    refine wpAny_execs_nil ?_
    refine wpAny_execs_cons ?_
    refine wpAny_Return_some ?_
    refine nm_local (B₃.ns 0 rfl) ?_ hlo
    have : lo' = hi' := by omega
    subst this
    exact hq lo' _ _ _ B₃.kp B₃.ti b3 b4 b5

/-- a call of a def by its name, with arguments by name -/
theorem call_kw {K : Frag} {M : Model} {x : Str} {np pos : Pos} {e : Expr} {rest : List Expr} {kws : List Keyword} {f : Addr} (W : Wd K mg mb h) (en : nsIn K mainGlobals x = some (some (.ref f))) (hkp : keepIn K (.ref f) = true)
    (hq : wpAny M A (spliced (backTo pos (starEach (e :: rest) env))) (fun vs s₁ => wpAny M A (evalAll ((backToKw pos (keywordEach kws env)).map (·.2)))
      (fun ks s₂ => K.In s₂.heap ∧ wpAny M A (call (.ref f) vs (((backToKw pos (keywordEach kws env)).filterMap (·.1)).zip ks)) Q E s₂) E s₁) E (St s h tk))
    (hall : (backToKw pos (keywordEach kws env)).all (·.1.isSome) = true := by rfl)
    (hplain : ((backTo pos (starEach (e :: rest) env)).any (·.1) || (backToKw pos (keywordEach kws env)).any (·.1.isNone)) = false := by rfl) (he : starEach (e :: rest) env = (false, eval e env) :: starEach rest env := by rfl)
    (hg : env.globals = mainGlobals := by rfl) (hk : env.scope.kind = .function := by rfl) (hl : env.kindOf x = some .globalImplicit := by rfl)
    (hd : (x == ("__debug__" : Str)) = false := by decide) : wpAny M A (eval (.Call (.Name x np) (e :: rest) kws pos) env) Q E (St s h tk) :=
  wpAny_Call_ofName (nm_glob W en (callWith_KW W.X hkp (first := []) hall hq hplain he) hg hk hl hd)
end
end Mine
end R21

section R22
open PySem PySem.W PyProof.Rows PySem.Calls PySem.Builtin.Str
set_option maxRecDepth 100000
set_option maxHeartbeats 4000000
namespace Mine

/-- the row after i turns -/
inductive InsR (ks : Nat → List Str) : Nat → List Nat → Prop
  | zero : InsR ks 0 []
  | succ {i : Nat} {row : List Nat} {p : Nat} : InsR ks i row → p ≤ row.length → (p = 0 ∨ ∃ j, row[p - 1]? = some j ∧ ltL (ks i) (ks j) = false) → (p = row.length ∨ ∃ j, row[p]? = some j ∧ ltL (ks i) (ks j) = true) →
      InsR ks (i + 1) (row.take p ++ i :: row.drop p)
theorem InsR.lt {ks : Nat → List Str} {n : Nat} {row : List Nat} (x : InsR ks n row) : ∀ j ∈ row, j < n := by
  induction x with
  | zero => intro j h; cases h
  | succ x h1 h2 h3 ih =>
    intro j h
    rcases List.mem_append.mp h with h | h
    · exact Nat.lt_succ_of_lt (ih j (List.mem_of_mem_take h))
    · rcases List.mem_cons.mp h with rfl | h
      · exact Nat.lt_succ_self _
      · exact Nat.lt_succ_of_lt (ih j (List.mem_of_mem_drop h))
theorem InsR.length {ks : Nat → List Str} {n : Nat} {row : List Nat} (x : InsR ks n row) : row.length = n := by
  induction x with
  | zero => rfl
  | succ x h1 h2 h3 ih => rw [List.length_append, List.length_cons, List.length_take, List.length_drop]; omega

section
variable {prog : Program} {w : World} {A : Around} {s : Shared} {h : Heap} {tk : Nat} {mg mb : Str → Option Value} {E : Value → Shared → Prop} {Q : Value → Shared → Prop} {env : Env}
theorem binds_of {f : Addr} {oc : Value} {od : Option Addr} {fd : FuncData} {osl : Array (Option Value)} {pos : List Value} {kw binds : List (Str × Value)} (e0 : (KK w).lookup f = some ⟨oc, od, .func fd, osl⟩) (hb : BindsTo (St s h tk) fd ⟨pos, kw⟩ binds) : Binds w f s h tk pos kw binds := by
  intro oc' od' osl' fd' e
  rw [e0] at e; cases e; exact hb
theorem l_insert0 {a : Addr} {vs : List Value} {x : Value} {i : Int} {t : Tok} (hl : h.PlainList a vs.toArray) (hf : Builtin.List.listFitsIndex i = true) (hz : vs.toArray.size ≤ sizeLine)
    (hq : ∀ h', h'.PlainList a (kl_ins vs i x).toArray → Heap.SameBut a h h' → Q .none (St s h' tk)) : wpAny (model prog w) A (call (.builtin "list.insert") [.ref a, .int i t, x]) Q E (St s h tk) := by
  obtain ⟨n, ho⟩ := hl
  have hT : (St s h tk).TypeIs (.ref a) "list" := ⟨_, ho, rfl⟩
  refine call_meets PySem.F.slot_list_insert hT PySem.F.entry_list_insert (PySem.F.args_list_insert_3 _ _ _) (PySem.AutoSeq1.list_insert_list_int_val_1 a vs.toArray n i t x (by simp [hf]) hz) ⟨ho, ?_⟩
  refine hq _ ?_ (Heap.SameBut.update ..)
  have key : ∀ g : Array Value → Array Value, g vs.toArray = (kl_ins vs i x).toArray → (h.update a (Obj.mapSeq g)).PlainList a (kl_ins vs i x).toArray := fun g hg => by rw [← hg]; exact ⟨_, get?_update_seq (c := "list") ho g⟩
  refine key _ ?_
  show ((vs.toArray.extract 0 (if i < 0 then (i + (vs.toArray.size : Int)).toNat else min i.toNat vs.toArray.size)).push x ++ vs.toArray.extract (if i < 0 then (i + (vs.toArray.size : Int)).toNat else min i.toNat vs.toArray.size)) = _
  rw [kl_ins_eq, List.size_toArray]
  rfl
theorem l_insert {a : Addr} {vs : List Value} {x : Value} {p : Nat} {t : Tok} (hl : h.PlainList a vs.toArray) (hp : p ≤ vs.length) (hsz : vs.length ≤ 1000)
    (hq : ∀ h', h'.PlainList a (vs.take p ++ x :: vs.drop p).toArray → Heap.SameBut a h h' → Q .none (St s h' tk)) : wpAny (model prog w) A (call (.builtin "list.insert") [.ref a, .int p t, x]) Q E (St s h tk) := by
  have hf : Builtin.List.listFitsIndex (p : Int) = true := by simp only [Builtin.List.listFitsIndex, Bool.and_eq_true, decide_eq_true_eq]; omega
  have hz : vs.toArray.size ≤ sizeLine := by rw [List.size_toArray, sizeLine_eq]; omega
  refine l_insert0 hl hf hz fun h' hl' hs => hq h' ?_ hs
  unfold kl_ins at hl'
  rw [if_neg (by omega), Int.toNat_natCast, Nat.min_eq_left hp] at hl'
  exact hl'

theorem call_insort {a f : Addr} {vs : List Value} {row : List Nat} {ks : Nat → List Str} {i n : Nat} {t tl : Tok} {pos : List Value} {kw : List (Str × Value)} {j : Nat} (R : Rm A (j + 3)) (W : Wd (KK w) mg mb h) (T : TI h)
    (hb : Binds w 73 s h tk pos kw [(Str.ofString "a", .ref a), (Str.ofString "x", .int i t), (Str.ofString "lo", .int 0 tl), (Str.ofString "hi", .none), (Str.ofString "key", .ref f)])
    (hl : h.PlainList a (List.toArray vs)) (hp : Paired VT vs row) (hsz : vs.length ≤ 500) (hr : ∀ i ∈ row, i < n) (hi : i < n) (hf : FnAt f h) (key : KeyT prog w s h f j n ks)
    (hq : ∀ (p : Nat) h₁ h' tk', Kp h h₁ → TI h₁ → h₁.PlainList a (List.toArray vs) → Heap.SameBut a h₁ h' → h'.PlainList a (List.toArray (vs.take p ++ .int i t :: vs.drop p)) → p ≤ row.length → (p = 0 ∨ ∃ j, row[p - 1]? = some j ∧ ltL (ks i) (ks j) = false) → (p = row.length ∨ ∃ j, row[p]? = some j ∧ ltL (ks i) (ks j) = true) →
      Q .none (St s h' tk')) : wpAny (model prog w) A (call (.ref 73) pos kw) Q E (St s h tk) := by
  refine enter (binds := [(Str.ofString "a", .ref a), (Str.ofString "x", .int i t), (Str.ofString "lo", .int 0 tl), (Str.ofString "hi", .none), (Str.ofString "key", .ref f)]) R W T (by rfl) (by rfl) (hb _ _ _ _ (by rfl)) (locs rfl) (fun L h₁ tk₁ E' B R' => ?_) rfl rfl rfl (by decide)
  have W₁ := W.keeps T B.kp
  have hF₁ := fnAt_keep T B.kp hf
  have hrl := hp.length
  refine wpAny_execs_cons ?_
  refine wpAny_If ?_
  refine wpAny_isTrue_Compare1 ?_
  refine nm_local (B.ns 0 rfl) ?_
  refine wpAny_Constant_none ?_
  refine is_none_ne (by nofun) ?_
  refine wpAny_truthy_bool ?_
  refine wpAny_execs_cons ?_
  refine wpAny_Assign_Name ?_
  refine call_kw W₁ (f := 82) (by rfl) (by rfl) ?_
  refine sp_cons ?_
  refine nm_local (B.ns 0 rfl) ?_
  refine sp_cons ?_
  refine wpAny_Call_ofName ?_
  refine nm_local (B.ns 0 rfl) ?_
  refine callWith_F hF₁ ?_ rfl rfl
  refine sp_cons ?_
  refine nm_local (B.ns 0 rfl) ?_
  refine sp_nil ?_
  refine ⟨hF₁, ?_⟩
  refine key _ _ _ _ _ _ _ (R'.less (by omega)) hi B.kp B.ti fun y h₂ tk₂ k₂ T₂ hy => ?_
  have B₂ := B.call k₂ T₂
  have W₂ := W.keeps T B₂.kp
  refine sp_cons ?_
  refine nm_local (B₂.ns 0 rfl) ?_
  refine sp_cons ?_
  refine nm_local (B₂.ns 0 rfl) ?_
  refine sp_nil ?_
  refine kwAll_cons ?_
  refine nm_local (B₂.ns 0 rfl) ?_
  refine kwAll_nil ?_
  refine ⟨W₂.X, ?_⟩
  have hl₂ : h₂.PlainList a vs.toArray := by obtain ⟨n, e⟩ := hl; exact ⟨n, B₂.kp _ _ (T.off e (by nofun)) e⟩
  refine call_bisR (a := a) (f := f) (tl := tl) (xv := y) (vs := vs) (row := row) (ks := ks) (xk := ks i) (n := n) (j := j) (R'.less (by omega)) W₂ B₂.ti ?_ hl₂.isList hp (by omega) hr (fnAt_keep T B₂.kp hf) hy (key.later B₂.kp) fun p t' h₃ tk₃ k₃ T₃ hpl hp1 hp2 => ?_
  · refine binds_of (by rfl) ?_
    exact binds_K W₂.X rfl (by rfl) rfl rfl rfl
  · have B₃ := B₂.call k₃ T₃
    refine st_local 0 B₃ rfl fun h₄ tk₄ B₄ hs₄ => wpAny_execs_nil ?_
    have hl₄ : h₄.PlainList a vs.toArray := by obtain ⟨n, e⟩ := hl; exact ⟨n, B₄.kp _ _ (T.off e (by nofun)) e⟩
    refine wpAny_execs_cons ?_
    refine wpAny_Expr_any ?_
    with_reducible refine list_meth PySem.F.slot_list_insert PySem.F.type_list_insert ?_
    refine nm_local (B₄.ns 0 rfl) ?_
    refine ⟨_, _, _, _, rfl, rfl, hl₄, ?_⟩
    refine callWith_method1 ?_
    refine sp_cons ?_
    refine nm_local (B₄.ns 0 rfl) ?_
    refine sp_cons ?_
    refine nm_local (B₄.ns 0 rfl) ?_
    refine sp_nil ?_
    refine l_insert hl₄ (by omega) (by omega) fun h₅ hl₅ hs₅ => ?_
    exact wpAny_execs_nil (hq p h₄ h₅ _ B₄.kp B₄.ti hl₄ hs₅ hl₅ hpl hp1 hp2)
end
end Mine
end R22

section R23
open PySem PySem.W PyProof.Rows PySem.Calls PySem.Builtin.Str
set_option maxRecDepth 100000
set_option maxHeartbeats 4000000
namespace Mine

theorem Paired.take_cons_drop {α β : Type} {F : α → β → Prop} {l₁ : List α} {l₂ : List β} {x : α} {y : β} (p : Paired F l₁ l₂) (h : F x y) (n : Nat) : Paired F (l₁.take n ++ x :: l₁.drop n) (l₂.take n ++ y :: l₂.drop n) :=
  Paired.append (Paired.take n p) (.cons h (Paired.drop n p))

section
variable {prog : Program} {w : World} {A : Around} {s : Shared} {h : Heap} {tk : Nat} {mg mb : Str → Option Value} {E : Value → Shared → Prop} {Q : Value → Shared → Prop} {env : Env}
theorem call_row {lv : Value} {lss : List (List Str)} {k : Nat} (R : Rm A (k + 6)) (W : Wd (KK w) mg mb h) (T : TI h) (hl : SLL h lv lss) (hsz : lss.length ≤ 100)
    (hq : ∀ a vs row h' tk', Kp h h' → TI h' → h.get? a = none → h'.IsList a (List.toArray vs) → Paired VT vs row → InsR (fun i => lss.getD i []) lss.length row → Q (.ref a) (St s h' tk')) : wpAny (model prog w) A (call (.ref 110) [lv]) Q E (St s h tk) := by
  refine enterC (binds := [(Str.ofString "lists", lv)]) R W T (by rfl) (by rfl) rfl rfl (by decide) (fun L h₁ tk₁ E' B R' => ?_) rfl rfl rfl
  refine wpAny_execs_cons ?_
  refine wpAny_Assign_Name ?_
  refine r_list ?_
  refine sp_nil ?_
  refine ⟨_, _, rfl, Nat.le_of_ble_eq_true rfl, fun a h₂ k₂ n₂ g₂ => ?_⟩
  have na : h.get? a = none := B.kp.none (B.ti.new n₂) n₂
  have B₂ : Fm h ((a, pPl []) :: _) h₂ := B.own1 k₂ n₂ ⟨_, g₂, 0, rfl⟩ pPl_plain
  refine st_local 1 B₂ rfl fun h₃ tk₃ B₃ hs₃ => ?_
  have W₃ := W.keeps T B₃.kp
  obtain ⟨la, lvs, rfl, hla, hlp⟩ := id hl
  have hll := hlp.length
  refine wpAny_execs_cons (for_range R'.handled (g := h) (fun i own _ => ∃ m vs row, own = [(a, pPl vs), (L, pNs m), (L + 1, pCell (some (.ref la)))] ∧ m (Str.ofString "row") = some (.ref a) ∧ Paired VT vs row ∧ InsR (fun i => lss.getD i []) i row)
    (fun i own h h' lk e => e) ?_)
  have hla₃ := (B₃.kp.lk T).isList hla
  refine range1 W₃ (by rfl) ?_
  refine r_len W₃ (by rfl) ?_
  refine nm_cell (B₃.cell 2 rfl) ?_
  refine ⟨_, _, _, _, rfl, rfl, hla₃, by omega, fun t' tk' => ?_⟩
  refine ⟨_, _, _, _, rfl, rfl, fun r h₄ tk₄ t₄ u₄ z₄ k₄ hr => ?_⟩
  refine ⟨r, _, _, _, _, _, _, _, _, rfl, rfl, hr, ⟨by decide, by decide, by omega, by omega⟩, B₃.grow k₄, ⟨_, _, [], rfl, rfl, .nil, .zero⟩, fun I p i own' h' tk tk' E₂ hi hJ F' => ?_, fun own' h' tk hJ F' => ?_⟩
  · obtain ⟨m, vs, row, rfl, hmr, hp, hI⟩ := hJ
    have hi' : i < lss.length := by omega
    rw [show (0 : Int) + (i : Int) = (i : Int) by omega]
    refine st_local 2 F' rfl fun h₆ tk₆ F₆ hs₆ => ?_
    have W₆ := W.keeps T F₆.kp
    refine wpAny_execs_cons ?_
    refine wpAny_Expr_any ?_
    refine call_kw W₆ (f := 73) (by rfl) (by rfl) ?_
    refine sp_cons ?_
    refine nm_local (F₆.ns 2 rfl) ?_ hmr
    refine sp_cons ?_
    refine nm_local (F₆.ns 2 rfl) ?_
    refine sp_nil ?_
    refine kwAll_cons ?_
    refine lam_ W₆ F₆.ti (P := 105) (by decide) F₆.ti.t3 (fun h' k X' => ⟨F₆.ti.t1.aside F₆.ti.t3 k (by decide), F₆.ti.t2.aside F₆.ti.t3 k (by decide), X'⟩) fun f h₇ tk₇ k₇ T₇ n₇ lam => ?_
    have F₇ := F₆.call k₇ T₇
    have W₇ := W.keeps T F₇.kp
    refine kwAll_nil ⟨W₇.X, ?_⟩
    refine call_insort (tl := 348) (t := tk') (a := a) (f := f) (vs := vs) (row := row) (ks := fun i => lss.getD i []) (i := i) (n := lss.length) (j := k + 2) (R'.less (by omega)) W₇ T₇ ?_ (F₇.plist 1 rfl) hp ?_ (fun j hj => Nat.lt_trans (hI.lt j hj) hi') hi' lam.fnAt ?_ fun p h₈ h₉ tk₉ k₈ T₈ hl₈ hs₉ hl₉ c1 c2 c3 => ?_
    · refine binds_of (by rfl) ?_
      exact binds_K W₇.X rfl (by rfl) rfl rfl rfl
    · have := hp.length; have := hI.length; omega
    · intro A' i' t' h' tk' E' Q' R₁ hi₁ k₁ T' hq'
      refine enterL (k := k + 1) (binds := [(Str.ofString "other", .int i' t')]) R₁ (W₇.keeps T₇ k₁) T' (lam.keep T₇ k₁) (fun _ _ _ => rfl) (locs rfl) (fun L' c' h₁ tk₁ E₁ G R₂ => ?_) rfl rfl rfl (by decide)
      have hk : Kp h h₁ := F₇.kp.trans (k₁.trans G.kp)
      have hl₁ := hl.mono (hk.lk T)
      obtain ⟨la', lvs', e, hla', hlp'⟩ := hl₁
      cases e
      obtain ⟨y, hy, hyl⟩ := Paired.get hlp' (List.getElem?_eq_getElem hi₁)
      refine Subscript_ ?_
      refine nm_free (cell_keep T₇ (k₁.trans G.kp) (F₇.cell 3 rfl)) ?_
      refine nm_local (G.ns 0 rfl) ?_
      refine item_l hla' (by omega) (by omega) (x := y) (by rw [Int.toNat_natCast]; exact hy) ?_
      refine hq' y h₁ _ G.kp G.ti ?_
      show SL h₁ y (lss.getD i' [])
      rw [show lss.getD i' [] = lss[i'] by rw [List.getD_eq_getElem?_getD, List.getElem?_eq_getElem hi₁]; rfl]
      exact hyl
    · have F₈ := F₇.call k₈ T₈
      have F₉ := F₈.set 1 rfl hs₉.extBut (let ⟨n, e⟩ := hl₉; ⟨_, e, n, rfl⟩) pPl_plain
      exact wpAny_execs_nil ⟨_, h₉, _, rfl, F₉, _, _, _, rfl, hmr, Paired.take_cons_drop hp ⟨_, rfl⟩ p, hI.succ c1 c2 c3⟩
  · obtain ⟨m, vs, row, rfl, hmr, hp, hI⟩ := hJ
    refine wpAny_execs_cons ?_
    refine wpAny_Return_some ?_
    refine nm_local (F'.ns 1 rfl) ?_ hmr
    refine hq a vs row h' _ F'.kp F'.ti na (F'.plist 0 rfl).isList hp ?_
    rw [show lss.length = ((lvs.length : Int) - 0).toNat by omega]
    exact hI
end
end Mine
end R23

section R24
open PySem PySem.W PyProof.Rows PySem.Calls PySem.Builtin.Str
set_option maxRecDepth 100000
set_option maxHeartbeats 4000000
namespace Mine

theorem lk_cell {h h' : Heap} {c : Addr} {v : Option Value} (hv : h.IsCell c v) (hs : Heap.SameBut c h h') : Lk h h' := fun b o hc e => hs.extBut b o (by
  rintro rfl
  obtain ⟨o', e', hd⟩ := hv
  rw [e] at e'; cases e'
  obtain ⟨_, _, _, q⟩ := hc
  rw [hd] at q; cases q) e
theorem isList_hide {h : Heap} {a D : Addr} {vs : Array Value} (x : h.IsList a vs) (ne : a ≠ D) : (hideAll h [D]).IsList a vs := let ⟨o, e, c, n, r⟩ := x; ⟨o, hideAll_get _ e (by simpa using ne), c, n, r⟩
/-- how many rungs do not hold -/
def placeF (rs : List Str) (l : List Str) : Nat := (rs.map fun r => holdsF (labelsF r) l).count false
theorem Paired.map_mk {α β γ : Type} {F : α → γ → Prop} {f : β → γ} {ys : List α} {xs : List β} (hl : ys.length = xs.length) (h : ∀ (j : Nat) y x, ys[j]? = some y → xs[j]? = some x → F y (f x)) : Paired F ys (xs.map f) :=
  Paired.mk (by rw [hl, List.length_map]) fun i y z hy hz => by
    rw [List.getElem?_map] at hz
    obtain ⟨x, hx, rfl⟩ := Option.map_eq_some_iff.mp hz
    exact h i y x hy hx
theorem VB_rep (b : Bool) : ∀ n : Nat, Paired VB (List.replicate n (Value.bool b)) (List.replicate n b)
  | 0 => .nil
  | n + 1 => by rw [List.replicate_succ, List.replicate_succ]; exact .cons rfl (VB_rep b n)
theorem bn5 (v1 v2 v3 v4 v5 : Value) : ∀ y ∈ [(Str.ofString "a", v1), (Str.ofString "x", v2), (Str.ofString "lo", v3), (Str.ofString "hi", v4), (Str.ofString "key", v5)], y.1 ∈ [Str.ofString "a", Str.ofString "x", Str.ofString "lo", Str.ofString "hi", Str.ofString "key"] := by
  intro y hy
  have : y.1 ∈ [(Str.ofString "a", v1), (Str.ofString "x", v2), (Str.ofString "lo", v3), (Str.ofString "hi", v4), (Str.ofString "key", v5)].map (·.1) := List.mem_map_of_mem hy
  exact this
theorem isTrue_val (b : Bool) : ((Value.bool b) == Value.bool true) = b := by cases b <;> rfl
theorem isFalse_val (b : Bool) : ((Value.bool b) == Value.bool false) = !b := by cases b <;> rfl

section
variable {prog : Program} {w : World} {A : Around} {s : Shared} {h : Heap} {tk : Nat} {mg mb : Str → Option Value} {E : Value → Shared → Prop} {Q : Value → Shared → Prop} {env : Env}
theorem mul_l {l : Addr} {v : Value} {x : Int} {u : Tok} (hl : h.IsList l [v].toArray) (hlo : -(2 ^ 62 : Int) ≤ x) (hsz : x ≤ 256)
    (hq : ∀ a h', h.StaysIn h' → h.get? a = none → h'.IsList a (List.replicate x.toNat v).toArray → Q (.ref a) (St s h' tk)) : wpAny (model prog w) A (binaryOp .Mult (.ref l) (.int x u)) Q E (St s h tk) := by
  obtain ⟨⟨cls, d, data, sl⟩, ho, hcl, k, hd⟩ := id hl
  simp only at hcl hd
  subst hcl hd
  have hsz' : [v].toArray.size * x.toNat ≤ 256 := by simp; omega
  have hT : (St s h tk).TypeIs (.ref l) "list" := ⟨_, ho, rfl⟩
  refine wpAny_binaryOp_repeat_ref (s := St s h tk) (T := "list") (U := "int") (by decide) hT (fun s' => typeIs_int s' x u) noFill_list_mul PySem.F.fills_int_mul PySem.F.slot_int_rmul repeat_list PySem.F.slot_int_index.lookup
    (call_meets PySem.F.slot_int_rmul (typeIs_int _ x u) PySem.F.entry_int_rmul (PySem.F.args_int_rmul_2 _ _) (lm_int_rmul_list_any x u l [v].toArray k d sl)
      ⟨ho, rfl, hT, call_meets PySem.F.slot_list_mul hT PySem.F.entry_list_mul (PySem.F.args_list_mul_2 _ _)
        (lm_list_mul_any l [v].toArray k d sl x u (by simp [Builtin.List.listFitsIndex]; omega) (by omega) (by simp [Builtin.List.listTooLong, sizeLine]; omega))
        ⟨ho, ?_⟩⟩)
  have e : List.foldl (fun x1 x2 => x1 ++ x2) #[] (List.replicate (if [v].toArray.isEmpty = true then 0 else x.toNat) [v].toArray) = (List.replicate x.toNat v).toArray := by
    rw [listMul_foldl]
    show ([] ++ (List.replicate x.toNat [v]).flatten).toArray = _
    rw [lm_rep_flat_one]; rfl
  rw [e]
  exact hq _ _ (stays_push _ _) (get_none (Nat.le_refl _)) (isList_push _ _)
end
section
variable {prog : Program} {w : World} {A : Around} {s : Shared} {h : Heap} {tk : Nat} {mg mb : Str → Option Value} {E : Value → Shared → Prop} {Q : Value → Shared → Prop} {env : Env}
theorem call_places {av bv cv : Value} {rs ls : List Str} {lss : List (List Str)} {k : Nat} (R : Rm A (k + 6)) (W : Wd (KK w) mg mb h) (T : TI h) (ha : SL h av rs) (hb : SL h bv ls) (hc : SLL h cv lss)
    (hrs : rs.length ≤ 50) (hls : ls.length ≤ 50) (hn : lss.length = ls.length)
    (okr : ∀ r ∈ rs, Ok (Txt.lower r)) (okl : ∀ r ∈ ls, Ok (Txt.lower r)) (hlab : ∀ r ∈ rs, (labelsF r).length ≤ 1000 ∧ 0 < (labelsF r).length ∧ ∀ y ∈ labelsF r, PyData.strOk y = true) (hlis : ∀ l ∈ lss, l.length ≤ 1000 ∧ ∀ y ∈ l, PyData.strOk y = true)
    (hchk : ∀ (j : Nat) x l (p : Nat), ls[j]? = some x → lss[j]? = some l → p ≤ rs.length → (p = 0 ∨ udm x (rs.getD (p - 1) "") = false) → (p = rs.length ∨ udm x (rs.getD p "") = true) →
      (rs.map fun r => holdsF (labelsF r) l) = List.replicate p false ++ List.replicate (rs.length - p) true)
    (hq : ∀ a vs h' tk', Kp h h' → TI h' → h.get? a = none → h'.IsList a (List.toArray vs) → Paired VT vs (lss.map (placeF rs)) → Q (.ref a) (St s h' tk')) : wpAny (model prog w) A (call (.ref 134) [av, bv, cv]) Q E (St s h tk) := by
  refine enterC (binds := [(Str.ofString "ladder", av), (Str.ofString "louds", bv), (Str.ofString "lists", cv)]) R W T (by rfl) (by rfl) rfl rfl (by decide) (fun L h₁ tk₁ E' B R' => ?_) rfl rfl rfl
  have ha₁ := ha.mono (B.kp.lk T)
  have W₁ := W.keeps T B.kp
  obtain ⟨la, va, rfl, hla0, hpa⟩ := id ha
  have hla := (B.kp.lk T).isList hla0
  have hal := hpa.length
  refine wpAny_execs_cons (assign_comp (g := h) (fun i h y => ∃ r, rs[i]? = some r ∧ SL h y (labelsF r)) (fun j h h' y lk ⟨r, e, x⟩ => ⟨r, e, x.mono lk⟩) R'.handled ?_)
  refine nm_local (B.ns 0 rfl) ?_
  refine ⟨_, _, _, _, 0, _, _, rfl, .list hla, by rw [sizeLine_eq]; omega, fun C D i v h₃ tk₃ m₃ E₃ Q' hi hv hn₃ hm hk ht hDn hDo hCn hq' => ?_, B, rfl, fun D h₂ tk₂ ys hD lk₂ B₂ hl₂ hlen hF => ?_⟩
  · obtain ⟨r, hr, tr, rfl⟩ := Paired.getL hpa hv
    have W₃ := W₁.keeps B.ti hk
    refine call_fn W₃ (f := 103) (by rfl) (by rfl) ?_
    refine sp_cons ?_
    refine nm_local hn₃ ?_ hm
    refine sp_nil ?_
    refine ⟨W₃.X, ?_⟩
    refine call_labels (k := k + 3) R' W₃ ht (okr r (List.mem_of_getElem? hr)).size fun a vs h₄ tk₄ k₄ T₄ n₄ hl₄ hp₄ => hq' _ _ _ k₄ T₄ ⟨r, hr, a, vs, rfl, isList_hide hl₄ ?_, hp₄⟩
    rintro rfl
    obtain ⟨o, e, _⟩ := hDo
    rw [n₄] at e; cases e
  have hw₂ : SLL h₂ (.ref D) (rs.map labelsF) := ⟨D, ys, rfl, hl₂, Paired.map_mk (by rw [hlen, hal]) fun j y x hy hx => by
    obtain ⟨r, e, z⟩ := hF j y hy
    rw [hx] at e; cases e; exact z⟩
  refine wpAny_execs_cons ?_
  refine wpAny_Assign_Name ?_
  refine r_list ?_
  refine sp_nil ?_
  refine ⟨_, _, rfl, Nat.le_of_ble_eq_true rfl, fun a h₃ k₃ n₃ g₃ => ?_⟩
  have na : h.get? a = none := B₂.kp.none (B₂.ti.new n₃) n₃
  have B₃ : Fm h ((a, pPl []) :: _) h₃ := B₂.own1 k₃ n₃ ⟨_, g₃, 0, rfl⟩ pPl_plain
  refine st_local 1 B₃ rfl fun h₄ tk₄ B₄ hs₄ => ?_
  have W₄ := W.keeps T B₄.kp
  have hw₄ := (lk_stays k₃).trans (lk_ns (B₃.ns 1 rfl) hs₄)
  obtain ⟨lb, vb, rfl, hlb, hpb⟩ := id hb
  obtain ⟨lc, vc, rfl, hlc, hpc⟩ := id hc
  have hbl := hpb.length
  refine wpAny_execs_cons (for_range R'.handled (g := h) (fun i own h => ∃ m vs tv, own = [(a, pPl vs), (L, pNs m), (L + 3, pCell tv), (L + 2, pCell (some (.ref lc))), (L + 1, pCell (some (.ref lb)))] ∧ m (Str.ofString "places") = some (.ref a) ∧ m (Str.ofString "ladder") = some (.ref la) ∧ m (Str.ofString "wides") = some (.ref D) ∧ Paired VT vs ((lss.take i).map (placeF rs)) ∧ Lk h₂ h)
    (fun i own h h' lk ⟨m, vs, tv, e1, e2, e3, e4, e5, e6⟩ => ⟨m, vs, tv, e1, e2, e3, e4, e5, e6.trans lk⟩) ?_)
  have hlb₄ := (B₄.kp.lk T).isList hlb
  refine range1 W₄ (by rfl) ?_
  refine r_len W₄ (by rfl) ?_
  refine nm_cell (B₄.cell 4 rfl) ?_
  refine ⟨_, _, _, _, rfl, rfl, hlb₄, by omega, fun t' tk' => ?_⟩
  refine ⟨_, _, _, _, rfl, rfl, fun r h₅ tk₅ t₅ u₅ z₅ k₅ hr => ?_⟩
  refine ⟨r, _, _, _, _, _, _, _, _, rfl, rfl, hr, ⟨by decide, by decide, by omega, by omega⟩, B₄.grow k₅, ⟨_, _, _, rfl, rfl, rfl, rfl, .nil, hw₄.trans (lk_stays k₅)⟩, fun I p i own' h' tk tk' E₂ hi hJ F' => ?_, fun own' h' tk hJ F' => ?_⟩
  · obtain ⟨m, vs, tv, rfl, hmp, hml, hmw, hp, hw⟩ := hJ
    have hi' : i < lss.length := by omega
    have hi2 : i < ls.length := by omega
    rw [show (0 : Int) + (i : Int) = (i : Int) by omega]
    have hc' := F'.cell 3 rfl
    refine st_cell 3 F' rfl fun h₆ tk₆ F₆ hs₆ => ?_
    have W₆ := W.keeps T F₆.kp
    refine wpAny_execs_cons ?_
    refine wpAny_Assign_Name ?_
    refine call_kw W₆ (f := 91) (by rfl) (by rfl) ?_
    refine sp_cons ?_
    refine nm_local (F₆.ns 2 rfl) ?_ hml
    refine sp_cons ?_
    refine wpAny_Constant_bool ?_
    refine sp_nil ?_
    refine kwAll_cons ?_
    refine lam_ W₆ F₆.ti (P := 131) (by decide) F₆.ti.t2 (fun h' k X' => ⟨F₆.ti.t1.aside F₆.ti.t2 k (by decide), X', F₆.ti.t3.aside F₆.ti.t2 k (by decide)⟩) fun f h₇ tk₇ k₇ T₇ n₇ lam => ?_
    have F₇ := F₆.call k₇ T₇
    have W₇ := W.keeps T F₇.kp
    refine kwAll_nil ⟨W₇.X, ?_⟩
    have hla₇ := (F₇.kp.lk T).isList hla0
    refine call_bisL (a := la) (f := f) (vs := va) (kf := fun q => udm ls[i] (rs.getD q "")) (lo := 0) (hi := va.length) (tl := 375) (hv := .none) (binds := [(Str.ofString "a", .ref la), (Str.ofString "x", .bool true), (Str.ofString "lo", .int 0 375), (Str.ofString "hi", .none), (Str.ofString "key", .ref f)]) (j := k + 3) (R'.less (by omega)) W₇ T₇ ?_ (bn5 _ _ _ _ _) rfl rfl rfl rfl rfl hla₇ (by omega) lam.fnAt ?_ (.inl ⟨rfl, rfl⟩) (Nat.zero_le _) (Nat.le_refl _) fun q t' h₈ tk₈ k₈ T₈ c0 c1 c2 c3 => ?_
    · refine binds_of (by rfl) ?_
      exact binds_K W₇.X rfl (by rfl) rfl rfl rfl
    · intro A' i' v' h' tk' E' Q' R₁ hv₁ k₁ T' hq'
      obtain ⟨r', hr', tr, rfl⟩ := Paired.getL hpa hv₁
      refine enterL (k := k + 2) (binds := [(Str.ofString "rung", .str r' tr)]) R₁ (W₇.keeps T₇ k₁) T' (lam.keep T₇ k₁) (fun _ _ _ => rfl) (locs rfl) (fun L' c' g₁ tg E₁ G R₂ => ?_) rfl rfl rfl (by decide)
      have kk : Kp h₇ g₁ := k₁.trans G.kp
      have WG := W₇.keeps T₇ kk
      have hlbG := ((F₇.kp.trans kk).lk T).isList hlb
      obtain ⟨z, hz, tz, rfl⟩ := Paired.get hpb (List.getElem?_eq_getElem hi2)
      refine wpAny_Compare1 ?_
      refine call_fn WG (f := 57) (by rfl) (by rfl) ?_
      refine sp_cons ?_
      refine Subscript_ ?_
      refine nm_free (cell_keep T₇ kk (F₇.cell 5 rfl)) ?_
      refine nm_free (cell_keep T₇ kk (F₇.cell 3 rfl)) ?_
      refine item_l hlbG (by omega) (by omega) (x := .str ls[i] tz) (by rw [Int.toNat_natCast]; exact hz) ?_
      refine sp_cons ?_
      refine nm_local (G.ns 0 rfl) ?_
      refine sp_nil ?_
      refine ⟨WG.X, ?_⟩
      refine call_udm (k := k) R₂ WG G.ti (okl _ (List.getElem_mem hi2)) (okr _ (List.mem_of_getElem? hr')) fun g₂ tg₂ kg₂ Tg₂ => ?_
      refine wpAny_Constant_bool ?_
      refine wpAny_is_plain rfl ?_
      rw [isTrue_val]
      refine hq' _ _ _ (G.kp.trans kg₂) Tg₂ ?_
      show Value.bool _ = Value.bool (udm ls[i] (rs.getD i' ""))
      rw [List.getD_eq_getElem?_getD, hr']; rfl
    · have F₈ := F₇.call k₈ T₈
      have lk' : Lk h' h₈ := (lk_cell hc' hs₆).trans ((k₇.lk F₆.ti).trans (k₈.lk T₇))
      refine st_local 2 F₈ rfl fun h₉ tk₉ F₉ hs₉ => ?_
      have W₉ := W.keeps T F₉.kp
      have lk9 := hw.trans (lk'.trans (lk_ns (F₈.ns 2 rfl) hs₉))
      have hw₉ := hw₂.mono lk9
      have hchk' := hchk i ls[i] lss[i] q (List.getElem?_eq_getElem hi2) (List.getElem?_eq_getElem hi') (by omega) c2 (by rw [← hal]; exact c3)
      obtain ⟨lw, vw, e, hlw, hpw⟩ := id hw₉
      cases e
      have hwl := hpw.length
      rw [List.length_map] at hwl
      obtain ⟨yv, hyv, hyl⟩ := Paired.get hpc (List.getElem?_eq_getElem hi')
      refine wpAny_execs_cons ?_
      refine wpAny_If ?_
      refine wpAny_isTrue_Compare1 ?_
      refine comp_ (fun i' _ y => ∃ r, rs[i']? = some r ∧ VB y (holdsF (labelsF r) lss[i])) (fun _ _ _ _ _ e => e) R'.handled ?_
      refine nm_local (F₉.ns 2 rfl) ?_ hmw
      refine ⟨_, _, _, _, rfl, F₉.ti, .list hlw, by rw [sizeLine_eq]; omega, fun C D' i' v h₃ tk₃ m₃ E₃ Q' hi₃ hv hn₃ hm hk ht hDn hDo hCn hq' => ?_, fun D' h₁₀ tk₁₀ ys' hD' hk₁₀ T₁₀ hl₁₀ hlen₁₀ hF₁₀ => ?_⟩
      · obtain ⟨lab, hlab', hsl⟩ := Paired.getL hpw hv
        rw [List.getElem?_map] at hlab'
        obtain ⟨r', hr', rfl⟩ := Option.map_eq_some_iff.mp hlab'
        have W₃ := W₉.keeps F₉.ti hk
        have lk3 := (F₉.kp.trans hk).lk T
        have hL := hlab r' (List.mem_of_getElem? hr')
        have hL2 := hlis lss[i] (List.getElem_mem hi')
        refine call_fn W₃ (f := 129) (by rfl) (by rfl) ?_
        refine sp_cons ?_
        refine nm_local hn₃ ?_ hm
        refine sp_cons ?_
        refine Subscript_ ?_
        refine nm_cell (cell_keep F₉.ti hk (F₉.cell 4 rfl)) ?_
        refine nm_cell (cell_keep F₉.ti hk (F₉.cell 3 rfl)) ?_
        refine item_l (lk3.isList hlc) (by omega) (by omega) (x := yv) (by rw [Int.toNat_natCast]; exact hyv) ?_
        refine sp_nil ?_
        refine ⟨W₃.X, ?_⟩
        exact call_holds (k := k + 3) R' W₃ ht (hsl.mono (hk.lk F₉.ti)) (hyl.mono lk3) hL.2.1 hL.1 hL2.1 hL.2.2 hL2.2 fun h₄ tk₄ k₄ T₄ => hq' _ _ _ k₄ T₄ ⟨r', hr', rfl⟩
      · have F₁₀ := F₉.call hk₁₀ T₁₀
        refine wpAny_BinOp ?_
        refine wpAny_BinOp ?_
        refine r_list ?_
        refine sp_cons ?_
        refine wpAny_Constant_bool ?_
        refine sp_nil ?_
        refine ⟨_, _, rfl, Nat.le_of_ble_eq_true rfl, fun a1 h₁₁ k₁₁ n₁₁ g₁₁ => ?_⟩
        have F₁₁ := F₁₀.grow k₁₁
        refine nm_local (F₁₁.ns 2 rfl) ?_
        refine mul_l (isList_of g₁₁) (by omega) (by omega) fun a2 h₁₂ k₁₂ n₁₂ hl₁₂ => ?_
        have F₁₂ := F₁₁.grow k₁₂
        refine wpAny_BinOp ?_
        refine r_list ?_
        refine sp_cons ?_
        refine wpAny_Constant_bool ?_
        refine sp_nil ?_
        refine ⟨_, _, rfl, Nat.le_of_ble_eq_true rfl, fun a3 h₁₃ k₁₃ n₁₃ g₁₃ => ?_⟩
        have F₁₃ := F₁₂.grow k₁₃
        have W₁₃ := W.keeps T F₁₃.kp
        have hla₁₃ := (F₁₃.kp.lk T).isList hla0
        refine wpAny_BinOp ?_
        refine r_len W₁₃ (by rfl) ?_
        refine nm_local (F₁₃.ns 2 rfl) ?_ hml
        refine ⟨_, _, _, _, rfl, rfl, hla₁₃, by omega, fun _ _ => ?_⟩
        refine nm_local (F₁₃.ns 2 rfl) ?_
        refine i_sub fun _ _ => ?_
        refine mul_l (isList_of g₁₃) (by omega) (by omega) fun a4 h₁₄ k₁₄ n₁₄ hl₁₄ => ?_
        have F₁₄ := F₁₃.grow k₁₄
        refine cat_l ((lk_stays k₁₄).isList ((lk_stays k₁₃).isList hl₁₂)) hl₁₄ (by rw [List.length_replicate, List.length_replicate]; omega) fun a5 h₁₅ k₁₅ n₁₅ hl₁₅ => ?_
        have F₁₅ := F₁₄.grow k₁₅
        have lk10 : Lk h₁₀ h₁₅ := (lk_stays k₁₁).trans ((lk_stays k₁₂).trans ((lk_stays k₁₃).trans ((lk_stays k₁₄).trans (lk_stays k₁₅))))
        refine d_ne rpB.list (by decide) R' (x := rs.map fun r => holdsF (labelsF r) lss[i]) (y := List.replicate q false ++ List.replicate (rs.length - q) true) ⟨_, _, rfl, lk10.isList hl₁₀, Paired.map_mk (by rw [hlen₁₀, hwl]) fun j y x hy hx => ?_⟩ ⟨_, _, rfl, hl₁₅, ?_⟩ (fun _ _ => trivial) (fun _ _ => trivial) ?_
        · obtain ⟨r', e, z⟩ := hF₁₀ j y hy
          rw [hx] at e; cases e; exact z
        · rw [Int.toNat_natCast, show ((va.length : Int) - q).toNat = rs.length - q by omega]
          exact Paired.append (VB_rep _ _) (VB_rep _ _)
        rw [decide_eq_true hchk']
        refine wpAny_truthy_bool ?_
        refine wpAny_execs_nil ?_
        refine wpAny_execs_cons ?_
        refine wpAny_Expr_any ?_
        with_reducible refine list_meth PySem.F.slot_list_append PySem.F.type_list_append ?_
        refine nm_local (F₁₅.ns 2 rfl) ?_ hmp
        refine ⟨_, _, _, _, rfl, rfl, F₁₅.plist 1 rfl, ?_⟩
        refine callWith_method1 ?_
        refine sp_cons ?_
        refine nm_local (F₁₅.ns 2 rfl) ?_
        refine sp_nil ?_
        refine l_append 1 F₁₅ rfl ?_ fun h₁₆ F₁₆ hs₁₆ => ?_
        · have := hp.length; rw [List.length_map, List.length_take] at this; omega
        refine wpAny_execs_nil ⟨_, h₁₆, _, rfl, F₁₆, _, _, _, rfl, hmp, hml, hmw, ?_, ?_⟩
        · rw [List.take_add_one, List.getElem?_eq_getElem hi', List.map_append]
          have : placeF rs lss[i] = q := by unfold placeF; rw [hchk']; simp [List.count_replicate]
          exact Paired.append hp (.cons ⟨t', by rw [this]⟩ .nil)
        · exact fun b o c e => hs₁₆.extBut b o (by rintro rfl; rw [n₃] at e; cases e) (lk10 b o c (hk₁₀.lk F₉.ti b o c (lk9 b o c e)))
  · obtain ⟨m, vs, tv, rfl, hmp, hml, hmw, hp, hw⟩ := hJ
    refine wpAny_execs_cons ?_
    refine wpAny_Return_some ?_
    refine nm_local (F'.ns 1 rfl) ?_ hmp
    refine hq a vs h' _ F'.kp F'.ti na (F'.plist 0 rfl).isList ?_
    rw [List.take_of_length_le (by omega)] at hp
    exact hp
end
end Mine
end R24

section R25
open PySem PySem.W PyProof.Rows PySem.Calls
set_option maxRecDepth 100000
set_option maxHeartbeats 4000000
namespace Mine

section
variable {prog : Program} {w : World} {A : Around} {E : Value → Shared → Prop} {env : Env}
/-- a comprehension's block whose one cell is its target -/
theorem newEnv1 {M : Model} {s : Shared} {scope : Scope} {globals : Addr} {cl : List (Str × Addr)} {x qual : Str} {Q : Env → Shared → Prop} (hcf : ∀ n, cellsFrom n scope.names cl = (x, n) :: cl) (hpc : ∀ h : Heap, pushCells h scope.names = h.push { cls := .type "cell", data := .cell none })
    (hq : Q (newEnv scope s.heap.objs.size globals ((x, s.heap.objs.size + 1) :: cl) qual none .none (some env) builtinsNs) { s with heap := (s.heap.push { cls := .type "dict", data := .dict #[] }).push { cls := .type "cell", data := .cell none } }) :
    wpAny M A (newFunctionEnv scope globals cl [] qual none .none (some env)) Q E s := by
  simp only [newFunctionEnv, Option.isSome_some, if_true]
  refine wpAny_bind (wpAny_alloc ?_)
  refine wpAny_bind (wpAny_layCells _ (fun name kind cells => by cases hkc : kind == NameKind.cell <;> simp [hkc]) _ _ _ _ ?_)
  rw [hcf, hpc]
  rw [show ({ s with heap := s.heap.push { cls := .type "dict", data := .dict #[] } } : Shared).heap.objs.size = s.heap.objs.size + 1 from Heap.size_push ..]
  simp only [List.forIn_nil]
  exact wpAny_bind (wpAny_pure (wpAny_pure hq))

theorem comp_coreC {s : Shared} {hb : Heap} {tk₀ : Nat} {elt iter : Expr} {x : Str} {px : Pos} {scope : Scope} {cl : List (Str × Addr)} {pos : Pos} {I : Addr} {fp : List Addr} {n : Nat} {P : Nat → Value → Prop} {Z : Nat → Heap → Prop}
    (W : Walks prog w A I fp [I] n P Z) (hsz : n ≤ sizeLine) (F : Nat → Heap → Value → Prop) (mono : ∀ j h h' y, Lk h h' → F j h y → F j h' y) {RR : Value → Addr → Result → Shared → Prop}
    (T : TI hb) (hIt : I ∉ tabs) (hIlt : I < hb.objs.size) (hSt : ∀ i h, Z i h → ∃ o, h.get? I = some o ∧ Plain o ∧ ¬ isL o)
    (hst : Z 0 hb) (hfp : ∀ b ∈ fp, b < hb.objs.size ∧ b ∉ tabs)
    (hcf : ∀ n, cellsFrom n scope.names cl = (x, n) :: cl) (hpc : ∀ h : Heap, pushCells h scope.names = h.push { cls := .type "cell", data := .cell none }) (hkind : scope.kind = .function) (hx : (relabel scope env).names.lookup x = some .cell)
    (helt : ∀ C K D i v h₃ tk₃ E' (Q' : Value → Shared → Prop), i < n → P i v → h₃.IsCell K (some v) → KI I hb h₃ → TI h₃ → hb.get? D = none → (∃ o, h₃.get? D = some o ∧ o.cls = .type "list") → hb.get? C = none → hb.get? K = none →
      (∀ y h' tk, Kp h₃ h' → TI h' → F i (hideAll h' [D]) y → Q' y (St s h' tk)) → wpAny (model prog w) A (eval elt (compEnvC scope ((x, K) :: cl) C env)) Q' E' (St s h₃ tk₃))
    (hRR : ∀ D C h' tk m' (ys : List Value), hb.get? D = none → hb.get? C = none → D ≠ C → h'.Ns C m' → h'.IsList D ys.toArray → ys.length = n → (∀ (j : Nat) y, ys[j]? = some y → F j h' y) → KI I hb h' → TI h' →
      RR (.ref D) C (.ok .next) (St s h' tk)) :
    wpAny (model prog w) A (newList []) (fun acc s₃ => wpAny (model prog w) A (newFunctionEnv scope env.globals cl [] env.qual none .none (some env)) (fun cenv s₄ =>
      codeAny (model prog w) A (.compStart (.ListComp elt [⟨.Name x px, iter, [], 0⟩] scope pos) 0 (.ref I) acc { cenv with scope := relabel scope env }) (RR acc cenv.locals) s₄) E s₃) E (St s hb tk₀) := by
  refine wpAny_newObj_type (newEnv1 hcf hpc ?_)
  show codeAny _ _ (.compStart _ 0 (.ref I) (.ref hb.objs.size) (compEnvC scope ((x, (hb.push { cls := .type "list", dict := none, data := .seq ([] : List Value).toArray }).objs.size + 1) :: cl) (hb.push { cls := .type "list", dict := none, data := .seq ([] : List Value).toArray }).objs.size env)) (RR (.ref hb.objs.size) (hb.push { cls := .type "list", dict := none, data := .seq ([] : List Value).toArray }).objs.size)
    (St s (((hb.push { cls := .type "list", dict := none, data := .seq ([] : List Value).toArray }).push { cls := .type "dict", data := .dict #[] }).push { cls := .type "cell", data := .cell none }) tk₀)
  generalize hH2 : hb.push { cls := .type "list", dict := none, data := .seq ([] : List Value).toArray } = H2
  have hC : H2.objs.size = hb.objs.size + 1 := by rw [← hH2, Heap.size_push]
  have hDC : hb.objs.size ≠ H2.objs.size := by rw [hC]; exact Nat.ne_of_lt (Nat.lt_succ_self _)
  have hns₁ : ((H2.push { cls := .type "dict", data := .dict #[] }).push { cls := .type "cell", data := .cell none }).Ns H2.objs.size (fun _ => none) :=
    ⟨_, #[], 0, Heap.get?_push_of_some _ (Heap.get?_push_size _ rfl), rfl, by intro e he; simp at he, fun _ => rfl⟩
  have hcl₁ : ((H2.push { cls := .type "dict", data := .dict #[] }).push { cls := .type "cell", data := .cell none }).IsCell (H2.objs.size + 1) none := by
    have := Heap.get?_push_size (o := { cls := .type "cell", data := .cell none }) (H2.push { cls := .type "dict", data := .dict #[] }) rfl
    rw [Heap.size_push] at this
    exact ⟨_, this, rfl⟩
  have hkeep : H2.StaysIn ((H2.push { cls := .type "dict", data := .dict #[] }).push { cls := .type "cell", data := .cell none }) := fun b o e => stays_push _ _ _ _ (stays_push _ _ _ _ e)
  generalize ((H2.push { cls := .type "dict", data := .dict #[] }).push { cls := .type "cell", data := .cell none }) = h₁ at hns₁ hcl₁ hkeep ⊢
  have old : hb.StaysIn h₁ := fun b o e => hkeep b o (hH2 ▸ Heap.get?_push_of_some _ e)
  have hst₁ : Z 0 h₁ := W.frame _ _ _ hst fun b _ o e => old b o e
  have fresh : ∀ a, hb.objs.size ≤ a → hb.get? a = none := fun a ha => get_none ha
  have hDn : hb.get? hb.objs.size = none := fresh _ (Nat.le_refl _)
  have hCn : hb.get? H2.objs.size = none := fresh _ (by rw [hC]; exact Nat.le_succ _)
  have hKn : hb.get? (H2.objs.size + 1) = none := fresh _ (by rw [hC]; omega)
  have hacc : h₁.IsList hb.objs.size #[] := ⟨_, hkeep _ _ (hH2 ▸ Heap.get?_push_size _ rfl), rfl, _, rfl⟩
  have hDK : hb.objs.size ≠ H2.objs.size + 1 := by rw [hC]; omega
  have hCK : H2.objs.size ≠ H2.objs.size + 1 := by omega
  have below : ∀ b, b < hb.objs.size → b ≠ H2.objs.size ∧ b ≠ hb.objs.size ∧ b ≠ H2.objs.size + 1 := fun b hb => ⟨by omega, by omega, by omega⟩
  have hDt := T.new hDn
  have hCt := T.new hCn
  have hKt := T.new hKn
  generalize hKe : H2.objs.size + 1 = K at *
  generalize hDe : hb.objs.size = D at *
  generalize hCe : H2.objs.size = C at *
  have hID : I ≠ D := Nat.ne_of_lt hIlt
  have hIC : I ≠ C := (below I hIlt).1
  have hIK : I ≠ K := (below I hIlt).2.2
  have loop : ∀ s₃ : Shared, s₃ = St s h₁ tk₀ →
      codeAny (model prog w) A (.compLoop (.ListComp elt [⟨.Name x px, iter, [], 0⟩] scope pos) 0 (.ref I) (.ref D) (compEnvC scope ((x, K) :: cl) C env)) (RR (.ref D) C) s₃ := by
    rintro s₃ rfl
    refine codeAny_compLoop_tests
      (fun k s' => ∃ h' tk m' vo ys i, s' = St s h' tk ∧ Z i h' ∧ h'.IsList D (List.toArray ys) ∧ h'.Ns C m' ∧ h'.IsCell K vo ∧ ys.length = i ∧ (∀ (j : Nat) y, ys[j]? = some y → F j (hideAll h' [D]) y) ∧ i ≤ n ∧ k = n + 1 - i ∧ KI I hb h' ∧ TI h') ?_ (n + 1)
      ⟨h₁, _, _, _, [], 0, rfl, hst₁, hacc, hns₁, hcl₁, rfl, fun j v e => by simp at e, Nat.zero_le _, rfl, fun b o _ _ e => old b o e, T.stays old⟩
    rintro k s' ⟨h', tk, m', vo, ys, i, rfl, hst', hl', hn', hc', hlen, hF, hi, rfl, hk, ht⟩
    by_cases hlt : i < n
    · refine W.item i _ _ _ hlt hst' fun v h₂ tk₂ hv hst₂ hk₂ => ?_
      have hk₂ : ∀ b o, b ∉ [I] → h'.get? b = some o → h₂.get? b = some o := hk₂
      have hk₂' : Heap.ExtBut I h' h₂ := fun b o hb e => hk₂ b o (fun m => hb (by simpa using m)) e
      obtain ⟨oi, hoi, hpi, hli⟩ := hSt _ _ hst'
      have ht₂ : TI h₂ := ht.upd hk₂' hoi hpi
      have hc₂ : h₂.IsCell K vo := by obtain ⟨o, e, hd⟩ := hc'; exact ⟨o, hk₂' _ _ (Ne.symm hIK) e, hd⟩
      refine wpAny_assign_Name (wpAny_storeName_cell (env := compEnvC scope ((x, K) :: cl) C env) hkind hx (by show List.lookup x ((x, K) :: cl) = some K; simp [List.lookup]) hc₂ (fun h₃ hc₃ hs₃ => ?_))
      dsimp only at hc₃ hs₃ ⊢
      refine wpAny_tests_nil ?_
      rw [if_pos rfl]
      have hs₃' : Heap.ExtBut K h₂ h₃ := hs₃.extBut
      obtain ⟨oK, hoK, hdK⟩ := id hc₂
      have hKp : Plain oK := .inl fun _ e => by rw [hdK] at e; cases e
      have ht₃ : TI h₃ := ht₂.upd hs₃' hoK hKp
      have hst₃ : Z (i + 1) h₃ := W.frame _ _ _ hst₂ fun b hb o e => hs₃' b o (below b (hfp b hb).1).2.2 e
      have hk₃ : KI I hb h₃ := fun b o hb hbI e => hs₃' b o (below b (hDe ▸ Heap.lt_size e)).2.2 (hk₂' b o hbI (hk b o hb hbI e))
      have hl₃ : h₃.IsList D ys.toArray := (hl'.extBut hk₂' (Ne.symm hID)).extBut hs₃' hDK
      have hn₃ : h₃.Ns C m' := (hn'.extBut hk₂' (Ne.symm hIC)).extBut hs₃' hCK
      have lk₁ : Lk (hideAll h' [D]) (hideAll h₃ [D]) := fun b o hc e => by
        have e0 := of_hideAll _ e
        have hbD : b ≠ D := by rintro rfl; rw [hideAll_none _ (List.mem_singleton_self _)] at e; cases e
        have hbI : b ≠ I := by rintro rfl; rw [hoi] at e0; cases e0; exact hli hc
        have e1 := hk₂' b o hbI e0
        have hbK : b ≠ K := by
          rintro rfl
          rw [hoK] at e1; cases e1
          obtain ⟨_, _, _, q⟩ := hc
          rw [hdK] at q; cases q
        exact hideAll_get _ (hs₃' b o hbK e1) (by simpa using hbD)
      have hDo : ∃ o, h₃.get? D = some o ∧ o.cls = .type "list" := let ⟨o, e, c, _⟩ := hl₃; ⟨o, e, c⟩
      refine helt C K D i v _ _ _ _ hlt hv hc₃ hk₃ ht₃ hDn hDo hCn hKn fun y h₄ tk₄ hk₄ ht₄ hFy => ?_
      have hl₄ : h₄.IsList D ys.toArray := (hk₄.lk ht₃).isList hl₃
      have hys : (List.toArray ys).size ≤ sizeLine := by
        rw [List.size_toArray]; omega
      refine wpAny_list_append (hsz := hys) hl₄ fun h₅ hl₅ hs₅ => ?_
      have hs₅' : Heap.ExtBut D h₄ h₅ := hs₅.extBut
      obtain ⟨oD, hoD, hcD, nD, hdD⟩ := hl₄
      have ht₅ : TI h₅ := ht₄.upd hs₅' hoD (.inl fun _ e => by rw [hdD] at e; cases e)
      have hn₅ := (ns_keep ht₃ hk₄ hn₃).sameBut hs₅ (Ne.symm hDC)
      have hc₅ : h₅.IsCell K (some v) := by obtain ⟨o, e, hd⟩ := cell_keep ht₃ hk₄ hc₃; exact ⟨o, hs₅' _ _ (Ne.symm hDK) e, hd⟩
      refine ⟨n + 1 - (i + 1), by omega, h₅, tk₄, _, _, ys ++ [y], i + 1, rfl, ?_, ?_, hn₅, hc₅, by simp [hlen], ?_, hlt, rfl, ?_, ht₅⟩
      · refine W.frame _ _ _ hst₃ fun b hb o e => hs₅' b o (below b (hfp b hb).1).2.1 (hk₄ b o (hfp b hb).2 e)
      · simpa using hl₅
      · have lk₂ : Lk (hideAll h₃ [D]) (hideAll h₅ [D]) := fun b o hc e => by
          have hbD : b ≠ D := by rintro rfl; rw [hideAll_none _ (List.mem_singleton_self _)] at e; cases e
          exact hideAll_get _ (hs₅' b o hbD (hk₄.lk ht₃ b o hc (of_hideAll _ e))) (by simpa using hbD)
        have lk₃ : Lk (hideAll h₄ [D]) (hideAll h₅ [D]) := fun b o hc e => by
          have hbD : b ≠ D := by rintro rfl; rw [hideAll_none _ (List.mem_singleton_self _)] at e; cases e
          exact hideAll_get _ (hs₅' b o hbD (of_hideAll _ e)) (by simpa using hbD)
        intro j u e
        rcases Nat.lt_trichotomy j i with hj | hj | hj
        · rw [List.getElem?_append_left (by omega)] at e
          exact mono _ _ _ _ (lk₁.trans lk₂) (hF j u e)
        · subst hj
          rw [List.getElem?_append_right (by omega), hlen] at e
          simp at e; subst e
          exact mono _ _ _ _ lk₃ hFy
        · rw [List.getElem?_eq_none (by simp; omega)] at e; cases e
      · exact fun b o hb hbI e => hs₅' b o (below b (hDe ▸ Heap.lt_size e)).2.1 (hk₄ b o hb (hk₃ b o hb hbI e))
    · have hin : i = n := by omega
      subst hin
      refine W.done _ _ _ hst' fun h₂ tk₂ hk₂ => ?_
      have hk₂ : ∀ b o, b ∉ [I] → h'.get? b = some o → h₂.get? b = some o := hk₂
      have hk₂' : Heap.ExtBut I h' h₂ := fun b o hb e => hk₂ b o (fun m => hb (by simpa using m)) e
      obtain ⟨oi, hoi, hpi, hli⟩ := hSt _ _ hst'
      have ht₂ : TI h₂ := ht.upd hk₂' hoi hpi
      refine hRR D C h₂ tk₂ m' ys hDn hCn hDC (hn'.extBut hk₂' (Ne.symm hIC)) (hl'.extBut hk₂' (Ne.symm hID)) hlen (fun j y e => ?_) (fun b o hb hbI e => hk₂' b o hbI (hk b o hb hbI e)) ht₂
      refine mono _ _ _ _ (fun b o hc e => ?_) (hF j y e)
      have e0 := of_hideAll _ e
      exact hk₂' b o (by rintro rfl; rw [hoi] at e0; cases e0; exact hli hc) e0
  exact codeAny_compStart_list (loop _ rfl) (W.self 0 _ _ _ hst₁ (loop _ rfl))

/-- a comprehension whose target is a cell -/
theorem compC {s : Shared} {h : Heap} {tk : Nat} {elt iter : Expr} {x : Str} {px : Pos} {scope : Scope} {cl : List (Str × Addr)} {pos : Pos} {Q : Value → Shared → Prop} (F : Nat → Heap → Value → Prop) (mono : ∀ j h h' y, Lk h h' → F j h y → F j h' y)
    (hh : A.handled = none)
    (hq : wpAny (model prog w) A (eval iter env) (fun v s₁ => ∃ n P h₁ tk₁, s₁ = St s h₁ tk₁ ∧ TI h₁ ∧ Src h₁ v n P ∧ n ≤ sizeLine ∧
      (∀ C K D i v h₃ tk₃ E' (Q' : Value → Shared → Prop), i < n → P i v → h₃.IsCell K (some v) → Kp h₁ h₃ → TI h₃ → h₁.get? D = none → (∃ o, h₃.get? D = some o ∧ o.cls = .type "list") → h₁.get? C = none →
        (∀ y h' tk', Kp h₃ h' → TI h' → F i (hideAll h' [D]) y → Q' y (St s h' tk')) → wpAny (model prog w) A (eval elt (compEnvC scope ((x, K) :: cl) C env)) Q' E' (St s h₃ tk₃)) ∧
      ∀ D h' tk' (ys : List Value), h₁.get? D = none → Kp h₁ h' → TI h' → h'.IsList D ys.toArray → ys.length = n → (∀ (j : Nat) y, ys[j]? = some y → F j h' y) → Q (.ref D) (St s h' tk')) E (St s h tk))
    (hclos : closureFor scope env = pure cl := by rfl) (hcf : ∀ n, cellsFrom n scope.names cl = (x, n) :: cl := by intro _; rfl) (hpc : ∀ h : Heap, pushCells h scope.names = h.push { cls := .type "cell", data := .cell none } := by intro _; rfl) (hkind : scope.kind = .function := by rfl)
    (hnames : ∀ y ∈ scope.names, y.2 = .local → scope.names.lookup y.1 = some .local := by decide) (hx : (relabel scope env).names.lookup x = some .cell := by rfl)
    (hs : ∀ x, foldedSetIterable iter env x = pure x := by intro _; rfl) :
    wpAny (model prog w) A (eval (.ListComp elt [⟨.Name x px, iter, [], 0⟩] scope pos) env) Q E (St s h tk) := by
  rw [eval_ListComp]
  refine wpAny_comprehension_free (use := none) rfl hs hclos hkind hnames (wpAny_mono hq (fun v s₁ h₁ => ?_) fun _ _ e => e)
  obtain ⟨n, P, h₁, tk₁, rfl, T, S, hsz, helt, hQ⟩ := h₁
  refine src_iter hh T S fun I h' fp Z k hIn hIlt hIt T' W hSt hst hfp => ?_
  refine comp_coreC (RR := fun acc C => compPost (model prog w) A E none Q acc C) W hsz F mono T' hIt hIlt hSt hst hfp hcf hpc hkind hx (fun C K D i v h₃ tk₃ E' Q' hi hv hcl hk ht hD hDo hC hK hq => ?_) ?_
  · refine helt C K D i v h₃ tk₃ E' Q' hi hv hcl (fun b o hb e => hk b o hb (by rintro rfl; rw [hIn] at e; cases e) (k b o e)) ht ?_ hDo ?_ hq
    · exact (Kp.of k).none (T'.new hD) hD
    · exact (Kp.of k).none (T'.new hC) hC
  · intro D C h₂ tk m' ys hD hC hDC hn hl hlen hF hk ht
    refine ⟨m', hn, fun h₃ hs₃ => ?_⟩
    obtain ⟨oC, es, ep, hoC, hdC, rC⟩ := hn
    have hpC : Plain oC := .inl fun _ e => by rw [hdC] at e; cases e
    have hC₁ := (Kp.of k).none (T'.new hC) hC
    refine hQ D h₃ tk ys ((Kp.of k).none (T'.new hD) hD) (fun b o hb e => ?_) (ht.upd hs₃.extBut hoC hpC) (hl.extBut hs₃.extBut hDC) hlen (fun j y e => mono _ _ _ _ (fun b o hc e => ?_) (hF j y e))
    · exact hs₃.extBut b o (by rintro rfl; rw [hC₁] at e; cases e) (hk b o hb (by rintro rfl; rw [hIn] at e; cases e) (k b o e))
    · exact hs₃.extBut b o (by rintro rfl; rw [hoC] at e; cases e; obtain ⟨_, _, _, q⟩ := hc; rw [hdC] at q; cases q) e
end
end Mine
end R25

section R26
open PySem PySem.W PyProof.Rows PySem.Calls PySem.Builtin.Str
set_option maxRecDepth 100000
set_option maxHeartbeats 4000000
namespace Mine

theorem ints_of {vs : List Value} {ns : List Int} (p : Paired VI vs ns) : IntsAre vs ns := by
  induction p with
  | nil => exact .nil
  | cons h _ ih => obtain ⟨t, rfl⟩ := h; exact .cons _ t ih
abbrev TL := LOf (fun _ => VT)
abbrev TLL := LOf TL
theorem TL.mono {h h' : Heap} {v : Value} {xs : List Nat} (k : Lk h h') (x : TL h v xs) : TL h' v xs := LOf.mono k (fun _ _ e => e) x
theorem TLL.mono {h h' : Heap} {v : Value} {xs : List (List Nat)} (k : Lk h h') (x : TLL h v xs) : TLL h' v xs := LOf.mono k (fun _ _ e => TL.mono k e) x

section
variable {prog : Program} {w : World} {A : Around} {s : Shared} {h : Heap} {tk : Nat} {K : Frag} {mg mb : Str → Option Value} {E : Value → Shared → Prop} {Q : Value → Shared → Prop} {env : Env}
theorem c_min {l : Addr} {vs : List Value} {ns : List Int} (hh : A.handled = none) (hl : h.IsList l vs.toArray) (hp : Paired VI vs ns) (hne : 0 < ns.length)
    (hq : ∀ M t h' tk', h.StaysIn h' → M ∈ ns → (∀ a ∈ ns, M ≤ a) → Q (.int M t) (St s h' tk')) : wpAny (model prog w) A (call (.builtin "min") [.ref l]) Q E (St s h tk) := by
  have hi := ints_of hp
  obtain ⟨xs, e⟩ := hi.allInts.items
  have hns : ns = xs.toList.map (·.1) := by
    rw [← hi.numsOf, ← nums_intItems, ← e]
  have hsz : 0 < xs.size := by
    have h3 := hne; rw [hns, List.length_map, Array.length_toList] at h3; exact h3
  rw [e] at hl
  refine min_intList (s := St s h tk) hh hl hsz fun v h' tk hv hk => ?_
  obtain ⟨t, rfl⟩ := intItems_at hv
  obtain ⟨h1, h2⟩ := argBest_lt (numAt xs) (xs.size - 1)
  refine hq _ t h' tk hk ?_ fun a ha => ?_
  · rw [hns, numAt_eq]; exact PySem.getD_mem (by rw [List.length_map, Array.length_toList]; omega)
  · rw [hns] at ha
    obtain ⟨j, hj, rfl⟩ := mem_getD ha
    rw [List.length_map, Array.length_toList] at hj
    rw [← numAt_eq]; exact h2 j (by omega)
theorem r_min {np pos : Pos} {e : Expr} (hh : A.handled = none) (W : Wd K mg mb h) (en : nsIn K mainGlobals (Str.ofString "min") = some none)
    (hq : wpAny (model prog w) A (eval e env) (fun v s₁ => ∃ a vs ns h₁ tk₁, v = .ref a ∧ s₁ = St s h₁ tk₁ ∧ h₁.IsList a (List.toArray vs) ∧ Paired VI vs ns ∧ 0 < ns.length ∧ ∀ M t h' tk', h₁.StaysIn h' → M ∈ ns → (∀ a ∈ ns, M ≤ a) → Q (.int M t) (St s h' tk')) E (St s h tk))
    (hg : env.globals = mainGlobals := by rfl) (hb : env.builtins = builtinsNs := by rfl) (hk : env.scope.kind = .function := by rfl) (hl : env.kindOf (Str.ofString "min") = some .globalImplicit := by rfl)
    (he : starEach [e] env = [(false, eval e env)] := by rfl) : wpAny (model prog w) A (eval (.Call (.Name (Str.ofString "min") np) [e] [] pos) env) Q E (St s h tk) := by
  refine wpAny_Call_ofName (nm_built W en boot_min (PyProof.Rows.callWith_builtin1 (sp_cons (wpAny_mono hq (fun v s₁ h₁ => ?_) fun _ _ e => e) he) he) (by decide) hg hb hk hl)
  obtain ⟨a, vs, ns, h₂, tk₂, rfl, rfl, hl, hp, h0, hq⟩ := h₁
  exact sp_nil (c_min hh hl hp h0 hq)
end

/-- how often two of the row meet, by their places -/
def meetF (row : List Nat) (lads : List (List Str)) (tabl : List (List Nat)) (i j : Nat) : Int := ((lads.getD (row.getD i 0) []).length : Int) - ((tabl.getD (row.getD i 0) []).getD (row.getD j 0) 0 : Nat)
def meetL (row : List Nat) (lads : List (List Str)) (tabl : List (List Nat)) (i : Nat) : List Int := (List.range row.length).map (meetF row lads tabl i)

theorem meet_at {h : Heap} {D : Addr} {row : List Nat} {lads : List (List Str)} {tabl : List (List Nat)} (x : ILL h (.ref D) ((List.range row.length).map (meetL row lads tabl))) {i j : Nat} (hi : i < row.length) (hj : j < row.length) :
    ∃ vs lw wv t, h.IsList D (List.toArray vs) ∧ vs[i]? = some (.ref lw) ∧ h.IsList lw (List.toArray wv) ∧ wv[j]? = some (.int (meetF row lads tabl i j) t) := by
  obtain ⟨a, vs, e, hl, hp⟩ := x
  cases e
  obtain ⟨y, hy, lw, wv, rfl, hlw, hpw⟩ := Paired.get hp (i := i) (y := meetL row lads tabl i) (by rw [List.getElem?_map, List.getElem?_range hi]; rfl)
  obtain ⟨z, hz, t, rfl⟩ := Paired.get hpw (i := j) (y := meetF row lads tabl i j) (by unfold meetL; rw [List.getElem?_map, List.getElem?_range hj]; rfl)
  exact ⟨vs, lw, wv, t, hl, hy, hlw, hz⟩

section
variable {prog : Program} {w : World} {A : Around} {s : Shared} {h : Heap} {tk : Nat} {mg mb : Str → Option Value} {E : Value → Shared → Prop} {Q : Value → Shared → Prop} {env : Env}
theorem call_near {av bv cv : Value} {row : List Nat} {lads : List (List Str)} {tabl : List (List Nat)} {k : Nat} (R : Rm A (k + 2)) (W : Wd (KK w) mg mb h) (T : TI h) (ha : TL h av row) (hb : SLL h bv lads) (hc : TLL h cv tabl)
    (hrow : row.length ≤ 50) (hln : lads.length ≤ 50) (hrl : ∀ i ∈ row, i < lads.length) (htl : tabl.length = lads.length) (htt : ∀ l ∈ tabl, l.length = lads.length) (hlad : ∀ l ∈ lads, l.length ≤ 1000)
    (hnear : ∀ i j : Nat, j < i → i < row.length → (∃ p, j ≤ p ∧ p < i ∧ meetF row lads tabl p (p + 1) = meetF row lads tabl i j) ∧ (∀ p, j ≤ p → p < i → meetF row lads tabl i j ≤ meetF row lads tabl p (p + 1)) ∧ meetF row lads tabl j i = meetF row lads tabl i j)
    (hq : ∀ h' tk', Kp h h' → TI h' → Q (.bool true) (St s h' tk')) : wpAny (model prog w) A (call (.ref 139) [av, bv, cv]) Q E (St s h tk) := by
  refine enterC (binds := [(Str.ofString "row", av), (Str.ofString "ladders", bv), (Str.ofString "tables", cv)]) R W T (by rfl) (by rfl) rfl rfl (by decide) (fun L h₁ tk₁ E' B R' => ?_) rfl rfl rfl
  have W₁ := W.keeps T B.kp
  obtain ⟨la, va, rfl, hla, hpa⟩ := id ha
  obtain ⟨lb, vb, rfl, hlb, hpb⟩ := id hb
  obtain ⟨lc, vc, rfl, hlc, hpc⟩ := id hc
  have hal := hpa.length
  have hla₁ := (B.kp.lk T).isList hla
  refine wpAny_execs_cons ?_
  refine wpAny_Assign_Name ?_
  refine compC (fun i h y => IL h y (meetL row lads tabl i)) (fun j h h' y lk x => x.mono lk) R'.handled ?_
  refine nm_cell (B.cell 4 rfl) ?_
  refine ⟨_, _, _, _, rfl, B.ti, .list hla₁, by rw [sizeLine_eq]; omega, fun C K D i v h₃ tk₃ E₃ Q' hi hv hcell hk ht hDn hDo hCn hq' => ?_, fun D h₂ tk₂ ys hD hk₂ T₂ hl₂ hlen hF => ?_⟩
  · obtain ⟨ri, hri, ti, rfl⟩ := Paired.getL hpa hv
    have kk : Kp h h₃ := B.kp.trans hk
    have hla₃ := (kk.lk T).isList hla
    have hri' := hrl ri (List.mem_of_getElem? hri)
    have hrt : ri < tabl.length := by omega
    refine comp_ (fun j _ y => VI y (meetF row lads tabl i j)) (fun _ _ _ _ _ e => e) R'.handled ?_
    refine nm_cell (cell_keep B.ti hk (B.cell 4 rfl)) ?_
    refine ⟨_, _, _, _, rfl, ht, .list hla₃, by rw [sizeLine_eq]; omega, fun C' D' j v' h₄ tk₄ m₄ E₄ Q'' hj hv' hn₄ hm₄ hk₄ ht₄ hDn' hDo' hCn' hq'' => ?_, fun D' h₄ tk₄ ys hD' hk₄ T₄ hl₄ hlen₄ hF₄ => ?_⟩
    · obtain ⟨rj, hrj, tj, rfl⟩ := Paired.getL hpa hv'
      have hrj' := hrl rj (List.mem_of_getElem? hrj)
      have W₄ := W.keeps T (kk.trans hk₄)
      have lk4 := (kk.trans hk₄).lk T
      have hrt2 : rj < tabl[ri].length := by rw [htt _ (List.getElem_mem hrt)]; exact hrj'
      obtain ⟨yb, hyb, hybl⟩ := Paired.get hpb (List.getElem?_eq_getElem hri')
      obtain ⟨yc, hyc, hycl⟩ := Paired.get hpc (List.getElem?_eq_getElem hrt)
      obtain ⟨lyb, vyb, rfl, hlyb, hpyb⟩ := hybl.mono lk4
      obtain ⟨lyc, vyc, rfl, hlyc, hpyc⟩ := hycl.mono lk4
      obtain ⟨z, hz, tz, rfl⟩ := Paired.get hpyc (List.getElem?_eq_getElem hrt2)
      have hbl := hpyb.length
      have hll := hlad _ (List.getElem_mem hri')
      have c1 := cell_keep ht hk₄ hcell
      have c2 := cell_keep ht hk₄ (cell_keep B.ti hk (B.cell 3 rfl))
      have c3 := cell_keep ht hk₄ (cell_keep B.ti hk (B.cell 2 rfl))
      refine wpAny_BinOp ?_
      refine r_len W₄ (by rfl) ?_
      refine Subscript_ ?_
      refine nm_cell c2 ?_
      refine nm_cell c1 ?_
      refine item_l (lk4.isList hlb) (by omega) (by omega) (x := .ref lyb) (by rw [Int.toNat_natCast]; exact hyb) ?_
      refine ⟨_, _, _, _, rfl, rfl, hlyb, by omega, fun _ _ => ?_⟩
      refine Subscript_ ?_
      refine Subscript_ ?_
      refine nm_cell c3 ?_
      refine nm_cell c1 ?_
      refine item_l (lk4.isList hlc) (by omega) (by omega) (x := .ref lyc) (by rw [Int.toNat_natCast]; exact hyc) ?_
      refine nm_local hn₄ ?_ hm₄
      refine item_l hlyc (by omega) (by omega) (x := .int tabl[ri][rj] tz) (by rw [Int.toNat_natCast]; exact hz) ?_
      refine i_sub fun t' tk' => ?_
      refine hq'' _ _ _ (Kp.refl _) ht₄ ⟨t', ?_⟩
      unfold meetF
      rw [List.getD_eq_getElem?_getD (l := row) (i := i), hri, List.getD_eq_getElem?_getD (l := row) (i := j), hrj]
      simp only [Option.getD_some]
      rw [List.getD_eq_getElem?_getD (l := lads), List.getElem?_eq_getElem hri', List.getD_eq_getElem?_getD (l := tabl), List.getElem?_eq_getElem hrt]
      simp only [Option.getD_some]
      rw [List.getD_eq_getElem?_getD (l := tabl[ri]), List.getElem?_eq_getElem hrt2, hbl]
      rfl
    · refine hq' (.ref D') h₄ tk₄ hk₄ T₄ ⟨D', ys, rfl, isList_hide hl₄ ?_, Paired.map_mk (by rw [hlen₄, List.length_range, hal]) fun j y x hy hx => ?_⟩
      · rintro rfl
        obtain ⟨o, e, _⟩ := hDo
        rw [hD'] at e; cases e
      · obtain ⟨h1, h2⟩ := List.getElem?_eq_some_iff.mp hx
        rw [List.getElem_range] at h2
        subst h2
        exact hF₄ _ y hy
  have B₂ := B.call hk₂ T₂
  have hc₂ := B₂.cell 1 rfl
  refine st_cell 1 B₂ rfl fun h₃ tk₃ B₃ hs₃ => ?_
  have hM₃ : ILL h₃ (.ref D) ((List.range row.length).map (meetL row lads tabl)) := ⟨D, ys, rfl, (lk_cell hc₂ hs₃).isList hl₂, Paired.map_mk (by rw [hlen, List.length_range, hal]) fun j y x hy hx => by
    obtain ⟨h1, h2⟩ := List.getElem?_eq_some_iff.mp hx
    rw [List.getElem_range] at h2
    subst h2
    exact (hF _ y hy).mono (lk_cell hc₂ hs₃)⟩
  have W₃ := W.keeps T B₃.kp
  refine wpAny_execs_cons (for_range R'.handled (g := h) (fun i own h => ∃ m, own = [(L, pNs m), (L + 4, pCell (some (.ref D))), (L + 3, pCell (some (.ref lc))), (L + 2, pCell (some (.ref lb))), (L + 1, pCell (some (.ref la)))] ∧ ILL h (.ref D) ((List.range row.length).map (meetL row lads tabl)))
    (fun i own h h' lk ⟨m, e1, e2⟩ => ⟨m, e1, e2.mono lk⟩) ?_)
  have hla₃ := (B₃.kp.lk T).isList hla
  refine range1 W₃ (by rfl) ?_
  refine r_len W₃ (by rfl) ?_
  refine nm_cell (B₃.cell 4 rfl) ?_
  refine ⟨_, _, _, _, rfl, rfl, hla₃, by omega, fun t' tk' => ?_⟩
  refine ⟨_, _, _, _, rfl, rfl, fun r h₅ tk₅ t₅ u₅ z₅ k₅ hr => ?_⟩
  refine ⟨r, _, _, _, _, _, _, _, _, rfl, rfl, hr, ⟨by decide, by decide, by omega, by omega⟩, B₃.grow k₅, ⟨_, rfl, hM₃.mono (lk_stays k₅)⟩, fun I p i own' h' tk tk' E₂ hi hJ F' => ?_, fun own' h' tk hJ F' => ?_⟩
  · obtain ⟨m, rfl, hM⟩ := hJ
    have hi' : i < row.length := by omega
    rw [show (0 : Int) + (i : Int) = (i : Int) by omega]
    refine st_local 1 F' rfl fun h₆ tk₆ F₆ hs₆ => ?_
    have hM₆ := hM.mono (lk_ns (F'.ns 1 rfl) hs₆)
    have W₆ := W.keeps T F₆.kp
    refine wpAny_execs_cons (for_range R'.handled (g := h) (fun j own h => ∃ m tt, own = [(I, p), (L, pNs m), (L + 4, pCell (some (.ref D))), (L + 3, pCell (some (.ref lc))), (L + 2, pCell (some (.ref lb))), (L + 1, pCell (some (.ref la)))] ∧ m (Str.ofString "one") = some (.int i tt) ∧ ILL h (.ref D) ((List.range row.length).map (meetL row lads tabl)))
      (fun i own h h' lk ⟨m, tt, e1, e2, e3⟩ => ⟨m, tt, e1, e2, e3.mono lk⟩) ?_)
    refine range1 W₆ (by rfl) ?_
    refine nm_local (F₆.ns 1 rfl) ?_
    refine ⟨_, _, _, _, rfl, rfl, fun r₇ h₇ tk₇ t₇ u₇ z₇ k₇ hr₇ => ?_⟩
    refine ⟨r₇, _, _, _, _, _, _, _, _, rfl, rfl, hr₇, ⟨by decide, by decide, by omega, by omega⟩, F₆.grow k₇, ⟨_, _, rfl, rfl, hM₆.mono (lk_stays k₇)⟩, fun I₂ p₂ j own₂ h₈ tk₈ tk₈' E₈ hj hJ₂ F₈ => ?_, fun own₂ h₈ tk₈ hJ₂ F₈ => ?_⟩
    · obtain ⟨m₂, tt, rfl, hone, hM₈⟩ := hJ₂
      have hj' : j < i := by omega
      rw [show (0 : Int) + (j : Int) = (j : Int) by omega]
      refine st_local 2 F₈ rfl fun h₉ tk₉ F₉ hs₉ => ?_
      have hM₉ := hM₈.mono (lk_ns (F₈.ns 2 rfl) hs₉)
      have W₉ := W.keeps T F₉.kp
      have hj2 : j < row.length := by omega
      obtain ⟨⟨p₀, hp1, hp2, hp3⟩, hmin, hsym⟩ := hnear i j hj' hi'
      refine wpAny_execs_cons ?_
      refine wpAny_Assign_Name ?_
      refine r_min R'.handled W₉ (by rfl) ?_
      refine comp_ (fun q _ y => VI y (meetF row lads tabl (j + q) (j + q + 1))) (fun _ _ _ _ _ e => e) R'.handled ?_
      refine range2 W₉ (by rfl) ?_
      refine nm_local (F₉.ns 2 rfl) ?_
      refine nm_local (F₉.ns 2 rfl) ?_ hone
      refine ⟨_, _, _, _, _, _, rfl, rfl, rfl, fun r h₁₀ tk₁₀ t₁₀ u₁₀ z₁₀ k₁₀ hr₁₀ => ?_⟩
      have F₁₀ := F₉.grow k₁₀
      have hM₁₀ := hM₉.mono (lk_stays k₁₀)
      refine ⟨_, _, _, _, rfl, F₁₀.ti, .range hr₁₀ (by omega) (by omega) (by omega) (by omega), by rw [sizeLine_eq]; omega, fun C₃ D₃ q v h₃ tk₃ m₃ E₃ Q' hq₃ hv hn₃ hm hk ht hDn hDo hCn hq' => ?_, fun D₃ h₁₁ tk₁₁ ys₃ hD₃ hk₁₁ T₁₁ hl₁₁ hlen₁₁ hF₁₁ => ?_⟩
      · obtain ⟨t₃, rfl⟩ := hv
        obtain ⟨vs, lw, wv, tw, g1, g2, g3, g4⟩ := meet_at (hM₁₀.mono (hk.lk F₁₀.ti)) (i := j + q) (j := j + q + 1) (by omega) (by omega)
        refine Subscript_ ?_
        refine Subscript_ ?_
        refine nm_cell (cell_keep F₁₀.ti hk (F₁₀.cell 3 rfl)) ?_
        refine nm_local hn₃ ?_ hm
        refine item_l g1 (by omega) (by omega) (x := .ref lw) (by rw [show ((j : Int) + q * 1).toNat = j + q by omega]; exact g2) ?_
        refine wpAny_BinOp ?_
        refine nm_local hn₃ ?_ hm
        refine c_int fun _ _ => ?_
        refine i_add fun _ _ => ?_
        refine item_l g3 (by omega) (by omega) (by rw [show ((j : Int) + q * 1 + 1).toNat = j + q + 1 by omega]; exact g4) ?_
        exact hq' _ _ _ (Kp.refl _) ht ⟨_, rfl⟩
      have F₁₁ := F₁₀.call hk₁₁ T₁₁
      refine ⟨_, ys₃, (List.range (i - j)).map fun q => meetF row lads tabl (j + q) (j + q + 1), _, _, rfl, rfl, hl₁₁, Paired.map_mk (by rw [hlen₁₁, List.length_range]; omega) (fun e y x hy hx => ?_), by rw [List.length_map, List.length_range]; omega, fun M tM h₁₂ tk₁₂ k₁₂ hMm hMle => ?_⟩
      · obtain ⟨h1, h2⟩ := List.getElem?_eq_some_iff.mp hx
        rw [List.getElem_range] at h2
        subst h2
        exact hF₁₁ _ y hy
      have hMe : M = meetF row lads tabl i j := by
        obtain ⟨q, hq1, rfl⟩ := List.mem_map.mp hMm
        have hq2 := List.mem_range.mp hq1
        refine Int.le_antisymm ?_ (hmin _ (by omega) (by omega))
        have := hMle _ (List.mem_map.mpr ⟨p₀ - j, List.mem_range.mpr (by omega), rfl⟩)
        rw [show j + (p₀ - j) = p₀ by omega, hp3] at this
        exact this
      subst hMe
      have F₁₂ := F₁₁.grow k₁₂
      refine st_local 2 F₁₂ rfl fun h₁₃ tk₁₃ F₁₃ hs₁₃ => ?_
      have hM₁₃ := hM₁₀.mono (((hk₁₁.lk F₁₀.ti).trans (lk_stays k₁₂)).trans (lk_ns (F₁₂.ns 2 rfl) hs₁₃))
      obtain ⟨vs, lw, wv, tw, g1, g2, g3, g4⟩ := meet_at hM₁₃ hi' hj2
      obtain ⟨vs', lw', wv', tw', g1', g2', g3', g4'⟩ := meet_at hM₁₃ hj2 hi'
      refine wpAny_execs_cons ?_
      refine wpAny_If ?_
      refine wpAny_isTrue_BoolOp ?_
      refine wpAny_allTrue_Or_cons ?_
      refine wpAny_isTrue_Compare1 ?_
      refine Subscript_ ?_
      refine Subscript_ ?_
      refine nm_cell (F₁₃.cell 3 rfl) ?_
      refine nm_local (F₁₃.ns 2 rfl) ?_ hone
      refine item_l g1 (by omega) (by omega) (x := .ref lw) (by rw [Int.toNat_natCast]; exact g2) ?_
      refine nm_local (F₁₃.ns 2 rfl) ?_
      refine item_l g3 (by omega) (by omega) (by rw [Int.toNat_natCast]; exact g4) ?_
      refine nm_local (F₁₃.ns 2 rfl) ?_
      refine PyProof.Rows.ne_int ?_
      refine wpAny_truthy_bool ?_
      rw [bne_self_eq_false, if_neg (by decide)]
      refine wpAny_allTrue_Or_cons ?_
      refine wpAny_isTrue_Compare1 ?_
      refine Subscript_ ?_
      refine Subscript_ ?_
      refine nm_cell (F₁₃.cell 3 rfl) ?_
      refine nm_local (F₁₃.ns 2 rfl) ?_
      refine item_l g1' (by omega) (by omega) (x := .ref lw') (by rw [Int.toNat_natCast]; exact g2') ?_
      refine nm_local (F₁₃.ns 2 rfl) ?_ hone
      refine item_l g3' (by omega) (by omega) (by rw [Int.toNat_natCast]; exact g4') ?_
      refine nm_local (F₁₃.ns 2 rfl) ?_
      refine PyProof.Rows.ne_int ?_
      refine wpAny_truthy_bool ?_
      rw [hsym, bne_self_eq_false, if_neg (by decide)]
      refine wpAny_allTrue_Or_nil ?_
      refine wpAny_execs_nil ?_
      refine wpAny_execs_nil ?_
      exact ⟨_, h₁₃, _, rfl, F₁₃, _, _, rfl, hone, hM₁₃⟩
    · obtain ⟨m₂, tt, rfl, hone, hM₈⟩ := hJ₂
      exact wpAny_execs_nil ⟨_, h₈, _, rfl, F₈, _, rfl, hM₈⟩
  · obtain ⟨m, rfl, hM⟩ := hJ
    refine wpAny_execs_cons ?_
    refine wpAny_Return_some ?_
    refine wpAny_Constant_bool ?_
    exact hq _ _ F'.kp F'.ti
end
end Mine
end R26

section R27
open PySem PySem.W PyProof.Rows PySem.Calls PySem.Builtin.Str
set_option maxRecDepth 100000
set_option maxHeartbeats 4000000
namespace Mine

section
variable {prog : Program} {w : World} {A : Around} {s : Shared} {h : Heap} {tk : Nat} {mg mb : Str → Option Value} {E : Value → Shared → Prop} {Q : Value → Shared → Prop} {env : Env}
theorem call_stretch {av bv : Value} {row : List Nat} {ls : List Str} {r : Str} {tr ts : Tok} {sp : Nat} {k : Nat} (R : Rm A (k + 6)) (W : Wd (KK w) mg mb h) (T : TI h) (ha : TL h av row) (hb : SL h bv ls)
    (hrow : row.length ≤ 50) (hls : ls.length ≤ 50) (hrl : ∀ i ∈ row, i < ls.length) (hsp : sp ≤ row.length) (okr : Ok (Txt.lower r)) (okl : ∀ x ∈ ls, Ok (Txt.lower x))
    (hq : ∀ a (low high : Nat) tl th h' tk', Kp h h' → TI h' → h'.get? a = some { cls := .type "tuple", data := .seq [Value.int low tl, .int high th].toArray } →
      low ≤ sp → (low = 0 ∨ udm (ls.getD (row.getD (low - 1) 0) "") r = false) → (low = sp ∨ udm (ls.getD (row.getD low 0) "") r = true) →
      sp ≤ high → high ≤ row.length → (high = sp ∨ udm (ls.getD (row.getD (high - 1) 0) "") r = true) → (high = row.length ∨ udm (ls.getD (row.getD high 0) "") r = false) →
      Q (.ref a) (St s h' tk')) : wpAny (model prog w) A (call (.ref 146) [av, bv, .str r tr, .int sp ts]) Q E (St s h tk) := by
  refine enterC (binds := [(Str.ofString "row", av), (Str.ofString "louds", bv), (Str.ofString "rung", .str r tr), (Str.ofString "spot", .int sp ts)]) R W T (by rfl) (by rfl) rfl rfl (by decide) (fun L h₁ tk₁ E' B R' => ?_) rfl rfl rfl
  have W₁ := W.keeps T B.kp
  obtain ⟨la, va, rfl, hla, hpa⟩ := id ha
  obtain ⟨lb, vb, rfl, hlb, hpb⟩ := id hb
  have hal := hpa.length
  have hbl := hpb.length
  refine wpAny_execs_cons ?_
  refine wpAny_Assign_Name ?_
  refine call_kw W₁ (f := 91) (by rfl) (by rfl) ?_
  refine sp_cons ?_
  refine nm_local (B.ns 0 rfl) ?_
  refine sp_cons ?_
  refine wpAny_Constant_bool ?_
  refine sp_cons ?_
  refine c_int fun t0 _ => ?_
  refine sp_cons ?_
  refine nm_local (B.ns 0 rfl) ?_
  refine sp_nil ?_
  refine kwAll_cons ?_
  refine lam_ W₁ B.ti (P := 141) (by decide) B.ti.t1 (fun h' k X' => ⟨X', B.ti.t2.aside B.ti.t1 k (by decide), B.ti.t3.aside B.ti.t1 k (by decide)⟩) fun f h₂ tk₂ k₂ T₂ n₂ lam => ?_
  have B₂ := B.call k₂ T₂
  have W₂ := W.keeps T B₂.kp
  refine kwAll_nil ⟨W₂.X, ?_⟩
  refine call_bisL (a := la) (f := f) (vs := va) (kf := fun q => udm (ls.getD (row.getD q 0) "") r) (lo := 0) (hi := sp) (tl := t0) (hv := .int sp ts) (binds := [(Str.ofString "a", .ref la), (Str.ofString "x", .bool true), (Str.ofString "lo", .int 0 t0), (Str.ofString "hi", .int sp ts), (Str.ofString "key", .ref f)]) (j := k + 3) (R'.less (by omega)) W₂ T₂ ?_ (bn5 _ _ _ _ _) rfl rfl rfl rfl rfl ((B₂.kp.lk T).isList hla) (by omega) lam.fnAt ?_ (.inr ⟨_, rfl⟩) (Nat.zero_le _) (by omega) fun low tlow h₃ tk₃ k₃ T₃ c0 c1 c2 c3 => ?_
  · refine binds_of (by rfl) ?_
    exact binds_K W₂.X rfl (by rfl) rfl rfl rfl
  · intro A' i' v' h' tk' E' Q' R₁ hv₁ k₁ T' hq'
    obtain ⟨ri, hri, ti, rfl⟩ := Paired.getL hpa hv₁
    have hri' := hrl ri (List.mem_of_getElem? hri)
    refine enterL (k := k + 2) (binds := [(Str.ofString "turn", .int ri ti)]) R₁ (W₂.keeps T₂ k₁) T' (lam.keep T₂ k₁) (fun _ _ _ => rfl) (locs rfl) (fun L' c' g₁ tg E₁ G R₂ => ?_) rfl rfl rfl (by decide)
    have kk : Kp h₂ g₁ := k₁.trans G.kp
    have WG := W₂.keeps T₂ kk
    have hlbG := ((B₂.kp.trans kk).lk T).isList hlb
    obtain ⟨z, hz, tz, rfl⟩ := Paired.get hpb (List.getElem?_eq_getElem hri')
    refine wpAny_Compare1 ?_
    refine call_fn WG (f := 57) (by rfl) (by rfl) ?_
    refine sp_cons ?_
    refine Subscript_ ?_
    refine nm_free (cell_keep T₂ kk (B₂.cell 2 rfl)) ?_
    refine nm_local (G.ns 0 rfl) ?_
    refine item_l hlbG (by omega) (by omega) (x := .str ls[ri] tz) (by rw [Int.toNat_natCast]; exact hz) ?_
    refine sp_cons ?_
    refine nm_free (cell_keep T₂ kk (B₂.cell 1 rfl)) ?_
    refine sp_nil ?_
    refine ⟨WG.X, ?_⟩
    refine call_udm (k := k) R₂ WG G.ti (okl _ (List.getElem_mem hri')) okr fun g₂ tg₂ kg₂ Tg₂ => ?_
    refine wpAny_Constant_bool ?_
    refine wpAny_is_plain rfl ?_
    rw [isTrue_val]
    refine hq' _ _ _ (G.kp.trans kg₂) Tg₂ ?_
    show Value.bool _ = Value.bool (udm (ls.getD (row.getD i' 0) "") r)
    rw [List.getD_eq_getElem?_getD (l := row), hri, Option.getD_some, List.getD_eq_getElem?_getD, List.getElem?_eq_getElem hri']; rfl
  have B₃ := B₂.call k₃ T₃
  refine st_local 0 B₃ rfl fun h₄ tk₄ B₄ hs₄ => ?_
  have W₄ := W.keeps T B₄.kp
  refine wpAny_execs_cons ?_
  refine wpAny_Assign_Name ?_
  refine call_kw W₄ (f := 91) (by rfl) (by rfl) ?_
  refine sp_cons ?_
  refine nm_local (B₄.ns 0 rfl) ?_
  refine sp_cons ?_
  refine wpAny_Constant_bool ?_
  refine sp_cons ?_
  refine nm_local (B₄.ns 0 rfl) ?_
  refine sp_nil ?_
  refine kwAll_cons ?_
  refine lam_ W₄ B₄.ti (P := 141) (by decide) B₄.ti.t1 (fun h' k X' => ⟨X', B₄.ti.t2.aside B₄.ti.t1 k (by decide), B₄.ti.t3.aside B₄.ti.t1 k (by decide)⟩) fun f₂ h₅ tk₅ k₅ T₅ n₅ lam₂ => ?_
  have B₅ := B₄.call k₅ T₅
  have W₅ := W.keeps T B₅.kp
  refine kwAll_nil ⟨W₅.X, ?_⟩
  refine call_bisL (a := la) (f := f₂) (vs := va) (kf := fun q => !udm (ls.getD (row.getD q 0) "") r) (lo := sp) (hi := va.length) (tl := ts) (hv := .none) (binds := [(Str.ofString "a", .ref la), (Str.ofString "x", .bool true), (Str.ofString "lo", .int sp ts), (Str.ofString "hi", .none), (Str.ofString "key", .ref f₂)]) (j := k + 3) (R'.less (by omega)) W₅ T₅ ?_ (bn5 _ _ _ _ _) rfl rfl rfl rfl rfl ((B₅.kp.lk T).isList hla) (by omega) lam₂.fnAt ?_ (.inl ⟨rfl, rfl⟩) (by omega) (Nat.le_refl _) fun high thigh h₆ tk₆ k₆ T₆ d0 d1 d2 d3 => ?_
  · refine binds_of (by rfl) ?_
    exact binds_K W₅.X rfl (by rfl) rfl rfl rfl
  · intro A' i' v' h' tk' E' Q' R₁ hv₁ k₁ T' hq'
    obtain ⟨ri, hri, ti, rfl⟩ := Paired.getL hpa hv₁
    have hri' := hrl ri (List.mem_of_getElem? hri)
    refine enterL (k := k + 2) (binds := [(Str.ofString "turn", .int ri ti)]) R₁ (W₅.keeps T₅ k₁) T' (lam₂.keep T₅ k₁) (fun _ _ _ => rfl) (locs rfl) (fun L' c' g₁ tg E₁ G R₂ => ?_) rfl rfl rfl (by decide)
    have kk : Kp h₅ g₁ := k₁.trans G.kp
    have WG := W₅.keeps T₅ kk
    have hlbG := ((B₅.kp.trans kk).lk T).isList hlb
    obtain ⟨z, hz, tz, rfl⟩ := Paired.get hpb (List.getElem?_eq_getElem hri')
    refine wpAny_Compare1 ?_
    refine call_fn WG (f := 57) (by rfl) (by rfl) ?_
    refine sp_cons ?_
    refine Subscript_ ?_
    refine nm_free (cell_keep T₅ kk (B₅.cell 2 rfl)) ?_
    refine nm_local (G.ns 0 rfl) ?_
    refine item_l hlbG (by omega) (by omega) (x := .str ls[ri] tz) (by rw [Int.toNat_natCast]; exact hz) ?_
    refine sp_cons ?_
    refine nm_free (cell_keep T₅ kk (B₅.cell 1 rfl)) ?_
    refine sp_nil ?_
    refine ⟨WG.X, ?_⟩
    refine call_udm (k := k) R₂ WG G.ti (okl _ (List.getElem_mem hri')) okr fun g₂ tg₂ kg₂ Tg₂ => ?_
    refine wpAny_Constant_bool ?_
    refine wpAny_is_plain rfl ?_
    rw [isFalse_val]
    refine hq' _ _ _ (G.kp.trans kg₂) Tg₂ ?_
    show Value.bool _ = Value.bool (!udm (ls.getD (row.getD i' 0) "") r)
    rw [List.getD_eq_getElem?_getD (l := row), hri, Option.getD_some, List.getD_eq_getElem?_getD, List.getElem?_eq_getElem hri']; rfl
  have B₆ := B₅.call k₆ T₆
  refine st_local 0 B₆ rfl fun h₇ tk₇ B₇ hs₇ => ?_
  refine wpAny_execs_cons ?_
  refine wpAny_Return_some ?_
  refine r_tuple ?_
  refine sp_cons ?_
  refine nm_local (B₇.ns 0 rfl) ?_
  refine sp_cons ?_
  refine nm_local (B₇.ns 0 rfl) ?_
  refine sp_nil ?_
  refine ⟨_, _, rfl, Nat.le_of_ble_eq_true rfl, fun a h₈ k₈ n₈ g₈ => ?_⟩
  have B₈ := B₇.grow k₈
  refine hq a low high _ _ h₈ _ B₈.kp B₈.ti g₈ c1 c2 c3 d0 (by omega) (d2.imp id fun e => by simpa using e) (by rw [← hal]; exact d3.imp id fun e => by simpa using e)
end
end Mine
end R27

section R28
open PySem PySem.W PyProof.Rows PySem.Calls PySem.Builtin.Str
set_option maxRecDepth 100000
set_option maxHeartbeats 4000000
namespace Mine

section
variable {prog : Program} {w : World} {A : Around} {s : Shared} {h : Heap} {tk : Nat} {E : Value → Shared → Prop}

theorem raw_list_sort {a : Addr} {vs : List Value} {n : Nat} {P : PySem.Fin → Shared → Prop} {G : Array Nat → Prop} (ho : h.get? a = some (seqObj "list" vs.toArray n)) (h2 : 2 ≤ vs.length) (h64 : vs.length < 64)
    (hsort : ∀ h', Heap.ExtBut a h h' → wpAny (model prog w) A (keyKind' vs.toArray) (fun κ s' => (kas_sort vs.length).kasWp (kas_ask prog w A κ vs) (fun p s'' => s'' = St s h' tk ∧ G p) s') (fun _ _ => False) (St s h' tk))
    (hP : ∀ p h' c, G p → p.size = vs.length → Heap.ExtBut a h h' → h'.get? a = some (seqObj "list" (p.toList.map fun i => vs.getD i Value.none).toArray c) → P (.done (.ret .none)) (St s h' tk)) :
    wpAny (model prog w) A (Builtin.«list.sort» ⟨[.ref a], []⟩) P E (St s h tk) := by
  have ha : a < h.objs.size := Heap.lt_size ho
  have s1 := Heap.SameBut.update h a (Obj.mapSeq fun _ => (#[] : Array Value))
  obtain ⟨e1, ho1⟩ : ∃ e1, (h.update a (Obj.mapSeq fun _ => (#[] : Array Value))).get? a = some (seqObj "list" #[] e1) := ⟨_, get?_update_seq ho fun _ => #[]⟩
  have hx : Heap.ExtBut a h (((h.update a (Obj.mapSeq fun _ => (#[] : Array Value))).push (seqObj "tuple" vs.toArray 0)).push (seqObj "list" #[] 0)) := fun b o hb e => Heap.get?_push_of_some _ (Heap.get?_push_of_some _ (s1.extBut b o hb e))
  have na : (((h.update a (Obj.mapSeq fun _ => (#[] : Array Value))).push (seqObj "tuple" vs.toArray 0)).push (seqObj "list" #[] 0)).get? a = some (seqObj "list" #[] e1) := Heap.get?_push_of_some _ (Heap.get?_push_of_some _ ho1)
  have ask := hsort _ hx
  rw [list_sort_plain]
  refine wpAny_bind (listItems_at ho rfl ?_)
  refine wpAny_bind (listUpdate_at ho rfl ?_ (by rw [List.size_toArray, sizeLine_eq]; omega) (Nat.zero_le _))
  refine wpAny_bind (seqEpoch_at ho1 rfl ?_)
  refine wpAny_bind (wpAny_newTuple ?_ (by show vs.length ≤ _; rw [sizeLine_eq]; omega))
  refine wpAny_bind (wpAny_newList ?_ (Nat.zero_le _))
  refine wpAny_holding ?_
  show wpAny (model prog w) A _ P E (St s (((h.update a (Obj.mapSeq fun _ => (#[] : Array Value))).push (seqObj "tuple" vs.toArray 0)).push (seqObj "list" #[] 0)) tk)
  generalize (((h.update a (Obj.mapSeq fun _ => (#[] : Array Value))).push (seqObj "tuple" vs.toArray 0)).push (seqObj "list" #[] 0)) = H at *
  dsimp only
  have hn2 : ¬ vs.toArray.size < 2 := by rw [List.size_toArray]; omega
  rw [if_neg hn2, if_neg hn2]
  refine wpAny_bind (wpAny_mono ask (fun κ s0 hk => ?_) fun _ _ x => x.elim)
  refine wpAny_bind (wpAny_mono (kat_run (Q := fun st' s' => ∃ p : Array Nat, p.size = vs.length ∧ arrOf st' = p.map (kas_item (vs.toArray.zip vs.toArray)) ∧ failedOf st' = none ∧ s' = St s H tk ∧ G p)
    rfl h2 h64 (fun p' st' s' a1 a2 a3 a4 => ⟨p', a1, a2, a3, a4⟩) hk) ?_ fun _ _ e => e)
  rintro ⟨⟨⟩, st'⟩ s' ⟨p, hp, har, hf, rfl, hG⟩
  dsimp only
  have hout := kat_snds rfl har
  have hsz : (List.toArray (p.toList.map fun i => vs.getD i Value.none)).size = vs.length := by rw [List.size_toArray, List.length_map, Array.length_toList, hp]
  rw [hout]
  have s2 := Heap.SameBut.update H a (Obj.mapSeq fun _ => List.toArray (p.toList.map fun i => vs.getD i Value.none))
  obtain ⟨c2, hc2⟩ : ∃ c2, (H.update a (Obj.mapSeq fun _ => List.toArray (p.toList.map fun i => vs.getD i Value.none))).get? a = some (seqObj "list" (List.toArray (p.toList.map fun i => vs.getD i Value.none)) c2) := ⟨_, get?_update_seq na fun _ => List.toArray (p.toList.map fun i => vs.getD i Value.none)⟩
  refine wpAny_bind (seqEpoch_at (s := St s H tk) na rfl ?_)
  refine wpAny_bind (listUpdate_at (s := St s H tk) na rfl ?_ (Nat.zero_le _) (Nat.le_trans (Nat.le_of_eq hsz) (by rw [sizeLine_eq]; omega)))
  rw [hf]
  simp only [bne_self_eq_false, Bool.false_eq_true, if_false]
  exact wpAny_pure (hP p _ c2 hG hp (fun b o hb e => s2.extBut b o hb (hx b o hb e)) hc2)

theorem raw_sorted0 {s : Shared} {l : Addr} {vs : List Value} {Q : Value → Shared → Prop} {G : Array Nat → Prop} (hl : s.heap.IsList l vs.toArray) (h2 : 2 ≤ vs.length) (h64 : vs.length < 64)
    (hsort : ∀ h', s.heap.StaysIn h' → wpAny (model prog w) A.in1.in1 (keyKind' vs.toArray) (fun κ s' => (kas_sort vs.length).kasWp (kas_ask prog w A.in1.in1 κ vs) (fun p s'' => s'' = { s with heap := h' } ∧ G p) s') (fun _ _ => False) { s with heap := h' })
    (hq : ∀ D p h', G p → p.size = vs.length → s.heap.StaysIn h' → s.heap.get? D = none → h'.IsList D (p.toList.map fun i => vs.getD i Value.none).toArray → Q (.ref D) { s with heap := h' }) :
    wpAny (model prog w) A (call (.builtin "sorted") [.ref l]) Q E s := by
  refine Calls.call_function_entry kind_sorted plain_sorted entry_sorted (args_sorted1 _) ?_
  unfold Builtin.«sorted»
  refine wpAny_bind (m := checkCount "sorted" 1 1 _) (wpAny_pure ?_)
  refine wpAny_bind (collect_list hl ?_ (by rw [sizeLine_eq]; omega))
  refine wpAny_bind (wpAny_newList ?_ (by rw [sizeLine_eq]; omega))
  have hsz : ((s.heap.push (seqObj "list" #[] 0)).update s.heap.objs.size (Obj.mapSeq (· ++ vs.toArray))).objs.size = s.heap.objs.size + 1 := by
    rw [Heap.size_update, size_push']
  have hoL : (((s.heap.push (seqObj "list" #[] 0)).update s.heap.objs.size (Obj.mapSeq (· ++ vs.toArray))).push (seqObj "list" vs.toArray 0)).get? (s.heap.objs.size + 1) = some (seqObj "list" vs.toArray 0) := by
    rw [← hsz]; exact Heap.get?_push_size _ rfl
  have keep : s.heap.StaysIn (((s.heap.push (seqObj "list" #[] 0)).update s.heap.objs.size (Obj.mapSeq (· ++ vs.toArray))).push (seqObj "list" vs.toArray 0)) := fun b o q => by
    have hlt : b < s.heap.objs.size := Heap.lt_size q
    rw [Heap.get?_push_ne _ _ _ (by rw [hsz]; exact Nat.ne_of_lt (Nat.lt_succ_of_lt hlt)), Heap.get?_update_ne _ _ _ _ (Nat.ne_of_lt hlt), Heap.get?_push_ne _ _ _ (Nat.ne_of_lt hlt)]
    exact q
  show wpAny _ _ _ _ _ { s with heap := ((s.heap.push (seqObj "list" #[] 0)).update s.heap.objs.size (Obj.mapSeq (· ++ vs.toArray))).push (seqObj "list" vs.toArray 0) }
  rw [hsz]
  generalize (((s.heap.push (seqObj "list" #[] 0)).update s.heap.objs.size (Obj.mapSeq (· ++ vs.toArray))).push (seqObj "list" vs.toArray 0)) = H at *
  have hDn : s.heap.get? (s.heap.objs.size + 1) = none := get_none (Nat.le_succ _)
  have st : ∀ h', Heap.ExtBut (s.heap.objs.size + 1) H h' → s.heap.StaysIn h' := fun h' hx b o e => hx b o (by rintro rfl; rw [hDn] at e; cases e) (keep b o e)
  refine wpAny_bind (wpAny_holding (wpAny_call_entry slot_list_sort ⟨_, hoL, rfl⟩ entry_list_sort ?body (args_list_sort _)))
  case body =>
    refine raw_list_sort (s := s) (h := H) (tk := s.toks) (G := G) hoL h2 h64 (fun h' hx => hsort h' (st h' hx)) fun p h' c hG hp hx hc => ?_
    exact ⟨_, rfl, wpAny_pure ⟨_, rfl, hq _ p h' hG hp (st h' hx) hDn ⟨_, hc, rfl, _, rfl⟩⟩⟩
theorem raw_sorted {l : Addr} {vs : List Value} {Q : Value → Shared → Prop} {G : Array Nat → Prop} (hl : h.IsList l vs.toArray) (h2 : 2 ≤ vs.length) (h64 : vs.length < 64)
    (hsort : ∀ h', h.StaysIn h' → wpAny (model prog w) A.in1.in1 (keyKind' vs.toArray) (fun κ s' => (kas_sort vs.length).kasWp (kas_ask prog w A.in1.in1 κ vs) (fun p s'' => s'' = St s h' tk ∧ G p) s') (fun _ _ => False) (St s h' tk))
    (hq : ∀ D p h', G p → p.size = vs.length → h.StaysIn h' → h.get? D = none → h'.IsList D (p.toList.map fun i => vs.getD i Value.none).toArray → Q (.ref D) (St s h' tk)) :
    wpAny (model prog w) A (call (.builtin "sorted") [.ref l]) Q E (St s h tk) := raw_sorted0 (s := St s h tk) hl h2 h64 hsort hq
end
end Mine
end R28

section R29
open PySem PySem.W PyProof.Rows PySem.Calls PySem.Builtin.Str
set_option maxRecDepth 100000
set_option maxHeartbeats 4000000
namespace Mine

/-- a strict order of the numbers below n -/
structure Ord (n : Nat) (lt : Nat → Nat → Bool) : Prop where
  tr : ∀ i j k, i < n → j < n → k < n → lt i j = true → lt j k = true → lt i k = true
  to : ∀ i j, i < n → j < n → i ≠ j → lt i j = true ∨ lt j i = true
  as : ∀ i j, i < n → j < n → lt i j = true → lt j i = false

def Pm (n : Nat) (p : Array Nat) : Prop := p.toList.Perm (List.range n)
theorem Pm.size {n : Nat} {p : Array Nat} (h : Pm n p) : p.size = n := by have := h.length_eq; rw [List.length_range, Array.length_toList] at this; exact this
theorem Pm.lt {n : Nat} {p : Array Nat} (h : Pm n p) {k : Nat} (hk : k < n) : p.getD k 0 < n := by
  have hs := h.size
  have hk' : k < p.size := by omega
  have : p.getD k 0 = p[k] := by simp [Array.getD, hk']
  rw [this]
  exact List.mem_range.mp (h.mem_iff.mp (by simp))
theorem Pm.inj {n : Nat} {p : Array Nat} (h : Pm n p) {a b : Nat} (ha : a < n) (hb : b < n) (e : p.getD a 0 = p.getD b 0) : a = b := by
  have hs := h.size
  have ha' : a < p.toList.length := by rw [Array.length_toList]; omega
  have hb' : b < p.toList.length := by rw [Array.length_toList]; omega
  have nd : p.toList.Nodup := h.nodup_iff.mpr List.nodup_range
  have e1 : p.getD a 0 = p.toList[a] := by simp [Array.getD, show a < p.size by omega]
  have e2 : p.getD b 0 = p.toList[b] := by simp [Array.getD, show b < p.size by omega]
  rw [e1, e2] at e
  have pw := List.pairwise_iff_getElem.mp nd
  rcases Nat.lt_trichotomy a b with h | h | h
  · exact absurd e (pw a b ha' hb' h)
  · exact h
  · exact absurd e.symm (pw b a hb' ha' h)
def SoT (lt : Nat → Nat → Bool) (p : Array Nat) (k : Nat) : Prop := ∀ i j, i < j → j < k → lt (p.getD i 0) (p.getD j 0) = true
def DeT (lt : Nat → Nat → Bool) (p : Array Nat) (k : Nat) : Prop := ∀ i j, i < j → j < k → lt (p.getD j 0) (p.getD i 0) = true

section
variable {n : Nat} {lt : Nat → Nat → Bool} {cmp : Nat → Nat → (Bool → Shared → Prop) → Shared → Prop} {s : Shared}

theorem SoT.step (O : Ord n lt) {p : Array Nat} (hp : Pm n p) {a : Nat} (h1 : 1 ≤ a) (ha : a < n) (hs : SoT lt p a) (hl : lt (p.getD (a - 1) 0) (p.getD a 0) = true) : SoT lt p (a + 1) := by
  intro i j hij hj
  by_cases hja : j = a
  · subst hja
    by_cases hi : i = j - 1
    · subst hi; exact hl
    · exact O.tr _ _ _ (hp.lt (by omega)) (hp.lt (by omega)) (hp.lt ha) (hs i (j - 1) (by omega) (by omega)) hl
  · exact hs i j hij (by omega)
theorem DeT.step (O : Ord n lt) {p : Array Nat} (hp : Pm n p) {a : Nat} (h1 : 1 ≤ a) (ha : a < n) (hs : DeT lt p a) (hl : lt (p.getD a 0) (p.getD (a - 1) 0) = true) : DeT lt p (a + 1) := by
  intro i j hij hj
  by_cases hja : j = a
  · subst hja
    by_cases hi : i = j - 1
    · subst hi; exact hl
    · exact O.tr _ _ _ (hp.lt ha) (hp.lt (by omega)) (hp.lt (by omega)) hl (hs i (j - 1) (by omega) (by omega))
  · exact hs i j hij (by omega)
theorem asc_ok (O : Ord n lt) (hc : ∀ i j (C : Bool → Shared → Prop), i < n → j < n → C (lt i j) s → cmp i j C s) {p : Array Nat} (hp : Pm n p) {Q : Nat → Shared → Prop} : ∀ (f a : Nat), a + f = n → 1 ≤ a → SoT lt p a →
    (∀ m, a ≤ m → m ≤ n → SoT lt p m → (m = n ∨ lt (p.getD m 0) (p.getD (m - 1) 0) = true) → Q m s) → (kas_asc p f a).kasWp cmp Q s
  | 0, a, e, h1, hs, hq => hq a (Nat.le_refl _) (by omega) hs (.inl (by omega))
  | f + 1, a, e, h1, hs, hq => by
    rw [kas_asc]
    refine hc _ _ _ (hp.lt (by omega)) (hp.lt (by omega)) ?_
    dsimp only
    cases hl : lt (p.getD a 0) (p.getD (a - 1) 0) with
    | true => exact hq a (Nat.le_refl _) (by omega) hs (.inr hl)
    | false =>
      rw [if_neg (by decide)]
      have : lt (p.getD (a - 1) 0) (p.getD a 0) = true := by
        rcases O.to _ _ (hp.lt (show a - 1 < n by omega)) (hp.lt (show a < n by omega)) (fun q => by have := hp.inj (by omega) (by omega) q; omega) with h | h
        · exact h
        · rw [hl] at h; cases h
      exact asc_ok O hc hp f (a + 1) (by omega) (by omega) (hs.step O hp h1 (by omega) this) fun m h1 h2 h3 h4 => hq m (by omega) h2 h3 h4
theorem desc_ok (O : Ord n lt) (hc : ∀ i j (C : Bool → Shared → Prop), i < n → j < n → C (lt i j) s → cmp i j C s) {p : Array Nat} (hp : Pm n p) {Q : Array Nat × Nat × Nat → Shared → Prop} : ∀ (f a : Nat), a + f = n → 1 ≤ a → DeT lt p a →
    (∀ m, a ≤ m → m ≤ n → DeT lt p m → Q (p, m, 0) s) → (kas_desc f p a 0).kasWp cmp Q s
  | 0, a, e, h1, hs, hq => hq a (Nat.le_refl _) (by omega) hs
  | f + 1, a, e, h1, hs, hq => by
    rw [kas_desc]
    refine hc _ _ _ (hp.lt (by omega)) (hp.lt (by omega)) ?_
    dsimp only
    cases hl : lt (p.getD a 0) (p.getD (a - 1) 0) with
    | true =>
      rw [if_pos rfl, if_neg (by omega)]
      exact desc_ok O hc hp f (a + 1) (by omega) (by omega) (hs.step O hp h1 (by omega) hl) fun m h1 h2 h3 => hq m (by omega) h2 h3
    | false =>
      rw [if_neg (by decide)]
      refine hc _ _ _ (hp.lt (by omega)) (hp.lt (by omega)) ?_
      dsimp only
      have : lt (p.getD (a - 1) 0) (p.getD a 0) = true := by
        rcases O.to _ _ (hp.lt (show a - 1 < n by omega)) (hp.lt (show a < n by omega)) (fun q => by have := hp.inj (by omega) (by omega) q; omega) with h | h
        · exact h
        · rw [hl] at h; cases h
      rw [this]
      exact hq a (Nat.le_refl _) (by omega) hs

theorem rev_pm {p : Array Nat} (hp : Pm n p) (j : Nat) : Pm n (kas_rev p 0 j) := (Array.perm_iff_toList_perm.mp (mirror_perm p 0 j _)).trans hp
theorem getD_eq {p : Array Nat} (k : Nat) : p.getD k 0 = (p[k]?).getD 0 := by simp [Array.getD_eq_getD_getElem?]
theorem rev_get {p : Array Nat} (hp : Pm n p) {j : Nat} (hj : j ≤ n) {k : Nat} (hk : k < j) : (kas_rev p 0 j).getD k 0 = p.getD (j - 1 - k) 0 := by
  rw [getD_eq, getD_eq]
  unfold kas_rev
  rw [getElem?_mirror_all (by rw [hp.size]; exact hj), if_pos ⟨Nat.zero_le _, hk⟩]
  rw [show 0 + j - 1 - k = j - 1 - k by omega]
theorem bub_pm {p : Array Nat} (hp : Pm n p) (k d : Nat) : Pm n (bubble p k d) := (Array.perm_iff_toList_perm.mp (bubble_perm p k d)).trans hp
theorem bub_get {p : Array Nat} (hp : Pm n p) {k d : Nat} (hk : k < n) (hd : d ≤ k) (i : Nat) : (bubble p k d).getD i 0 = if i = k - d then p.getD k 0 else if k - d < i ∧ i ≤ k then p.getD (i - 1) 0 else p.getD i 0 := by
  rw [getD_eq, getElem?_bubble (by rw [hp.size]; exact hk) d hd]
  split
  · rw [getD_eq]
  · split
    · rw [getD_eq]
    · rw [getD_eq]

theorem count_ok (O : Ord n lt) (hc : ∀ i j (C : Bool → Shared → Prop), i < n → j < n → C (lt i j) s → cmp i j C s) (hn : 1 ≤ n) {p : Array Nat} (hp : Pm n p) {Q : Nat × Array Nat → Shared → Prop}
    (hq : ∀ m p', 1 ≤ m → m ≤ n → Pm n p' → SoT lt p' m → Q (m, p') s) : (kas_count n p).kasWp cmp Q s := by
  unfold kas_count
  rw [KasT.kasWp_bind]
  refine asc_ok O hc hp (n - 1) 1 (by omega) (Nat.le_refl _) (fun i j h1 h2 => by omega) fun m h1 h2 h3 h4 => ?_
  by_cases hmn : m = n
  · rw [if_pos (by simpa using hmn)]
    exact hq m p h1 h2 hp h3
  · rw [if_neg (by simpa using hmn)]
    by_cases hm1 : m > 1
    · rw [if_pos hm1]
      refine hc _ _ _ (hp.lt (by omega)) (hp.lt (by omega)) ?_
      dsimp only
      rw [h3 0 (m - 1) (by omega) (by omega), if_pos rfl]
      exact hq m p h1 h2 hp h3
    · rw [if_neg hm1]
      have hm : m = 1 := by omega
      subst hm
      have h5 : lt (p.getD 1 0) (p.getD 0 0) = true := h4.resolve_left hmn
      unfold kas_descPart
      rw [KasT.kasWp_bind]
      refine desc_ok O hc hp (n - (1 + 1)) 2 (by omega) (by omega) (fun i j h1 h2 => ?_) fun m h1 h2 h3 => ?_
      · have : i = 0 := by omega
        have : j = 1 := by omega
        subst i j; exact h5
      · rw [if_neg (by simp)]
        unfold kas_tail3
        rw [KasT.kasWp_bind]
        have hp' := rev_pm hp m
        refine asc_ok O hc hp' (n - m) m (by omega) (by omega) (fun i j hij hj => ?_) fun m' g1 g2 g3 _ => ?_
        · rw [rev_get hp h2 (by omega), rev_get hp h2 (by omega)]
          exact h3 _ _ (by omega) (by omega)
        · exact hq m' _ (by omega) g2 hp' g3
theorem place_ok (O : Ord n lt) (hc : ∀ i j (C : Bool → Shared → Prop), i < n → j < n → C (lt i j) s → cmp i j C s) {p : Array Nat} (hp : Pm n p) {k : Nat} (hk : k < n) (hs : SoT lt p k) {Q : Nat → Shared → Prop} : ∀ (f l r : Nat), r - l ≤ f → l ≤ r → r ≤ k →
    (∀ i, i < l → lt (p.getD i 0) (p.getD k 0) = true) → (∀ i, r ≤ i → i < k → lt (p.getD k 0) (p.getD i 0) = true) →
    (∀ l, l ≤ k → (∀ i, i < l → lt (p.getD i 0) (p.getD k 0) = true) → (∀ i, l ≤ i → i < k → lt (p.getD k 0) (p.getD i 0) = true) → Q l s) → (kas_place p k f l r).kasWp cmp Q s
  | 0, l, r, e, h1, h2, ha, hb, hq => hq l (by omega) ha (by rw [show l = r by omega]; exact hb)
  | f + 1, l, r, e, h1, h2, ha, hb, hq => by
    rw [kas_place]
    by_cases hlr : l ≥ r
    · rw [if_pos hlr]
      exact hq l (by omega) ha (by rw [show l = r by omega]; exact hb)
    · rw [if_neg hlr]
      have hm : (l + r) / 2 < k := by omega
      refine hc _ _ _ (hp.lt hk) (hp.lt (by omega)) ?_
      dsimp only
      cases hl : lt (p.getD k 0) (p.getD ((l + r) / 2) 0) with
      | true =>
        rw [if_pos rfl]
        refine place_ok O hc hp hk hs f l _ (by omega) (by omega) (by omega) ha (fun i h1 h2 => ?_) hq
        by_cases hi : i = (l + r) / 2
        · subst hi; exact hl
        · exact O.tr _ _ _ (hp.lt hk) (hp.lt (by omega)) (hp.lt (by omega)) hl (hs _ _ (by omega) h2)
      | false =>
        rw [if_neg (by decide)]
        have hlt : lt (p.getD ((l + r) / 2) 0) (p.getD k 0) = true := by
          rcases O.to _ _ (hp.lt (show (l + r) / 2 < n by omega)) (hp.lt hk) (fun q => by have := hp.inj (by omega) hk q; omega) with h | h
          · exact h
          · rw [hl] at h; cases h
        refine place_ok O hc hp hk hs f _ r (by omega) (by omega) h2 (fun i h1 => ?_) hb hq
        by_cases hi : i = (l + r) / 2
        · subst hi; exact hlt
        · exact O.tr _ _ _ (hp.lt (by omega)) (hp.lt (by omega)) (hp.lt hk) (hs _ _ (by omega) hm) hlt
theorem bin_ok (O : Ord n lt) (hc : ∀ i j (C : Bool → Shared → Prop), i < n → j < n → C (lt i j) s → cmp i j C s) {Q : Array Nat → Shared → Prop} (hq : ∀ p, Pm n p → SoT lt p n → Q p s) : ∀ (f : Nat) (p : Array Nat) (k : Nat), k + f = n → Pm n p → SoT lt p k → (kas_bin f p k).kasWp cmp Q s
  | 0, p, k, e, hp, hs => hq p hp (by rw [← e]; exact hs)
  | f + 1, p, k, e, hp, hs => by
    rw [kas_bin, KasT.kasWp_bind]
    refine place_ok O hc hp (show k < n by omega) hs k 0 k (by omega) (Nat.zero_le _) (Nat.le_refl _) (fun i h => by omega) (fun i h1 h2 => by omega) fun l hl ha hb => ?_
    refine bin_ok O hc hq f _ (k + 1) (by omega) (bub_pm hp _ _) fun i j hij hj => ?_
    rw [bub_get hp (by omega) (by omega), bub_get hp (by omega) (by omega)]
    rw [show k - (k - l) = l by omega]
    by_cases hi1 : i = l
    · rw [if_pos hi1, if_neg (show ¬ j = l by omega), if_pos (by omega)]
      exact hb _ (by omega) (by omega)
    · rw [if_neg hi1]
      by_cases hi2 : l < i ∧ i ≤ k
      · rw [if_pos hi2, if_neg (show ¬ j = l by omega), if_pos (by omega)]
        exact hs _ _ (by omega) (by omega)
      · rw [if_neg hi2]
        by_cases hj1 : j = l
        · rw [if_pos hj1]; exact ha _ (by omega)
        · rw [if_neg hj1]
          by_cases hj2 : l < j ∧ j ≤ k
          · rw [if_pos hj2]
            exact hs _ _ (by omega) (by omega)
          · rw [if_neg hj2]
            exact hs _ _ hij (by omega)
theorem sort_ok (O : Ord n lt) (hc : ∀ i j (C : Bool → Shared → Prop), i < n → j < n → C (lt i j) s → cmp i j C s) (hn : 1 ≤ n) {Q : Array Nat → Shared → Prop} (hq : ∀ p, Pm n p → SoT lt p n → Q p s) : (kas_sort n).kasWp cmp Q s := by
  unfold kas_sort
  rw [KasT.kasWp_bind]
  refine count_ok O hc hn (p := List.toArray (List.range n)) (by unfold Pm; exact List.Perm.refl _) fun m p h1 h2 hp hs => ?_
  by_cases hmn : m < n
  · rw [if_pos hmn]
    exact bin_ok O hc hq _ _ _ (by show max m 1 + (n - max m 1) = n; omega) hp (by show SoT lt p (max m 1); rw [Nat.max_eq_left h1]; exact hs)
  · rw [if_neg hmn]
    have : m = n := by omega
    subst this
    exact hq p hp hs
end
end Mine
end R29

section R30
open PySem PySem.W PyProof.Rows PySem.Calls PySem.Builtin.Str
set_option maxRecDepth 100000
set_option maxHeartbeats 4000000
namespace Mine

/-- a pair of a list of texts and a number -/
def PL (h : Heap) (v : Value) (p : List Str × Nat) : Prop := ∃ a lv t, v = .ref a ∧ h.get? a = some { cls := .type "tuple", data := .seq [lv, Value.int p.2 t].toArray } ∧ SL h lv p.1
def ltPr (a b : List Str × Nat) : Bool := if decide (a.1 = b.1) = true then decide (a.2 < b.2) else ltL a.1 b.1
theorem PL.stays {h h' : Heap} {v : Value} {p : List Str × Nat} (k : h.StaysIn h') (x : PL h v p) : PL h' v p :=
  let ⟨a, lv, t, e, g, z⟩ := x; ⟨a, lv, t, e, k _ _ g, z.mono fun b o _ e => k b o e⟩
theorem PL.mono {h h' : Heap} {v : Value} {p : List Str × Nat} (k : Lk h h') (x : PL h v p) : PL h' v p :=
  let ⟨a, lv, t, e, g, z⟩ := x; ⟨a, lv, t, e, k _ _ ⟨.inr rfl, _, _, rfl⟩ g, z.mono k⟩
theorem katTups_of {h : Heap} {vs : List Value} {prs : List (List Str × Nat)} (hp : Paired (PL h) vs prs) : ∃ fs, KatTups h vs fs ∧ fs.length = vs.length ∧ ∀ v ∈ fs, ∃ xs, SL h v xs := by
  induction hp with
  | nil => exact ⟨[], .nil, rfl, nofun⟩
  | cons x _ ih =>
    obtain ⟨a, lv, t, rfl, g, z⟩ := x
    obtain ⟨fs, h1, h2, h3⟩ := ih
    refine ⟨lv :: fs, .cons g rfl rfl rfl h1, by simp [h2], fun v hv => ?_⟩
    rcases List.mem_cons.mp hv with rfl | hv
    · exact ⟨_, z⟩
    · exact h3 v hv

section
variable {prog : Program} {w : World} {A : Around} {s : Shared} {h : Heap} {tk : Nat} {E : Value → Shared → Prop}
theorem oneLt_list {n : Nat} (Ro : Rm A n) {a b : Value} {xs ys : List Str} {Q : Bool → Shared → Prop} (ha : SL h a xs) (hb : SL h b ys) (hq : Q (ltL xs ys) (St s h tk)) : wpAny (model prog w) A (oneLt' true a b) Q E (St s h tk) := by
  obtain ⟨l, vs, rfl, hl, hx⟩ := ha
  obtain ⟨m, ws, rfl, hm, hy⟩ := hb
  have tl : (St s h tk).TypeIs (.ref l) "list" := hl.typeIs
  obtain ⟨⟨c1, d1, x1, sl1⟩, g1, e1, n1, f1⟩ := hl
  obtain ⟨⟨c2, d2, x2, sl2⟩, g2, e2, n2, f2⟩ := hm
  dsimp only at e1 f1 e2 f2
  subst e1 f1 e2 f2
  rw [oneLt'_eq]
  simp only [if_true]
  refine wpAny_bind (wpAny_cRoomFor (by have := Ro.u64; omega) ?_)
  refine wpAny_bind (wpAny_callSpecialIfBound?_slot tl PySem.F.slot_list_lt (call_meets PySem.F.slot_list_lt tl PySem.F.entry_list_lt (PySem.F.args_list_lt_2 _ _) (list_ltAt l m vs ws xs ys n1 n2 d1 d2 sl1 sl2 hx hy) ⟨g1, g2, ?_⟩))
  exact wpAny_truthy_bool hq
theorem keyLt_pair {n : Nat} (Ro : Rm A n) {v w' : Value} {x y : List Str × Nat} {Q : Bool → Shared → Prop} (hv : PL h v x) (hw : PL h w' y) (gx : ∀ z ∈ x.1, PyData.strOk z = true) (gy : ∀ z ∈ y.1, PyData.strOk z = true) (hq : Q (ltPr x y) (St s h tk)) :
    wpAny (model prog w) A (keyLt' (tuples' true) v w') Q E (St s h tk) := by
  obtain ⟨a, lv, t, rfl, g1, z1⟩ := hv
  obtain ⟨b, lw, u, rfl, g2, z2⟩ := hw
  refine kat_lt (s := St s h tk) g1 rfl g2 rfl (kat_cons ?_)
  obtain ⟨as, ra⟩ := rpS.list.reads _ _ _ z1
  obtain ⟨bs, rb⟩ := rpS.list.reads _ _ _ z2
  have d1 := rpS.list.dep x.1
  refine SeqAt.eqBoolOverData prog w A _ (St s h tk) lv lw _ _ as bs _ ra rb (rpS.list.lay _ gx) (rpS.list.lay _ gy) (by have := Ro.u64; omega) ?_
  rw [rpS.list.eqv]
  unfold ltPr at hq
  refine kat_go (fun e => ?_) fun e => ?_
  · rw [e] at hq
    rw [if_pos rfl] at hq
    refine kat_yes (kat_cons (wpAny_eqBool_int ?_))
    refine kat_go (fun e2 => ?_) fun e2 => ?_
    · refine kat_yes (kat_nil ?_)
      have : x.2 = y.2 := by have := eq_of_beq e2; omega
      rw [decide_eq_false (by omega)] at hq
      exact hq
    · refine kat_no (kat_one _ _ (P.lt_int ?_))
      show Q _ _
      rw [show decide ((x.2 : Int) < y.2) = decide (x.2 < y.2) from decide_eq_decide.mpr (by omega)]
      exact hq
  · rw [e] at hq
    rw [if_neg (by decide)] at hq
    exact kat_no (oneLt_list Ro z1 z2 hq)

theorem c_sorted {l : Addr} {vs : List Value} {prs : List (List Str × Nat)} {k : Nat} {Q : Value → Shared → Prop} (Ro : Rm A (k + 2)) (hl : h.IsList l vs.toArray) (hp : Paired (PL h) vs prs) (h2 : 2 ≤ vs.length) (h64 : vs.length < 64) (hg : ∀ x ∈ prs, ∀ z ∈ x.1, PyData.strOk z = true)
    (O : Ord vs.length fun i j => ltPr (prs.getD i ([], 0)) (prs.getD j ([], 0)))
    (hq : ∀ D p h', Pm vs.length p → SoT (fun i j => ltPr (prs.getD i ([], 0)) (prs.getD j ([], 0))) p vs.length → h.StaysIn h' → h.get? D = none → h'.IsList D (p.toList.map fun i => vs.getD i Value.none).toArray → Q (.ref D) (St s h' tk)) :
    wpAny (model prog w) A (call (.builtin "sorted") [.ref l]) Q E (St s h tk) := by
  have hlen := hp.length
  refine raw_sorted (G := fun p => Pm vs.length p ∧ SoT (fun i j => ltPr (prs.getD i ([], 0)) (prs.getD j ([], 0))) p vs.length) hl h2 h64 (fun h' hk => ?_) fun D p h' hG _ hk hD hl' => hq D p h' hG.1 hG.2 hk hD hl'
  have hp' : Paired (PL h') vs prs := Paired.imp (fun _ _ x => x.stays hk) hp
  obtain ⟨fs, t1, t2, t3⟩ := katTups_of hp'
  refine kat_kind (s := St s h' tk) (T := .type "list") t1 (by omega) (fun v hv => ?_) rfl ?_
  · obtain ⟨xs, a, us, rfl, ⟨o, e, hc, _⟩, _⟩ := t3 v hv
    rw [← hc]
    exact (Looks.ld e).andThen .now
  · refine sort_ok O (fun i j C hi hj hC => ?_) (by omega) fun p a b => ⟨rfl, a, b⟩
    have hi' : i < prs.length := by omega
    have hj' : j < prs.length := by omega
    obtain ⟨v, hv, pv⟩ := Paired.get hp' (List.getElem?_eq_getElem hi')
    obtain ⟨u, hu, pu⟩ := Paired.get hp' (List.getElem?_eq_getElem hj')
    unfold kas_ask
    rw [List.getD_eq_getElem?_getD, hv, List.getD_eq_getElem?_getD, hu]
    rw [List.getD_eq_getElem?_getD, List.getElem?_eq_getElem hi', List.getD_eq_getElem?_getD, List.getElem?_eq_getElem hj'] at hC
    exact keyLt_pair (n := k) (Rm.in1 (Rm.in1 Ro)) pv pu (hg _ (List.getElem_mem hi')) (hg _ (List.getElem_mem hj')) hC
end
end Mine
end R30

section R31
open PySem PySem.W PyProof.Rows PySem.Calls PySem.Builtin.Str
set_option maxRecDepth 100000
set_option maxHeartbeats 4000000
namespace Mine

/-- what the walk asks of a host -/
structure HostOk (x : Str) : Prop where
  up : (Txt.upper x).length ≤ 1000
  lo : (Txt.lower x).length ≤ 1000
  len : x.length ≤ 1000
  okc : OkC (ladderN x) x
  cnt : Txt.count x "." ≤ 1000
  cnt0 : 0 ≤ Txt.count x "."
  spl : 0 < (Txt.split x (Str.ofString ".")).length
  sum : ∀ i, (((Txt.split x (Str.ofString ".")).drop i).map (·.length)).sum + ((Txt.split x (Str.ofString ".")).drop i).length ≤ 1000
  lad : ladderF x = rungsF x (Txt.split x (Str.ofString "."))
  llen : (ladderF x).length ≤ 50
  okl : Ok (Txt.lower (Txt.upper x))
  okr : ∀ r ∈ ladderF x, Ok (Txt.lower r)
  lab : ∀ r ∈ ladderF x, (labelsF r).length ≤ 1000 ∧ 0 < (labelsF r).length ∧ ∀ y ∈ labelsF r, PyData.strOk y = true
  lis : (labelsF x).length ≤ 1000 ∧ ∀ y ∈ labelsF x, PyData.strOk y = true
  sok : ∀ r ∈ ladderF x, PyData.strOk r = true
def tabsF (hs : List Str) : List (List Nat) := (hs.map ladderF).map fun rs => (hs.map labelsF).map (placeF rs)
def ltH (hs : List Str) (i j : Nat) : Bool := ltPr ((hs.map labelsF).zipIdx.getD i ([], 0)) ((hs.map labelsF).zipIdx.getD j ([], 0))
/-- what the walk asks of the hosts -/
structure LawOk (hs : List Str) : Prop where
  host : ∀ x ∈ hs, HostOk x
  n2 : 2 ≤ hs.length
  n50 : hs.length ≤ 50
  chk : ∀ x ∈ hs, ∀ (j : Nat) y l (p : Nat), (hs.map Txt.upper)[j]? = some y → (hs.map labelsF)[j]? = some l → p ≤ (ladderF x).length → (p = 0 ∨ udm y ((ladderF x).getD (p - 1) "") = false) → (p = (ladderF x).length ∨ udm y ((ladderF x).getD p "") = true) →
      ((ladderF x).map fun r => holdsF (labelsF r) l) = List.replicate p false ++ List.replicate ((ladderF x).length - p) true
  ord : Ord hs.length (ltH hs)
  row : ∀ row, InsR (fun i => (hs.map labelsF).getD i []) hs.length row → ∀ p, Pm hs.length p → SoT (ltH hs) p hs.length → p.toList = row
  near : ∀ row, InsR (fun i => (hs.map labelsF).getD i []) hs.length row → ∀ i j : Nat, j < i → i < row.length → (∃ p, j ≤ p ∧ p < i ∧ meetF row (hs.map ladderF) (tabsF hs) p (p + 1) = meetF row (hs.map ladderF) (tabsF hs) i j) ∧
      (∀ p, j ≤ p → p < i → meetF row (hs.map ladderF) (tabsF hs) i j ≤ meetF row (hs.map ladderF) (tabsF hs) p (p + 1)) ∧ meetF row (hs.map ladderF) (tabsF hs) j i = meetF row (hs.map ladderF) (tabsF hs) i j
  stretch : ∀ row, InsR (fun i => (hs.map labelsF).getD i []) hs.length row → ∀ sp step low high : Nat, sp < row.length → step < ((hs.map ladderF).getD (row.getD sp 0) []).length →
      low ≤ sp → (low = 0 ∨ udm ((hs.map Txt.upper).getD (row.getD (low - 1) 0) "") (((hs.map ladderF).getD (row.getD sp 0) []).getD step "") = false) → (low = sp ∨ udm ((hs.map Txt.upper).getD (row.getD low 0) "") (((hs.map ladderF).getD (row.getD sp 0) []).getD step "") = true) →
      sp ≤ high → high ≤ row.length → (high = sp ∨ udm ((hs.map Txt.upper).getD (row.getD (high - 1) 0) "") (((hs.map ladderF).getD (row.getD sp 0) []).getD step "") = true) → (high = row.length ∨ udm ((hs.map Txt.upper).getD (row.getD high 0) "") (((hs.map ladderF).getD (row.getD sp 0) []).getD step "") = false) →
      ((List.range row.length).map fun q => decide (low ≤ q) && decide (q < high)) = row.map fun o => decide (((tabsF hs).getD (row.getD sp 0) []).getD o 0 ≤ step)
def hostNums (ns : List Int) : List Int := ns.take 2 ++ [26, 25, 18, 210, 13]
def hostsF (ns : List Int) : List Str := (hostNums ns).map hostF

theorem lk_hide {hb h' : Heap} {D : Addr} (hD : hb.get? D = none) (k : Lk hb h') : Lk hb (hideAll h' [D]) := fun b o c e => hideAll_get _ (k b o c e) (by
  intro m
  rw [List.mem_singleton] at m
  subst m
  rw [hD] at e; cases e)
theorem rpT : Rp (fun _ => VT) (fun _ => True) (fun n : Nat => PyData.int n) 0 where
  reads h v x := by rintro ⟨t, rfl⟩; exact ⟨_, .int _ _⟩
  lay x h := rfl
  dep x := Nat.le_refl _
  eqv x y := by
    rw [PyData.eqv]
    by_cases h : x = y
    · simp [h]
    · rw [decide_eq_false h]
      exact beq_false_of_ne fun q => h (by omega)

section
variable {prog : Program} {w : World} {A : Around} {s : Shared} {h : Heap} {tk : Nat} {K : Frag} {mg mb : Str → Option Value} {E : Value → Shared → Prop} {Q : Value → Shared → Prop} {env : Env}
theorem r_sorted {np pos : Pos} {e : Expr} (W : Wd K mg mb h) (en : nsIn K mainGlobals (Str.ofString "sorted") = some none)
    (hq : wpAny (model prog w) A (eval e env) (fun v s₁ => ∃ a h₁ tk₁, v = .ref a ∧ s₁ = St s h₁ tk₁ ∧ wpAny (model prog w) A (call (.builtin "sorted") [.ref a]) Q E (St s h₁ tk₁)) E (St s h tk))
    (hg : env.globals = mainGlobals := by rfl) (hb : env.builtins = builtinsNs := by rfl) (hk : env.scope.kind = .function := by rfl) (hl : env.kindOf (Str.ofString "sorted") = some .globalImplicit := by rfl)
    (he : starEach [e] env = [(false, eval e env)] := by rfl) : wpAny (model prog w) A (eval (.Call (.Name (Str.ofString "sorted") np) [e] [] pos) env) Q E (St s h tk) := by
  refine wpAny_Call_ofName (nm_built W en boot_sorted (PyProof.Rows.callWith_builtin1 (sp_cons (wpAny_mono hq (fun v s₁ h₁ => ?_) fun _ _ e => e) he) he) (by decide) hg hb hk hl)
  obtain ⟨a, h₂, tk₂, rfl, rfl, hq⟩ := h₁
  exact sp_nil hq
theorem item_t {value slice : Expr} {l : Addr} {vs : List Value} {k : Int} {u : Tok} {x : Value} {j : Nat} (hl : IsTup h l vs.toArray) (hlo : -(2 ^ 63) ≤ k) (hhi : k < 2 ^ 63) (hj : seqIndex? k vs.toArray.size = some j) (hx : vs.toArray[j]? = some x) (hq : Q x (St s h tk))
    (hs : subscripted slice false (.ref l) (.int k u) = operate [.ref l, .int k u] (getItem (.ref l) (.int k u)) := by with_unfolding_all rfl) : wpAny (model prog w) A (subscriptTail value slice (.ref l) (.int k u)) Q E (St s h tk) :=
  tail_any (hl.typeIs (s := St s h tk)) PySem.F.slot_tuple_getitem.lookup (getItem_tuple (s := St s h tk) hl hlo hhi hj hx hq) hs
end
/-- what law's last loop reads -/
structure LawD (h : Heap) (hs : List Str) (row : List Nat) (ar D16 D18 D6 : Addr) : Prop where
  row : TL h (.ref ar) row
  lads : SLL h (.ref D16) (hs.map ladderF)
  tabl : TLL h (.ref D18) (tabsF hs)
  louds : SL h (.ref D6) (hs.map Txt.upper)
theorem LawD.mono {h h' : Heap} {hs : List Str} {row : List Nat} {ar D16 D18 D6 : Addr} (x : LawD h hs row ar D16 D18 D6) (k : Lk h h') : LawD h' hs row ar D16 D18 D6 := ⟨x.row.mono k, x.lads.mono k, x.tabl.mono k, x.louds.mono k⟩
theorem LawD.ro {h : Heap} {hs : List Str} {row : List Nat} {ar D16 D18 D6 : Addr} (x : LawD h hs row ar D16 D18 D6) : ∃ vs, h.IsList ar (List.toArray vs) ∧ Paired VT vs row := by
  obtain ⟨a, vs, e, hl, hp⟩ := x.row
  cases e
  exact ⟨vs, hl, hp⟩
abbrev ownL (L : Addr) (m : Str → Option Value) (v1 v2 v3 v4 : Option Value) (D18 ar D8 D6 : Addr) : List (Addr × Pr) :=
  [(L, pNs m), (L + 8, pCell v1), (L + 7, pCell v2), (L + 6, pCell v3), (L + 5, pCell v4), (L + 4, pCell (some (.ref D18))), (L + 3, pCell (some (.ref ar))), (L + 2, pCell (some (.ref D8))), (L + 1, pCell (some (.ref D6)))]
/-- one place's turn, its ladder's and its table's place -/
theorem LawD.ladder {h : Heap} {hs : List Str} {row : List Nat} {ar D16 D18 D6 : Addr} (x : LawD h hs row ar D16 D18 D6) {i : Nat} (hi : i < row.length) (hr : ∀ j ∈ row, j < hs.length) :
    ∃ r t vs lw vl ly vy, row[i]? = some r ∧ r < hs.length ∧ (∃ vr, h.IsList ar (List.toArray vr) ∧ vr[i]? = some (.int r t)) ∧ h.IsList D16 (List.toArray vs) ∧ vs[r]? = some (.ref lw) ∧ h.IsList lw (List.toArray vl) ∧ Paired VS vl ((hs.map ladderF).getD (row.getD i 0) []) ∧
      (∃ vt, h.IsList D18 (List.toArray vt) ∧ vt[r]? = some (.ref ly)) ∧ h.IsList ly (List.toArray vy) ∧ Paired VT vy ((tabsF hs).getD (row.getD i 0) []) := by
  obtain ⟨vr, hlr, hpr⟩ := x.ro
  obtain ⟨z, hz, t, rfl⟩ := Paired.get hpr (List.getElem?_eq_getElem hi)
  have hrn := hr _ (List.getElem_mem hi)
  obtain ⟨a, vs, e, hl, hp⟩ := x.lads
  cases e
  obtain ⟨a, vt, e, hlt, hpt⟩ := x.tabl
  cases e
  have h1 : row[i] < (hs.map ladderF).length := by rw [List.length_map]; exact hrn
  have h2 : row[i] < (tabsF hs).length := by unfold tabsF; rw [List.length_map, List.length_map]; exact hrn
  obtain ⟨y, hy, lw, vl, rfl, hlw, hpw⟩ := Paired.get hp (List.getElem?_eq_getElem h1)
  obtain ⟨y', hy', ly, vy, rfl, hly, hpy⟩ := Paired.get hpt (List.getElem?_eq_getElem h2)
  have e0 : row.getD i 0 = row[i] := by rw [List.getD_eq_getElem?_getD, List.getElem?_eq_getElem hi]; rfl
  refine ⟨row[i], t, vs, lw, vl, ly, vy, List.getElem?_eq_getElem hi, hrn, ⟨vr, hlr, hz⟩, hl, hy, hlw, ?_, ⟨vt, hlt, hy'⟩, hly, ?_⟩
  · rw [e0, List.getD_eq_getElem?_getD, List.getElem?_eq_getElem h1]; exact hpw
  · rw [e0, List.getD_eq_getElem?_getD, List.getElem?_eq_getElem h2]; exact hpy

section
variable {prog : Program} {w : World} {A : Around} {s : Shared} {h : Heap} {tk : Nat} {mg mb : Str → Option Value} {E : Value → Shared → Prop} {Q : Value → Shared → Prop} {env : Env}
theorem call_law {sv : Value} {ns : List Int} {k : Nat} (R : Rm A (k + 8)) (W : Wd (KK w) mg mb h) (T : TI h) (ha : IL h sv ns) (hns : ns.length ≤ 63) (X : LawOk (hostsF ns))
    (hq : ∀ h' tk', Kp h h' → TI h' → Q (.bool true) (St s h' tk')) : codeAny (model prog w) A (.call (.ref 151) ⟨[sv], []⟩) (fun r s' => match r with | .ok (.ret v) => Q v s' | .ok _ => False | .error e => E e s') (St s h tk) := by
  refine enterCC (binds := [(Str.ofString "script", sv)]) R W T (by rfl) (by rfl) rfl rfl (by decide) (fun L h₁ tk₁ E' B R' => ?_) rfl rfl rfl
  have W₁ := W.keeps T B.kp
  obtain ⟨la, va, rfl, hla, hpa⟩ := id ha
  have hal := hpa.length
  have hla₁ := (B.kp.lk T).isList hla
  have hN : (hostNums ns).length ≤ 7 := by unfold hostNums; rw [List.length_append, List.length_take]; simp; omega
  have hHl : (hostsF ns).length = (hostNums ns).length := by unfold hostsF; rw [List.length_map]
  -- hosts
  refine wpAny_execs_cons (assign_comp (g := h) (fun i _ y => ∃ x, (hostsF ns)[i]? = some x ∧ VS y x) (fun _ _ _ _ _ e => e) R'.handled ?_)
  refine wpAny_BinOp ?_
  refine l_slice ?_
  refine nm_local (B.ns 0 rfl) ?_
  refine wpAny_evalPart_none ?_
  refine wpAny_evalPart_some ?_
  refine c_int fun _ _ => ?_
  refine ⟨_, _, _, _, _, _, rfl, rfl, hla₁, by omega, .none, .int _ _, fun a₂ h₂ k₂ n₂ hl₂ => ?_⟩
  have B₂ := B.grow k₂
  refine r_list ?_
  refine sp_cons ?_
  refine c_int fun t1 _ => ?_
  refine sp_cons ?_
  refine c_int fun t2 _ => ?_
  refine sp_cons ?_
  refine c_int fun t3 _ => ?_
  refine sp_cons ?_
  refine c_int fun t4 _ => ?_
  refine sp_cons ?_
  refine c_int fun t5 _ => ?_
  refine sp_nil ?_
  refine ⟨_, _, rfl, Nat.le_of_ble_eq_true rfl, fun a₃ h₃ k₃ n₃ g₃ => ?_⟩
  have B₃ := B₂.grow k₃
  have p₂ := Paired.sl hpa none (some (2 : Int))
  rw [show (2 : Int) = ((2 : Nat) : Int) from rfl, sl_upto, sl_upto] at p₂
  rw [show (2 : Int) = ((2 : Nat) : Int) from rfl, sl_upto] at hl₂
  refine cat_l ((lk_stays k₃).isList hl₂) (isList_of g₃) (by have := p₂.length; rw [List.length_take] at this; simp; omega) fun a₄ h₄ k₄ n₄ hl₄ => ?_
  have B₄ := B₃.grow k₄
  have p₄ : Paired VI (va.take 2 ++ [.int 26 t1, .int 25 t2, .int 18 t3, .int 210 t4, .int 13 t5]) (hostNums ns) := Paired.append p₂ (.cons ⟨_, rfl⟩ (.cons ⟨_, rfl⟩ (.cons ⟨_, rfl⟩ (.cons ⟨_, rfl⟩ (.cons ⟨_, rfl⟩ .nil)))))
  have hl4 := p₄.length
  refine ⟨_, _, _, _, 0, _, _, rfl, .list hl₄, by rw [sizeLine_eq]; omega, fun C D i v h₅ tk₅ m₅ E₅ Q' hi hv hn₅ hm hk ht hDn hDo hCn hq' => ?_, B₄, rfl, fun D h₅ tk₅ ys hD lk₅ B₅ hl₅ hlen hF => ?_⟩
  · obtain ⟨n, hn, tn, rfl⟩ := Paired.getL p₄ hv
    have W₅ := W.keeps T (B₄.kp.trans hk)
    refine call_fn W₅ (f := 98) (by rfl) (by rfl) ?_
    refine sp_cons ?_
    refine nm_local hn₅ ?_ hm
    refine sp_nil ?_
    refine ⟨W₅.X, ?_⟩
    exact call_host (k := k + 5) R' W₅ ht fun t' h₆ tk₆ k₆ T₆ => hq' _ _ _ k₆ T₆ ⟨_, by unfold hostsF; rw [List.getElem?_map, hn]; rfl, _, rfl⟩
  have hHo : SL h₅ (.ref D) (hostsF ns) := ⟨D, ys, rfl, hl₅, Paired.mk (by rw [hlen, hHl]; exact hl4) fun i y x hy hx => by
    obtain ⟨x', e, z⟩ := hF i y hy
    rw [hx] at e; cases e; exact z⟩
  generalize hostsF ns = hs at *
  obtain ⟨lh, vh, e, hlh, hph⟩ := id hHo
  cases e
  have hhl := hph.length
  have hn50 := X.n50
  have hc5 := B₅.cell 8 rfl
  -- louds
  refine wpAny_execs_cons ?_
  refine wpAny_Assign_Name ?_
  refine comp_ (fun i _ y => ∃ x, hs[i]? = some x ∧ VS y (Txt.upper x)) (fun _ _ _ _ _ e => e) R'.handled ?_
  refine nm_local (B₅.ns 0 rfl) ?_
  refine ⟨_, _, _, _, rfl, B₅.ti, .list hlh, by rw [sizeLine_eq]; omega, fun C D i v h₆ tk₆ m₆ E₆ Q' hi hv hn₆ hm hk ht hDn hDo hCn hq' => ?_, fun D₆ h₆ tk₆ ys₆ hD₆ hk₆ T₆ hl₆ hlen₆ hF₆ => ?_⟩
  · obtain ⟨x, hx, tx, rfl⟩ := Paired.getL hph hv
    have hxo := X.host x (List.mem_of_getElem? hx)
    with_reducible refine str_meth F.slot_str_upper F.type_str_upper ?_
    refine nm_local hn₆ ?_ hm
    refine ⟨_, _, rfl, ?_⟩
    refine callWith_method0 ?_
    refine s_upper hxo.up fun t₂ tk₂ => ?_
    exact hq' _ _ _ (Kp.refl _) ht ⟨x, hx, _, rfl⟩
  have hLo : SL h₆ (.ref D₆) (hs.map Txt.upper) := ⟨D₆, ys₆, rfl, hl₆, Paired.map_mk (by rw [hlen₆, hhl]) fun i y x hy hx => by
    obtain ⟨x', e, z⟩ := hF₆ i y hy
    rw [hx] at e; cases e; exact z⟩
  have B₆ := B₅.call hk₆ T₆
  refine st_cell 8 B₆ rfl fun h₇ tk₇ B₇ hs₇ => ?_
  have lk57 : Lk h₅ h₇ := (hk₆.lk B₅.ti).trans (lk_cell (B₆.cell 8 rfl) hs₇)
  have hLo₇ := hLo.mono (lk_cell (B₆.cell 8 rfl) hs₇)
  have hHo₇ := hHo.mono lk57
  have W₇ := W.keeps T B₇.kp
  -- lists
  refine wpAny_execs_cons ?_
  refine wpAny_Assign_Name ?_
  refine comp_ (fun i h y => ∃ x, hs[i]? = some x ∧ SL h y (labelsF x)) (fun j h h' y lk ⟨x, e, z⟩ => ⟨x, e, z.mono lk⟩) R'.handled ?_
  refine nm_local (B₇.ns 0 rfl) ?_
  refine ⟨_, _, _, _, rfl, B₇.ti, .list (lk57.isList hlh), by rw [sizeLine_eq]; omega, fun C D i v h₈ tk₈ m₈ E₈ Q' hi hv hn₈ hm hk ht hDn hDo hCn hq' => ?_, fun D₈ h₈ tk₈ ys₈ hD₈ hk₈ T₈ hl₈ hlen₈ hF₈ => ?_⟩
  · obtain ⟨x, hx, tx, rfl⟩ := Paired.getL hph hv
    have hxo := X.host x (List.mem_of_getElem? hx)
    have W₈ := W₇.keeps B₇.ti hk
    refine call_fn W₈ (f := 103) (by rfl) (by rfl) ?_
    refine sp_cons ?_
    refine nm_local hn₈ ?_ hm
    refine sp_nil ?_
    refine ⟨W₈.X, ?_⟩
    refine call_labels (k := k + 5) R' W₈ ht hxo.lo fun a vs h₉ tk₉ k₉ T₉ n₉ hl₉ hp₉ => hq' _ _ _ k₉ T₉ ⟨x, hx, a, vs, rfl, isList_hide hl₉ ?_, hp₉⟩
    rintro rfl
    obtain ⟨o, e, _⟩ := hDo
    rw [n₉] at e; cases e
  have hLi : SLL h₈ (.ref D₈) (hs.map labelsF) := ⟨D₈, ys₈, rfl, hl₈, Paired.map_mk (by rw [hlen₈, hhl]) fun i y x hy hx => by
    obtain ⟨x', e, z⟩ := hF₈ i y hy
    rw [hx] at e; cases e; exact z⟩
  have B₈ := B₇.call hk₈ T₈
  refine st_cell 7 B₈ rfl fun h₉ tk₉ B₉ hs₉ => ?_
  have lk79 : Lk h₇ h₉ := (hk₈.lk B₇.ti).trans (lk_cell (B₈.cell 7 rfl) hs₉)
  have hLi₉ := hLi.mono (lk_cell (B₈.cell 7 rfl) hs₉)
  have hLo₉ := hLo₇.mono lk79
  have hHo₉ := hHo₇.mono lk79
  have W₉ := W.keeps T B₉.kp
  -- row
  refine wpAny_execs_cons ?_
  refine wpAny_Assign_Name ?_
  refine call_fn W₉ (f := 110) (by rfl) (by rfl) ?_
  refine sp_cons ?_
  refine nm_cell (B₉.cell 7 rfl) ?_
  refine sp_nil ?_
  refine ⟨W₉.X, ?_⟩
  refine call_row (k := k + 1) R' W₉ B₉.ti hLi₉ (by rw [List.length_map]; omega) fun ar vr row h₁₀ tk₁₀ k₁₀ T₁₀ n₁₀ hl₁₀ hp₁₀ hI => ?_
  rw [List.length_map] at hI
  have B₁₀ := B₉.call k₁₀ T₁₀
  refine st_cell 6 B₁₀ rfl fun h₁₁ tk₁₁ B₁₁ hs₁₁ => ?_
  have lk9b : Lk h₉ h₁₁ := (k₁₀.lk B₉.ti).trans (lk_cell (B₁₀.cell 6 rfl) hs₁₁)
  have hRo₁₁ : TL h₁₁ (.ref ar) row := ⟨ar, vr, rfl, (lk_cell (B₁₀.cell 6 rfl) hs₁₁).isList hl₁₀, hp₁₀⟩
  have hLi₁₁ := hLi₉.mono lk9b
  have hLo₁₁ := hLo₉.mono lk9b
  have hHo₁₁ := hHo₉.mono lk9b
  have W₁₁ := W.keeps T B₁₁.kp
  have hrl := hI.length
  have hso : ∀ x ∈ (hs.map labelsF).zipIdx, ∀ z ∈ x.1, PyData.strOk z = true := fun x hx z hz => by
    have : x.1 ∈ hs.map labelsF := by
      obtain ⟨a, b⟩ := x
      exact List.fst_mem_of_mem_zipIdx hx
    obtain ⟨y, hy, e⟩ := List.mem_map.mp this
    rw [← e] at hz
    exact (X.host y hy).lis.2 z hz
  obtain ⟨lh₂, vh₂, e, hlh₂, hph₂⟩ := id hHo₁₁
  cases e
  have hhl₂ := hph₂.length
  -- the row is the sorted one
  refine wpAny_execs_cons ?_
  refine wpAny_If ?_
  refine wpAny_isTrue_Compare1 ?_
  refine nm_cell (B₁₁.cell 6 rfl) ?_
  refine comp_ (fun i _ y => ∃ r, row[i]? = some r ∧ VT y r) (fun _ _ _ _ _ e => e) R'.handled ?_
  refine r_sorted W₁₁ (by rfl) ?_
  refine comp_ (fun i h y => ∃ x, (hs.map labelsF)[i]? = some x ∧ PL h y (x, i)) (fun j h h' y lk ⟨x, e, z⟩ => ⟨x, e, z.mono lk⟩) R'.handled ?_
  refine range1 W₁₁ (by rfl) ?_
  refine r_len W₁₁ (by rfl) ?_
  refine nm_local (B₁₁.ns 0 rfl) ?_
  refine ⟨_, _, _, _, rfl, rfl, hlh₂, by omega, fun t' tk' => ?_⟩
  refine ⟨_, _, _, _, rfl, rfl, fun r h₁₂ tk₁₂ t₁₂ u₁₂ z₁₂ k₁₂ hr₁₂ => ?_⟩
  have B₁₂ := B₁₁.grow k₁₂
  have hLi₁₂ := hLi₁₁.mono (lk_stays k₁₂)
  obtain ⟨ll, vl, e, hll, hpl⟩ := id hLi₁₂
  cases e
  refine ⟨_, _, _, _, rfl, B₁₂.ti, .range hr₁₂ (by decide) (by decide) (by omega) (by omega), by rw [sizeLine_eq]; omega, fun C D i v h₁₃ tk₁₃ m₁₃ E₁₃ Q' hi hv hn₁₃ hm hk ht hDn hDo hCn hq' => ?_, fun D₁₃ h₁₃ tk₁₃ ys₁₃ hD₁₃ hk₁₃ T₁₃ hl₁₃ hlen₁₃ hF₁₃ => ?_⟩
  · obtain ⟨tv, rfl⟩ := hv
    have hi2 : i < (hs.map labelsF).length := by rw [List.length_map]; omega
    obtain ⟨y, hy, hyl⟩ := Paired.get hpl (List.getElem?_eq_getElem hi2)
    have lk3 := hk.lk B₁₂.ti
    rw [show (0 : Int) + (i : Int) * 1 = (i : Int) by omega] at hm
    refine r_tuple ?_
    refine sp_cons ?_
    refine Subscript_ ?_
    refine nm_cell (cell_keep B₁₂.ti hk (B₁₂.cell 7 rfl)) ?_
    refine nm_local hn₁₃ ?_ hm
    refine item_l (lk3.isList hll) (by omega) (by omega) (x := y) (by rw [Int.toNat_natCast]; exact hy) ?_
    refine sp_cons ?_
    refine nm_local hn₁₃ ?_ hm
    refine sp_nil ?_
    refine ⟨_, _, rfl, Nat.le_of_ble_eq_true rfl, fun a h₁₄ k₁₄ n₁₄ g₁₄ => ?_⟩
    refine hq' _ _ _ (Kp.of k₁₄) (ht.stays k₁₄) ⟨_, List.getElem?_eq_getElem hi2, a, y, tv, rfl, hideAll_get _ g₁₄ ?_, hyl.mono (lk_hide hDn (lk3.trans (lk_stays k₁₄)))⟩
    intro m
    rw [List.mem_singleton] at m
    subst m
    obtain ⟨o, e, _⟩ := hDo
    rw [n₁₄] at e; cases e
  have hps : Paired (PL h₁₃) ys₁₃ ((hs.map labelsF).zipIdx) := Paired.mk (by rw [hlen₁₃, List.length_zipIdx, List.length_map]; omega) fun i y x hy hx => by
    obtain ⟨z, e, q⟩ := hF₁₃ i y hy
    rw [List.getElem?_zipIdx, e] at hx
    simp at hx; subst hx; exact q
  have hyl : ys₁₃.length = hs.length := by rw [hlen₁₃]; omega
  have B₁₃ := B₁₂.call hk₁₃ T₁₃
  refine ⟨_, _, _, rfl, rfl, ?_⟩
  refine c_sorted (k := k + 5) R' hl₁₃ hps (by have := X.n2; omega) (by omega) hso (by rw [hyl]; exact X.ord) fun D₁₄ p h₁₄ hPm hSo k₁₄ n₁₄ hl₁₄ => ?_
  rw [hyl] at hPm hSo
  rw [X.row row hI p hPm hSo] at hl₁₄
  have B₁₄ := B₁₃.grow k₁₄
  have lkd : Lk h₁₁ h₁₄ := (lk_stays k₁₂).trans ((hk₁₃.lk B₁₂.ti).trans (lk_stays k₁₄))
  refine ⟨_, _, _, _, rfl, B₁₄.ti, .list hl₁₄, by rw [sizeLine_eq, List.length_map]; omega, fun C D i v h₁₅ tk₁₅ m₁₅ E₁₅ Q' hi hv hn₁₅ hm hk ht hDn hDo hCn hq' => ?_, fun D₁₅ h₁₅ tk₁₅ ys₁₅ hD₁₅ hk₁₅ T₁₅ hl₁₅ hlen₁₅ hF₁₅ => ?_⟩
  · have hv : (row.map fun i => ys₁₃.getD i Value.none)[i]? = some v := hv
    rw [List.getElem?_map] at hv
    obtain ⟨r, hr, rfl⟩ := Option.map_eq_some_iff.mp hv
    have hrn : r < hs.length := hI.lt r (List.mem_of_getElem? hr)
    have hz : (hs.map labelsF).zipIdx[r]? = some ((hs.map labelsF)[r]'(by rw [List.length_map]; exact hrn), r) := by
      rw [List.getElem?_zipIdx, List.getElem?_eq_getElem (by rw [List.length_map]; exact hrn)]
      simp
    obtain ⟨y, hy, hyp⟩ := Paired.get hps hz
    obtain ⟨a, lv, t, rfl, g, _⟩ := hyp.mono ((lk_stays k₁₄).trans (hk.lk B₁₄.ti))
    rw [List.getD_eq_getElem?_getD, hy] at hm
    refine Subscript_ ?_
    refine nm_local hn₁₅ ?_ hm
    refine c_int fun _ _ => ?_
    refine item_t (vs := [lv, .int r t]) (j := 1) ⟨_, g, rfl, _, rfl⟩ (by decide) (by decide) rfl rfl ?_
    exact hq' _ _ _ (Kp.refl _) ht ⟨r, hr, t, rfl⟩
  have B₁₅ := B₁₄.call hk₁₅ T₁₅
  have lke : Lk h₁₁ h₁₅ := lkd.trans (hk₁₅.lk B₁₄.ti)
  refine d_ne rpT.list (by decide) R' (x := row) (y := row) (hRo₁₁.mono lke) ⟨_, _, rfl, hl₁₅, Paired.mk (by rw [hlen₁₅, List.length_map]) fun i y x hy hx => ?_⟩ (fun _ _ => trivial) (fun _ _ => trivial) ?_
  · obtain ⟨r, e, z⟩ := hF₁₅ i y hy
    rw [hx] at e; cases e; exact z
  rw [decide_eq_true rfl]
  refine wpAny_truthy_bool ?_
  refine wpAny_execs_nil ?_
  have W₁₅ := W.keeps T B₁₅.kp
  -- ladders
  refine wpAny_execs_cons (assign_comp (g := h) (fun i h y => ∃ x, hs[i]? = some x ∧ SL h y (ladderF x)) (fun j h h' y lk ⟨x, e, z⟩ => ⟨x, e, z.mono lk⟩) R'.handled ?_)
  refine nm_local (B₁₅.ns 0 rfl) ?_
  refine ⟨_, _, _, _, 0, _, _, rfl, .list (lke.isList hlh₂), by rw [sizeLine_eq]; omega, fun C D i v h₁₆ tk₁₆ m₁₆ E₁₆ Q' hi hv hn₁₆ hm hk ht hDn hDo hCn hq' => ?_, B₁₅, rfl, fun D₁₆ h₁₆ tk₁₆ ys₁₆ hD₁₆ lk₁₆ B₁₆ hl₁₆ hlen₁₆ hF₁₆ => ?_⟩
  · obtain ⟨x, hx, tx, rfl⟩ := Paired.getL hph₂ hv
    have hxo := X.host x (List.mem_of_getElem? hx)
    have W₁₆ := W₁₅.keeps B₁₅.ti hk
    refine call_fn W₁₆ (f := 117) (by rfl) (by rfl) ?_
    refine sp_cons ?_
    refine nm_local hn₁₆ ?_ hm
    refine sp_nil ?_
    refine ⟨W₁₆.X, ?_⟩
    refine call_ladder (k := k + 4) R' W₁₆ ht hxo.okc hxo.cnt hxo.cnt0 fun a vs h₁₇ tk₁₇ k₁₇ T₁₇ n₁₇ hl₁₇ hp₁₇ => hq' _ _ _ k₁₇ T₁₇ ⟨x, hx, a, vs, rfl, isList_hide hl₁₇ ?_, hp₁₇⟩
    rintro rfl
    obtain ⟨o, e, _⟩ := hDo
    rw [n₁₇] at e; cases e
  have hLa : SLL h₁₆ (.ref D₁₆) (hs.map ladderF) := ⟨D₁₆, ys₁₆, rfl, hl₁₆, Paired.map_mk (by rw [hlen₁₆, hhl₂]) fun i y x hy hx => by
    obtain ⟨x', e, z⟩ := hF₁₆ i y hy
    rw [hx] at e; cases e; exact z⟩
  have lkf : Lk h₁₁ h₁₆ := lke.trans lk₁₆
  have W₁₆ := W.keeps T B₁₆.kp
  have hsk : ∀ x ∈ hs.map ladderF, ∀ y ∈ x, PyData.strOk y = true := fun x hx y hy => by
    obtain ⟨z, hz, rfl⟩ := List.mem_map.mp hx
    exact (X.host z hz).sok y hy
  -- the ladders are the rungs
  refine wpAny_execs_cons ?_
  refine wpAny_If ?_
  refine wpAny_isTrue_Compare1 ?_
  refine nm_local (B₁₆.ns 0 rfl) ?_
  refine comp_ (fun i h y => ∃ x, hs[i]? = some x ∧ SL h y (ladderF x)) (fun j h h' y lk ⟨x, e, z⟩ => ⟨x, e, z.mono lk⟩) R'.handled ?_
  refine nm_local (B₁₆.ns 0 rfl) ?_
  refine ⟨_, _, _, _, rfl, B₁₆.ti, .list (lkf.isList hlh₂), by rw [sizeLine_eq]; omega, fun C D i v h₁₇ tk₁₇ m₁₇ E₁₇ Q' hi hv hn₁₇ hm hk ht hDn hDo hCn hq' => ?_, fun D₁₇ h₁₇ tk₁₇ ys₁₇ hD₁₇ hk₁₇ T₁₇ hl₁₇ hlen₁₇ hF₁₇ => ?_⟩
  · obtain ⟨x, hx, tx, rfl⟩ := Paired.getL hph₂ hv
    have hxo := X.host x (List.mem_of_getElem? hx)
    have W₁₇ := W₁₆.keeps B₁₆.ti hk
    refine call_fn W₁₇ (f := 122) (by rfl) (by rfl) ?_
    refine sp_cons ?_
    refine nm_local hn₁₇ ?_ hm
    refine sp_nil ?_
    refine ⟨W₁₇.X, ?_⟩
    refine call_rungs (k := k + 5) R' W₁₇ ht hxo.len rfl hxo.spl hxo.sum fun a vs h₁₈ tk₁₈ k₁₈ T₁₈ n₁₈ hl₁₈ hp₁₈ => hq' _ _ _ k₁₈ T₁₈ ⟨x, hx, a, vs, rfl, isList_hide hl₁₈ ?_, by rw [hxo.lad]; exact hp₁₈⟩
    rintro rfl
    obtain ⟨o, e, _⟩ := hDo
    rw [n₁₈] at e; cases e
  have B₁₇ := B₁₆.call hk₁₇ T₁₇
  have hLa₁₇ := hLa.mono (hk₁₇.lk B₁₆.ti)
  refine d_ne rpS.list.list (by decide) R' (x := hs.map ladderF) (y := hs.map ladderF) hLa₁₇ ⟨_, _, rfl, hl₁₇, Paired.map_mk (by rw [hlen₁₇, hhl₂]) fun i y x hy hx => ?_⟩ hsk hsk ?_
  · obtain ⟨x', e, z⟩ := hF₁₇ i y hy
    rw [hx] at e; cases e; exact z
  rw [decide_eq_true rfl]
  refine wpAny_truthy_bool ?_
  refine wpAny_execs_nil ?_
  have lkg : Lk h₁₁ h₁₇ := lkf.trans (hk₁₇.lk B₁₆.ti)
  have W₁₇ := W.keeps T B₁₇.kp
  have hLo₁₇ := hLo₁₁.mono lkg
  have hLi₁₇ := hLi₁₁.mono lkg
  obtain ⟨ll₂, vl₂, e, hll₂, hpl₂⟩ := id hLa₁₇
  cases e
  have hlal := hpl₂.length
  rw [List.length_map] at hlal
  -- tables
  refine wpAny_execs_cons ?_
  refine wpAny_Assign_Name ?_
  refine comp_ (fun i h y => ∃ x, hs[i]? = some x ∧ TL h y ((hs.map labelsF).map (placeF (ladderF x)))) (fun j h h' y lk ⟨x, e, z⟩ => ⟨x, e, z.mono lk⟩) R'.handled ?_
  refine nm_local (B₁₇.ns 0 rfl) ?_
  refine ⟨_, _, _, _, rfl, B₁₇.ti, .list hll₂, by rw [sizeLine_eq]; omega, fun C D i v h₁₈ tk₁₈ m₁₈ E₁₈ Q' hi hv hn₁₈ hm hk ht hDn hDo hCn hq' => ?_, fun D₁₈ h₁₈ tk₁₈ ys₁₈ hD₁₈ hk₁₈ T₁₈ hl₁₈ hlen₁₈ hF₁₈ => ?_⟩
  · obtain ⟨rs, hrs, hsl⟩ := Paired.getL hpl₂ hv
    rw [List.getElem?_map] at hrs
    obtain ⟨x, hx, rfl⟩ := Option.map_eq_some_iff.mp hrs
    have hxm := List.mem_of_getElem? hx
    have hxo := X.host x hxm
    have W₁₈ := W₁₇.keeps B₁₇.ti hk
    have lk3 := hk.lk B₁₇.ti
    refine call_fn W₁₈ (f := 134) (by rfl) (by rfl) ?_
    refine sp_cons ?_
    refine nm_local hn₁₈ ?_ hm
    refine sp_cons ?_
    refine nm_cell (cell_keep B₁₇.ti hk (B₁₇.cell 8 rfl)) ?_
    refine sp_cons ?_
    refine nm_cell (cell_keep B₁₇.ti hk (B₁₇.cell 7 rfl)) ?_
    refine sp_nil ?_
    refine ⟨W₁₈.X, ?_⟩
    refine call_places (k := k + 1) R' W₁₈ ht (hsl.mono lk3) (hLo₁₇.mono lk3) (hLi₁₇.mono lk3) hxo.llen (by rw [List.length_map]; omega) (by rw [List.length_map, List.length_map]) hxo.okr ?_ hxo.lab ?_ (X.chk x hxm) fun a vs h₁₉ tk₁₉ k₁₉ T₁₉ n₁₉ hl₁₉ hp₁₉ => hq' _ _ _ k₁₉ T₁₉ ⟨x, hx, a, vs, rfl, isList_hide hl₁₉ ?_, hp₁₉⟩
    · intro r hr
      obtain ⟨z, hz, rfl⟩ := List.mem_map.mp hr
      exact (X.host z hz).okl
    · intro r hr
      obtain ⟨z, hz, rfl⟩ := List.mem_map.mp hr
      exact (X.host z hz).lis
    · rintro rfl
      obtain ⟨o, e, _⟩ := hDo
      rw [n₁₉] at e; cases e
  have hTa : TLL h₁₈ (.ref D₁₈) (tabsF hs) := ⟨D₁₈, ys₁₈, rfl, hl₁₈, by
    unfold tabsF
    rw [List.map_map]
    refine Paired.map_mk (by rw [hlen₁₈, hlal]) fun i y x hy hx => ?_
    obtain ⟨x', e, z⟩ := hF₁₈ i y hy
    rw [hx] at e; cases e; exact z⟩
  have B₁₈ := B₁₇.call hk₁₈ T₁₈
  refine st_cell 5 B₁₈ rfl fun h₁₉ tk₁₉ B₁₉ hs₁₉ => ?_
  have lkh : Lk h₁₇ h₁₉ := (hk₁₈.lk B₁₇.ti).trans (lk_cell (B₁₈.cell 5 rfl) hs₁₉)
  have hTa₁₉ := hTa.mono (lk_cell (B₁₈.cell 5 rfl) hs₁₉)
  have hLa₁₉ := hLa₁₇.mono lkh
  have hLo₁₉ := hLo₁₇.mono lkh
  have hRo₁₉ := hRo₁₁.mono (lkg.trans lkh)
  have W₁₉ := W.keeps T B₁₉.kp
  have htl : (tabsF hs).length = hs.length := by unfold tabsF; rw [List.length_map, List.length_map]
  -- none of them is None, and the neighbours
  refine wpAny_execs_cons ?_
  refine wpAny_If ?_
  refine wpAny_isTrue_BoolOp ?_
  refine wpAny_allTrue_Or_cons ?_
  refine wpAny_isTrue_Compare1 ?_
  refine wpAny_Constant_none ?_
  refine nm_cell (B₁₉.cell 5 rfl) ?_
  obtain ⟨as, ra⟩ := rpT.list.list.reads _ _ _ hTa₁₉
  refine SeqAt.in_list_reads (s := St s h₁₉ _) ra (.none) (rpT.list.list.lay (tabsF hs) fun _ _ _ _ => trivial) rfl ?_ ?_
  · have := R'.units
    have : min (PyData.depthAll ((tabsF hs).map fun xs => PyData.list (xs.map fun n : Nat => PyData.int n))) PyData.none.depth ≤ 0 := Nat.min_le_right _ _
    omega
  rw [show (((tabsF hs).map fun xs => PyData.list (xs.map fun n : Nat => PyData.int n)).any fun y => PyData.eqv y PyData.none) = false by
    rw [List.any_map, List.any_eq_false]
    intro x _
    simp [PyData.eqv]]
  refine wpAny_truthy_bool ?_
  refine wpAny_allTrue_Or_cons ?_
  refine wpAny_isTrue_Not ?_
  refine wpAny_isTrue_value ?_
  refine call_fn W₁₉ (f := 139) (by rfl) (by rfl) ?_
  refine sp_cons ?_
  refine nm_cell (B₁₉.cell 6 rfl) ?_
  refine sp_cons ?_
  refine nm_local (B₁₉.ns 0 rfl) ?_
  refine sp_cons ?_
  refine nm_cell (B₁₉.cell 5 rfl) ?_
  refine sp_nil ?_
  refine ⟨W₁₉.X, ?_⟩
  refine call_near (k := k + 5) R' W₁₉ B₁₉.ti hRo₁₉ hLa₁₉ hTa₁₉ (by omega) (by rw [List.length_map]; omega) (fun i hi => by rw [List.length_map]; exact hI.lt i hi) (by rw [htl, List.length_map]) ?_ ?_ (X.near row hI) fun h₂₀ tk₂₀ k₂₀ T₂₀ => ?_
  · intro l hl
    unfold tabsF at hl
    obtain ⟨z, hz, rfl⟩ := List.mem_map.mp hl
    rw [List.length_map, List.length_map, List.length_map]
  · intro l hl
    obtain ⟨z, hz, rfl⟩ := List.mem_map.mp hl
    have := (X.host z hz).llen
    omega
  have B₂₀ := B₁₉.call k₂₀ T₂₀
  have W₂₀ := W.keeps T B₂₀.kp
  have lki := k₂₀.lk B₁₉.ti
  refine wpAny_truthy_bool ?_
  rw [if_neg (by decide)]
  refine wpAny_allTrue_Or_nil ?_
  refine wpAny_execs_nil ?_
  have hX₂₀ : LawD h₂₀ hs row ar D₁₆ D₁₈ D₆ := ⟨hRo₁₉.mono lki, hLa₁₉.mono lki, hTa₁₉.mono lki, hLo₁₉.mono lki⟩
  -- the stretches
  refine wpAny_execs_cons (for_range R'.handled (g := h) (fun i own h => ∃ m v1 v2 v3 v4, own = ownL L m v1 v2 v3 v4 D₁₈ ar D₈ D₆ ∧ m (Str.ofString "ladders") = some (.ref D₁₆) ∧ LawD h hs row ar D₁₆ D₁₈ D₆)
    (fun i own h h' lk ⟨m, v1, v2, v3, v4, e1, e2, e3⟩ => ⟨m, v1, v2, v3, v4, e1, e2, e3.mono lk⟩) ?_)
  obtain ⟨vr₂, hlr₂, hpr₂⟩ := hX₂₀.ro
  have hvr := hpr₂.length
  refine range1 W₂₀ (by rfl) ?_
  refine r_len W₂₀ (by rfl) ?_
  refine nm_cell (B₂₀.cell 6 rfl) ?_
  refine ⟨_, _, _, _, rfl, rfl, hlr₂, by omega, fun t' tk' => ?_⟩
  refine ⟨_, _, _, _, rfl, rfl, fun r h₂₁ tk₂₁ t₂₁ u₂₁ z₂₁ k₂₁ hr₂₁ => ?_⟩
  refine ⟨r, _, _, _, _, _, _, _, _, rfl, rfl, hr₂₁, ⟨by decide, by decide, by omega, by omega⟩, B₂₀.grow k₂₁, ⟨_, _, _, _, _, rfl, rfl, hX₂₀.mono (lk_stays k₂₁)⟩, fun I p i own' h' tk tk' E₂ hi hJ F' => ?_, fun own' h' tk hJ F' => ?_⟩
  · obtain ⟨m, v1, v2, v3, v4, rfl, hml, hX⟩ := hJ
    have hi' : i < row.length := by omega
    rw [show (0 : Int) + (i : Int) = (i : Int) by omega]
    have hc' := F'.cell 5 rfl
    refine st_cell 5 F' rfl fun h₂₂ tk₂₂ F₂₂ hs₂₂ => ?_
    have hX₂₂ := hX.mono (lk_cell hc' hs₂₂)
    have W₂₂ := W.keeps T F₂₂.kp
    obtain ⟨r, tr, vs₂, lw, vl, ly, vy, hri, hrn, ⟨vr₃, hlr₃, hr₃⟩, hl₃, hy₃, hlw, hpw, ⟨vt, hlt, hyt⟩, hly, hpy⟩ := hX₂₂.ladder hi' hI.lt
    refine wpAny_execs_cons (for_range R'.handled (g := h) (fun j own h => ∃ m v1 v2 v3, own = (I, p) :: ownL L m v1 v2 v3 (some (.int i tk')) D₁₈ ar D₈ D₆ ∧ m (Str.ofString "ladders") = some (.ref D₁₆) ∧ LawD h hs row ar D₁₆ D₁₈ D₆)
      (fun i own h h' lk ⟨m, v1, v2, v3, e1, e2, e3⟩ => ⟨m, v1, v2, v3, e1, e2, e3.mono lk⟩) ?_)
    have hlwl := hpw.length
    have hll : ((hs.map ladderF).getD (row.getD i 0) []).length ≤ 50 := by
      have e0 : row.getD i 0 = r := by rw [List.getD_eq_getElem?_getD, hri]; rfl
      rw [e0, List.getD_eq_getElem?_getD, List.getElem?_map, List.getElem?_eq_getElem hrn]
      exact (X.host _ (List.getElem_mem hrn)).llen
    refine range1 W₂₂ (by rfl) ?_
    refine r_len W₂₂ (by rfl) ?_
    refine Subscript_ ?_
    refine nm_local (F₂₂.ns 1 rfl) ?_ hml
    refine Subscript_ ?_
    refine nm_cell (F₂₂.cell 7 rfl) ?_
    refine nm_cell (F₂₂.cell 5 rfl) ?_
    refine item_l hlr₃ (by omega) (by omega) (x := .int r tr) (by rw [Int.toNat_natCast]; exact hr₃) ?_
    refine item_l hl₃ (by omega) (by omega) (x := .ref lw) (by rw [Int.toNat_natCast]; exact hy₃) ?_
    refine ⟨_, _, _, _, rfl, rfl, hlw, by omega, fun _ _ => ?_⟩
    refine ⟨_, _, _, _, rfl, rfl, fun r₂₃ h₂₃ tk₂₃ t₂₃ u₂₃ z₂₃ k₂₃ hr₂₃ => ?_⟩
    refine ⟨r₂₃, _, _, _, _, _, _, _, _, rfl, rfl, hr₂₃, ⟨by decide, by decide, by omega, by omega⟩, F₂₂.grow k₂₃, ⟨_, _, _, _, rfl, hml, hX₂₂.mono (lk_stays k₂₃)⟩, fun I₂ p₂ j own₂ h₂₄ tk₂₄ tk₂₄' E₂₄ hj hJ₂ F₂₄ => ?_, fun own₂ h₂₄ tk₂₄ hJ₂ F₂₄ => ?_⟩
    · obtain ⟨m₂, w1, w2, w3, rfl, hml₂, hX₂₄⟩ := hJ₂
      have hj' : j < ((hs.map ladderF).getD (row.getD i 0) []).length := by omega
      rw [show (0 : Int) + (j : Int) = (j : Int) by omega]
      have hc₂₄ := F₂₄.cell 5 rfl
      refine st_cell 5 F₂₄ rfl fun h₂₅ tk₂₅ F₂₅ hs₂₅ => ?_
      have hX₂₅ := hX₂₄.mono (lk_cell hc₂₄ hs₂₅)
      have W₂₅ := W.keeps T F₂₅.kp
      obtain ⟨r', tr', vs', lw', vl', ly', vy', hri', hrn', ⟨vr', hlr', hr'⟩, hl', hy', hlw', hpw', _, _, _⟩ := hX₂₅.ladder hi' hI.lt
      rw [hri] at hri'
      cases hri'
      obtain ⟨z, hz, tz, rfl⟩ := Paired.get hpw' (List.getElem?_eq_getElem hj')
      have hrung : (((hs.map ladderF).getD (row.getD i 0) [])[j]) ∈ ladderF hs[r] := by
        have e0 : row.getD i 0 = r := by rw [List.getD_eq_getElem?_getD, hri]; rfl
        have e1 : (hs.map ladderF).getD (row.getD i 0) [] = ladderF hs[r] := by rw [e0, List.getD_eq_getElem?_getD, List.getElem?_map, List.getElem?_eq_getElem hrn]; rfl
        have : ((hs.map ladderF).getD (row.getD i 0) [])[j] ∈ (hs.map ladderF).getD (row.getD i 0) [] := List.getElem_mem hj'
        exact (congrArg (fun l => (((hs.map ladderF).getD (row.getD i 0) [])[j]) ∈ l) e1).mp this
      have hru : ((hs.map ladderF).getD (row.getD i 0) []).getD j "" = ((hs.map ladderF).getD (row.getD i 0) [])[j] := by rw [List.getD_eq_getElem?_getD (i := j), List.getElem?_eq_getElem hj']; rfl
      have hst := X.stretch row hI i j
      rw [hru] at hst
      generalize ((hs.map ladderF).getD (row.getD i 0) [])[j] = rung at *
      refine wpAny_execs_cons ?_
      refine Assign_Tuple ?_
      refine call_fn W₂₅ (f := 146) (by rfl) (by rfl) ?_
      refine sp_cons ?_
      refine nm_cell (F₂₅.cell 8 rfl) ?_
      refine sp_cons ?_
      refine nm_cell (F₂₅.cell 10 rfl) ?_
      refine sp_cons ?_
      refine Subscript_ ?_
      refine Subscript_ ?_
      refine nm_local (F₂₅.ns 2 rfl) ?_ hml₂
      refine Subscript_ ?_
      refine nm_cell (F₂₅.cell 8 rfl) ?_
      refine nm_cell (F₂₅.cell 6 rfl) ?_
      refine item_l hlr' (by omega) (by omega) (x := .int r tr') (by rw [Int.toNat_natCast]; exact hr') ?_
      refine item_l hl' (by omega) (by omega) (x := .ref lw') (by rw [Int.toNat_natCast]; exact hy') ?_
      refine nm_cell (F₂₅.cell 5 rfl) ?_
      refine item_l hlw' (by omega) (by omega) (x := .str rung tz) (by rw [Int.toNat_natCast]; exact hz) ?_
      refine sp_cons ?_
      refine nm_cell (F₂₅.cell 6 rfl) ?_
      refine sp_nil ?_
      refine ⟨W₂₅.X, ?_⟩
      refine call_stretch (k := k + 1) R' W₂₅ F₂₅.ti hX₂₅.row hX₂₅.louds (by omega) (by rw [List.length_map]; omega) (fun q hq => by rw [List.length_map]; exact hI.lt q hq) (by omega) ((X.host _ (List.getElem_mem hrn)).okr _ hrung) (fun x hx => by obtain ⟨z, hz, rfl⟩ := List.mem_map.mp hx; exact (X.host z hz).okl) fun a low high tlo thi h₂₆ tk₂₆ k₂₆ T₂₆ g₂₆ c1 c2 c3 c4 c5 c6 c7 => ?_
      have heq := hst low high hi' hj' c1 c2 c3 c4 c5 c6 c7
      have F₂₆ := F₂₅.call k₂₆ T₂₆
      refine assign_Tuple_tuple (s := St s h₂₆ tk₂₆) (items := [Value.int low tlo, .int high thi].toArray) R'.handled ⟨_, g₂₆, rfl, _, rfl⟩ rfl rfl fun h₂₇ hx₂₇ => ?_
      have k₂₇ : h₂₆.StaysIn h₂₇ := fun b o e => hx₂₇ b o (Nat.ne_of_lt (Heap.lt_size e)) e
      have F₂₇ := F₂₆.grow k₂₇
      have hX₂₇ := hX₂₅.mono ((k₂₆.lk F₂₅.ti).trans (lk_stays k₂₇))
      have hc₂₇ := F₂₇.cell 4 rfl
      refine assignInOrder_cons (wpAny_assign_Name (st_cell 4 F₂₇ rfl fun h₂₈ tk₂₈ F₂₈ hs₂₈ => ?_))
      have hc₂₈ := F₂₈.cell 3 rfl
      refine assignInOrder_cons (wpAny_assign_Name (st_cell 3 F₂₈ rfl fun h₂₉ tk₂₉ F₂₉ hs₂₉ => ?_))
      refine assignInOrder_nil ?_
      have hX₂₉ := hX₂₇.mono ((lk_cell hc₂₇ hs₂₈).trans (lk_cell hc₂₈ hs₂₉))
      have W₂₉ := W.keeps T F₂₉.kp
      obtain ⟨vr₅, hlr₅, hpr₅⟩ := hX₂₉.ro
      have hvr₅ := hpr₅.length
      refine wpAny_execs_cons ?_
      refine wpAny_If ?_
      refine wpAny_isTrue_Compare1 ?_
      refine comp_ (fun q _ y => VB y (decide (low ≤ q) && decide (q < high))) (fun _ _ _ _ _ e => e) R'.handled ?_
      refine range1 W₂₉ (by rfl) ?_
      refine r_len W₂₉ (by rfl) ?_
      refine nm_cell (F₂₉.cell 8 rfl) ?_
      refine ⟨_, _, _, _, rfl, rfl, hlr₅, by omega, fun t' tk' => ?_⟩
      refine ⟨_, _, _, _, rfl, rfl, fun r₃₀ h₃₀ tk₃₀ t₃₀ u₃₀ z₃₀ k₃₀ hr₃₀ => ?_⟩
      have F₃₀ := F₂₉.grow k₃₀
      refine ⟨_, _, _, _, rfl, F₃₀.ti, .range hr₃₀ (by decide) (by decide) (by omega) (by omega), by rw [sizeLine_eq]; omega, fun C D q v h₃₁ tk₃₁ m₃₁ E₃₁ Q' hq₃ hv hn₃₁ hm hk ht hDn hDo hCn hq' => ?_, fun D₃₁ h₃₁ tk₃₁ ys₃₁ hD₃₁ hk₃₁ T₃₁ hl₃₁ hlen₃₁ hF₃₁ => ?_⟩
      · obtain ⟨tv, rfl⟩ := hv
        rw [show (0 : Int) + (q : Int) * 1 = (q : Int) by omega] at hm
        refine Compare_chain ?_
        refine nm_cell (cell_keep F₃₀.ti hk (F₃₀.cell 4 rfl)) ?_
        refine chain_link ?_
        refine nm_local hn₃₁ ?_ hm
        refine P.le_int ?_
        refine wpAny_truthy_bool ?_
        rw [show decide ((low : Int) ≤ q) = decide (low ≤ q) from decide_eq_decide.mpr (by omega)]
        cases e1 : decide (low ≤ q) with
        | false =>
          rw [if_neg (by decide)]
          exact hq' _ _ _ (Kp.refl _) ht (by show Value.bool _ = _; rw [e1]; rfl)
        | true =>
          rw [if_pos rfl]
          refine chain_last ?_
          refine nm_cell (cell_keep F₃₀.ti hk (F₃₀.cell 3 rfl)) ?_
          refine P.lt_int ?_
          exact hq' _ _ _ (Kp.refl _) ht (by show Value.bool _ = Value.bool _; rw [e1, Bool.true_and, show decide ((q : Int) < high) = decide (q < high) from decide_eq_decide.mpr (by omega)])
      have F₃₁ := F₃₀.call hk₃₁ T₃₁
      have lk31 : Lk h₂₉ h₃₁ := (lk_stays k₃₀).trans (hk₃₁.lk F₃₀.ti)
      have hX₃₁ := hX₂₉.mono lk31
      refine comp_ (fun q _ y => ∃ o, row[q]? = some o ∧ VB y (decide (((tabsF hs).getD (row.getD i 0) []).getD o 0 ≤ j))) (fun _ _ _ _ _ e => e) R'.handled ?_
      refine nm_cell (F₃₁.cell 8 rfl) ?_
      refine ⟨_, _, _, _, rfl, F₃₁.ti, .list (lk31.isList hlr₅), by rw [sizeLine_eq]; omega, fun C D q v h₃₂ tk₃₂ m₃₂ E₃₂ Q' hq₃ hv hn₃₂ hm hk ht hDn hDo hCn hq' => ?_, fun D₃₂ h₃₂ tk₃₂ ys₃₂ hD₃₂ hk₃₂ T₃₂ hl₃₂ hlen₃₂ hF₃₂ => ?_⟩
      · obtain ⟨o, ho, to, rfl⟩ := Paired.getL hpr₅ hv
        have hon := hI.lt o (List.mem_of_getElem? ho)
        obtain ⟨r'', tr'', vs'', lw'', vl'', ly'', vy'', hri'', hrn'', ⟨vr'', hlr'', hr''⟩, _, _, _, _, ⟨vt'', hlt'', hyt''⟩, hly'', hpy''⟩ := (hX₃₁.mono (hk.lk F₃₁.ti)).ladder hi' hI.lt
        rw [hri] at hri''
        cases hri''
        have hol : o < ((tabsF hs).getD (row.getD i 0) []).length := by
          have e0 : row.getD i 0 = r := by rw [List.getD_eq_getElem?_getD, hri]; rfl
          rw [e0, List.getD_eq_getElem?_getD]
          unfold tabsF
          rw [List.getElem?_map, List.getElem?_map, List.getElem?_eq_getElem hrn]
          show o < ((hs.map labelsF).map _).length
          rw [List.length_map, List.length_map]
          exact hon
        obtain ⟨z₂, hz₂, tz₂, rfl⟩ := Paired.get hpy'' (List.getElem?_eq_getElem hol)
        have e2 : ((tabsF hs).getD (row.getD i 0) []).getD o 0 = ((tabsF hs).getD (row.getD i 0) [])[o] := by rw [List.getD_eq_getElem?_getD (i := o), List.getElem?_eq_getElem hol]; rfl
        rw [← e2] at hz₂
        obtain ⟨tz, htz⟩ : ∃ tz, tz = ((tabsF hs).getD (row.getD i 0) []).getD o 0 := ⟨_, rfl⟩
        rw [← htz] at hz₂
        refine wpAny_Compare1 ?_
        refine Subscript_ ?_
        refine Subscript_ ?_
        refine nm_cell (cell_keep F₃₁.ti hk (F₃₁.cell 7 rfl)) ?_
        refine Subscript_ ?_
        refine nm_cell (cell_keep F₃₁.ti hk (F₃₁.cell 8 rfl)) ?_
        refine nm_cell (cell_keep F₃₁.ti hk (F₃₁.cell 6 rfl)) ?_
        refine item_l hlr'' (by omega) (by omega) (x := .int r tr'') (by rw [Int.toNat_natCast]; exact hr'') ?_
        refine item_l hlt'' (by omega) (by omega) (x := .ref ly'') (by rw [Int.toNat_natCast]; exact hyt'') ?_
        refine nm_local hn₃₂ ?_ hm
        refine item_l hly'' (by omega) (by omega) (x := .int tz tz₂) (by rw [Int.toNat_natCast]; exact hz₂) ?_
        refine nm_cell (cell_keep F₃₁.ti hk (F₃₁.cell 5 rfl)) ?_
        refine P.le_int ?_
        exact hq' _ _ _ (Kp.refl _) ht ⟨o, ho, by show Value.bool _ = Value.bool _; rw [← htz, show decide ((tz : Int) ≤ j) = decide (tz ≤ j) from decide_eq_decide.mpr (by omega)]⟩
      have F₃₂ := F₃₁.call hk₃₂ T₃₂
      refine d_ne rpB.list (by decide) R' (x := (List.range row.length).map fun q => decide (low ≤ q) && decide (q < high)) (y := row.map fun o => decide (((tabsF hs).getD (row.getD i 0) []).getD o 0 ≤ j)) ⟨_, _, rfl, (hk₃₂.lk F₃₁.ti).isList hl₃₁, Paired.map_mk (by rw [hlen₃₁, List.length_range]; omega) fun q y x hy hx => ?_⟩ ⟨_, _, rfl, hl₃₂, Paired.map_mk (by rw [hlen₃₂]; omega) fun q y x hy hx => ?_⟩ (fun _ _ => trivial) (fun _ _ => trivial) ?_
      · obtain ⟨h1, h2⟩ := List.getElem?_eq_some_iff.mp hx
        rw [List.getElem_range] at h2
        subst h2
        exact hF₃₁ _ y hy
      · obtain ⟨o, e, z⟩ := hF₃₂ q y hy
        rw [hx] at e; cases e; exact z
      rw [decide_eq_true heq]
      refine wpAny_truthy_bool ?_
      refine wpAny_execs_nil ?_
      refine wpAny_execs_nil ?_
      exact ⟨_, h₃₂, _, rfl, F₃₂, _, _, _, _, rfl, hml₂, hX₃₁.mono (hk₃₂.lk F₃₁.ti)⟩
    · obtain ⟨m₂, w1, w2, w3, rfl, hml₂, hX₂₄⟩ := hJ₂
      exact wpAny_execs_nil ⟨_, h₂₄, _, rfl, F₂₄, _, _, _, _, _, rfl, hml₂, hX₂₄⟩
  · obtain ⟨m, v1, v2, v3, v4, rfl, hml, hX⟩ := hJ
    refine wpAny_execs_cons ?_
    refine wpAny_Return_some ?_
    refine wpAny_Constant_bool ?_
    exact hq _ _ F'.kp F'.ti
end
end Mine
end R31

section P1
open PySem PySem.W PyProof.Rows PySem.Calls PySem.Builtin.Str
set_option maxRecDepth 100000
namespace Mine

/-! texts as lists of signs -/
def ch (x : Str) : List Nat := x.cps.toList
theorem ch_inj {x y : Str} (h : ch x = ch y) : x = y := by
  cases x; cases y; congr; exact Array.toList_inj.mp h
theorem ch_append (x y : Str) : ch (x ++ y) = ch x ++ ch y := by
  show (x.cps ++ y.cps).toList = _
  simp [ch]
theorem ch_length (x : Str) : (ch x).length = x.length := by simp [ch, Str.length]
theorem dot_eq : Str.ofString "." = ⟨#[46]⟩ := by decide
theorem ch_dot : ch (Str.ofString ".") = [46] := by rw [dot_eq]; rfl
/-- words with dots between them -/
def inter : List (List Nat) → List Nat
  | [] => []
  | [a] => a
  | a :: b :: r => a ++ 46 :: inter (b :: r)
def Fr0 (A : List (List Nat)) : Prop := ∀ a ∈ A, 46 ∉ a
theorem inter_cons {a : List Nat} {r : List (List Nat)} (h : r ≠ []) : inter (a :: r) = a ++ 46 :: inter r := by
  cases r with
  | nil => exact absurd rfl h
  | cons b t => rfl
theorem join_eq (L : List Str) : Txt.join (Str.ofString ".") L = Str.join (Str.ofString ".") L := StrLaws.glued_eq_join _ _
theorem ch_join : ∀ L : List Str, ch (Txt.join (Str.ofString ".") L) = inter (L.map ch)
  | [] => rfl
  | [x] => by rw [join_eq]; rfl
  | x :: y :: r => by
    have ih := ch_join (y :: r)
    rw [join_eq] at ih ⊢
    show ch (x ++ Str.ofString "." ++ Str.join (Str.ofString ".") (y :: r)) = _
    rw [ch_append, ch_append, ih, ch_dot]
    simp [inter]
theorem head_split {a b : List Nat} {s t : List Nat} (ha : 46 ∉ a) (hb : 46 ∉ b) (h : a ++ 46 :: s = b ++ 46 :: t) : a = b ∧ s = t := by
  induction a generalizing b with
  | nil =>
    cases b with
    | nil => simp at h; exact ⟨rfl, h⟩
    | cons c r => simp at h; exact absurd (by rw [← h.1]; exact .head _) hb
  | cons c r ih =>
    cases b with
    | nil => simp at h; exact absurd (by rw [h.1]; exact .head _) ha
    | cons d q =>
      simp at h
      obtain ⟨h1, h2⟩ := ih (fun m => ha (.tail _ m)) (fun m => hb (.tail _ m)) h.2
      exact ⟨by rw [h.1, h1], h2⟩
theorem inter_inj : ∀ {A B : List (List Nat)}, A ≠ [] → B ≠ [] → Fr0 A → Fr0 B → inter A = inter B → A = B
  | [], _, h, _, _, _, _ => absurd rfl h
  | _, [], _, h, _, _, _ => absurd rfl h
  | [a], [b], _, _, _, _, h => by rw [show a = b from h]
  | [a], b :: c :: r, _, _, hA, _, h => by
    have h : a = b ++ 46 :: inter (c :: r) := h
    exact absurd (show 46 ∈ a by rw [h]; simp) (hA a (.head _))
  | a :: c :: r, [b], _, _, _, hB, h => by
    have h : a ++ 46 :: inter (c :: r) = b := h
    exact absurd (show 46 ∈ b by rw [← h]; simp) (hB b (.head _))
  | a :: c :: r, b :: d :: q, _, _, hA, hB, h => by
    have h : a ++ 46 :: inter (c :: r) = b ++ 46 :: inter (d :: q) := h
    obtain ⟨h1, h2⟩ := head_split (hA a (.head _)) (hB b (.head _)) h
    rw [h1, inter_inj (by simp) (by simp) (fun x hx => hA x (.tail _ hx)) (fun x hx => hB x (.tail _ hx)) h2]
theorem map_ch_inj : ∀ {A B : List Str}, A.map ch = B.map ch → A = B
  | [], [], _ => rfl
  | [], _ :: _, h => by simp at h
  | _ :: _, [], h => by simp at h
  | a :: r, b :: t, h => by
    rw [List.map_cons, List.map_cons] at h
    injection h with h1 h2
    rw [ch_inj h1, map_ch_inj h2]
theorem split_ne (x : Str) : Txt.split x (Str.ofString ".") ≠ [] := by
  unfold Txt.split
  split
  · simp
  · split
    · simp
    · intro h
      have := len_partsBetween x (occurrences x (Str.ofString ".") 0 x.length (x.length + 1)) (Str.ofString ".").length
      rw [h] at this
      simp at this
theorem split_fr (x : Str) : Fr0 ((Txt.split x (Str.ofString ".")).map ch) := by
  intro a ha
  obtain ⟨y, hy, rfl⟩ := List.mem_map.mp ha
  rw [dot_eq] at hy
  exact StrLaws.split_free x 46 y hy
theorem split_join {L : List Str} (hn : L ≠ []) (hf : Fr0 (L.map ch)) : Txt.split (Txt.join (Str.ofString ".") L) (Str.ofString ".") = L := by
  refine map_ch_inj (inter_inj (by simpa using split_ne _) (by simpa using hn) (split_fr _) hf ?_)
  rw [← ch_join, ← ch_join]
  congr 1
  rw [join_eq (Txt.split _ _)]
  exact StrLaws.join_split _ _
/-- a text starts with a dot: its parts start with nothing -/
theorem split_dot {L : List Str} (hn : L ≠ []) (hf : Fr0 (L.map ch)) : Txt.split (Str.ofString "." ++ Txt.join (Str.ofString ".") L) (Str.ofString ".") = Str.ofString "" :: L := by
  have : Str.ofString "." ++ Txt.join (Str.ofString ".") L = Txt.join (Str.ofString ".") (Str.ofString "" :: L) := by
    refine ch_inj ?_
    rw [ch_append, ch_join, ch_join, ch_dot, List.map_cons, inter_cons (by simpa using hn)]
    rfl
  rw [this]
  refine split_join (by simp) ?_
  intro a ha
  rw [List.map_cons] at ha
  rcases List.mem_cons.mp ha with rfl | ha
  · intro m; cases m
  · exact hf a ha
/-- endings -/
theorem suffix_inter : ∀ {N M : List (List Nat)}, M ≠ [] → Fr0 N → Fr0 M → ((46 :: inter M) <:+ inter N ↔ ∃ k, 1 ≤ k ∧ k < N.length ∧ N.drop k = M)
  | [], M, hM, _, _ => by
    constructor
    · intro h; have := h.length_le; simp [inter] at this
    · rintro ⟨k, h1, h2, _⟩; simp at h2
  | [a], M, hM, hN, _ => by
    constructor
    · intro h
      exact absurd (h.subset (.head _)) (hN a (.head _))
    · rintro ⟨k, h1, h2, _⟩; simp at h2; omega
  | a :: b :: r, M, hM, hN, hF => by
    have ih := suffix_inter (N := b :: r) (M := M) hM (fun x hx => hN x (.tail _ hx)) hF
    have e : inter (a :: b :: r) = a ++ 46 :: inter (b :: r) := rfl
    constructor
    · intro h
      rw [e] at h
      have h2 : (46 :: inter M) <:+ (46 :: inter (b :: r)) := by
        obtain ⟨t, ht⟩ := h
        rcases List.append_eq_append_iff.mp ht with ⟨u, h1, h2⟩ | ⟨u, h1, h2⟩
        · cases u with
          | nil => rw [h2]; exact List.suffix_refl _
          | cons c q =>
            simp at h2
            exact absurd (by rw [h1, ← h2.1]; simp) (hN a (.head _))
        · exact ⟨u, h2.symm⟩
      rcases List.suffix_cons_iff.mp h2 with h3 | h3
      · have h4 : inter M = inter (b :: r) := by simpa using h3
        have := inter_inj hM (by simp) hF (fun x hx => hN x (.tail _ hx)) h4
        exact ⟨1, by omega, by simp, by rw [this]; rfl⟩
      · obtain ⟨k, k1, k2, k3⟩ := ih.mp h3
        exact ⟨k + 1, by omega, by simp at k2 ⊢; omega, by simpa using k3⟩
    · rintro ⟨k, k1, k2, k3⟩
      rw [e]
      have : (46 :: inter M) <:+ (46 :: inter (b :: r)) := by
        by_cases hk : k = 1
        · subst hk
          rw [show M = b :: r from k3.symm]
          exact List.suffix_refl _
        · obtain ⟨j, rfl⟩ : ∃ j, k = j + 1 := ⟨k - 1, by omega⟩
          exact (ih.mpr ⟨j, by omega, by simp at k2 ⊢; omega, by simpa using k3⟩).trans (List.suffix_cons _ _)
      exact this.trans (List.suffix_append _ _)
end Mine
end P1

section P2
open PySem PySem.W PyProof.Rows PySem.Calls PySem.Builtin.Str
set_option maxRecDepth 100000
namespace Mine

/-- the labels, as they are and in small letters -/
def wds : List Str := [Str.ofString "a", Str.ofString "B", Str.ofString "local", Str.ofString "7", Str.ofString "b"]
def calmB : List Nat → Bool
  | c :: d :: r => !(Sre.isDigit c && Sre.isDigit d) && calmB (d :: r)
  | _ => true
theorem wds_ok : ∀ l ∈ wds, ch l ≠ [] ∧ 46 ∉ ch l ∧ (∀ c ∈ ch l, c < 128 ∧ c ≠ 10) ∧ calmB (ch l) = true ∧ (ch l).length ≤ 5 := by decide
theorem labs_wds : ∀ l ∈ labs, l ∈ wds := by decide
/-- labels of a host -/
structure Lb (L : List Str) : Prop where
  ne : L ≠ []
  le : L.length ≤ 4
  mem : ∀ l ∈ L, l ∈ wds
theorem Lb.fr {L : List Str} (x : Lb L) : Fr0 (L.map ch) := by
  intro a ha
  obtain ⟨l, hl, rfl⟩ := List.mem_map.mp ha
  exact (wds_ok l (x.mem l hl)).2.1
abbrev J (L : List Str) : Str := Txt.join (Str.ofString ".") L
abbrev DJ (L : List Str) : Str := Str.ofString "." ++ J L
theorem ch_DJ (L : List Str) : ch (DJ L) = 46 :: inter (L.map ch) := by rw [ch_append, ch_join, ch_dot]; rfl
theorem mem_inter : ∀ {A : List (List Nat)} {c : Nat}, c ∈ inter A → c = 46 ∨ ∃ a ∈ A, c ∈ a
  | [], c, h => by cases h
  | [a], c, h => .inr ⟨a, .head _, h⟩
  | a :: b :: r, c, h => by
    have h : c ∈ a ++ 46 :: inter (b :: r) := h
    rcases List.mem_append.mp h with h | h
    · exact .inr ⟨a, .head _, h⟩
    · rcases List.mem_cons.mp h with h | h
      · exact .inl h
      · rcases mem_inter h with h | ⟨a', ha, h⟩
        · exact .inl h
        · exact .inr ⟨a', .tail _ ha, h⟩
theorem calm_app : ∀ {a r : List Nat}, calmB a = true → calmB r = true → calmB (a ++ 46 :: r) = true
  | [], [], _, _ => rfl
  | [], d :: r, _, h => by
    show (!(Sre.isDigit 46 && Sre.isDigit d) && calmB (d :: r)) = true
    rw [h]; rfl
  | [c], r, _, h => by
    show (!(Sre.isDigit c && Sre.isDigit 46) && calmB (46 :: r)) = true
    rw [show calmB (46 :: r) = true from calm_app (a := []) rfl h]
    cases Sre.isDigit c <;> rfl
  | c :: d :: q, r, ha, h => by
    have ha : (!(Sre.isDigit c && Sre.isDigit d) && calmB (d :: q)) = true := ha
    rw [Bool.and_eq_true] at ha
    show (!(Sre.isDigit c && Sre.isDigit d) && calmB (d :: q ++ 46 :: r)) = true
    rw [ha.1, calm_app (a := d :: q) ha.2 h]; rfl
theorem calm_inter : ∀ {A : List (List Nat)}, (∀ a ∈ A, calmB a = true) → calmB (inter A) = true
  | [], _ => rfl
  | [a], h => h a (.head _)
  | a :: b :: r, h => calm_app (h a (.head _)) (calm_inter fun x hx => h x (.tail _ hx))
theorem calm_get : ∀ {l : List Nat}, calmB l = true → ∀ (i : Nat) c d, l[i]? = some c → l[i + 1]? = some d → Sre.isDigit c = true → Sre.isDigit d = false
  | [], _, i, c, d, h, _, _ => by simp at h
  | [_], _, i, c, d, _, h, _ => by simp at h
  | a :: b :: r, h, 0, c, d, hc, hd, hi => by
    simp at hc hd
    subst hc hd
    have h : (!(Sre.isDigit a && Sre.isDigit b) && calmB (b :: r)) = true := h
    rw [hi] at h
    cases hb : Sre.isDigit b with
    | false => rfl
    | true => rw [hb] at h; simp at h
  | a :: b :: r, h, i + 1, c, d, hc, hd, hi => by
    have h : (!(Sre.isDigit a && Sre.isDigit b) && calmB (b :: r)) = true := h
    rw [Bool.and_eq_true] at h
    exact calm_get h.2 i c d (by simpa using hc) (by simpa using hd) hi
theorem ok_of {x : Str} (hc : calmB (ch x) = true) (h10 : 10 ∉ ch x) (hs : (ch x).length ≤ 1000) : Ok x where
  calm i hi hd := by
    have h1 : i < x.cps.toList.length := by rw [Array.length_toList]; omega
    have h2 : i + 1 < x.cps.toList.length := by rw [Array.length_toList]; omega
    have e1 : x.cps.getD i 0 = x.cps.toList[i] := by simp [Array.getD, show i < x.cps.size by omega]
    have e2 : x.cps.getD (i + 1) 0 = x.cps.toList[i + 1] := by simp [Array.getD, hi]
    rw [e2]
    rw [e1] at hd
    exact calm_get hc i _ _ (List.getElem?_eq_getElem h1) (List.getElem?_eq_getElem h2) hd
  no10 i := by
    by_cases hi : i < x.cps.size
    · have e1 : x.cps.getD i 0 = x.cps.toList[i]'(by rw [Array.length_toList]; exact hi) := by simp [Array.getD, hi]
      rw [e1]
      exact fun q => h10 (by rw [← q]; exact List.getElem_mem _)
    · simp [Array.getD, hi]
  size := by rw [← Array.length_toList]; exact hs
theorem len_inter : ∀ (A : List (List Nat)), (∀ a ∈ A, a.length ≤ 5) → (inter A).length ≤ 6 * A.length
  | [], _ => Nat.le_refl _
  | [a], h => by have := h a (.head _); show a.length ≤ _; simp; omega
  | a :: b :: r, h => by
    have h1 := h a (.head _)
    have h2 := len_inter (b :: r) fun x hx => h x (.tail _ hx)
    show (a ++ 46 :: inter (b :: r)).length ≤ _
    simp only [List.length_append, List.length_cons] at h2 ⊢
    omega
theorem Lb.wd {L : List Str} (x : Lb L) : ∀ a ∈ L.map ch, a ≠ [] ∧ 46 ∉ a ∧ (∀ c ∈ a, c < 128 ∧ c ≠ 10) ∧ calmB a = true ∧ a.length ≤ 5 := by
  intro a ha
  obtain ⟨l, hl, rfl⟩ := List.mem_map.mp ha
  exact wds_ok l (x.mem l hl)
theorem Lb.chars {L : List Str} (x : Lb L) : ∀ c ∈ inter (L.map ch), c < 128 ∧ c ≠ 10 := by
  intro c hc
  rcases mem_inter hc with rfl | ⟨a, ha, h⟩
  · decide
  · exact (x.wd a ha).2.2.1 c h
theorem Lb.len {L : List Str} (x : Lb L) : (inter (L.map ch)).length ≤ 24 := by
  have h1 := len_inter (L.map ch) fun a ha => (x.wd a ha).2.2.2.2
  rw [List.length_map] at h1
  have := x.le
  omega
theorem Lb.calm {L : List Str} (x : Lb L) : calmB (inter (L.map ch)) = true := calm_inter fun a ha => (x.wd a ha).2.2.2.1
theorem Lb.ok {L : List Str} (x : Lb L) : Ok (J L) := ok_of (by rw [ch_join]; exact x.calm) (by rw [ch_join]; exact fun h => (x.chars _ h).2 rfl) (by rw [ch_join]; have := x.len; omega)
theorem Lb.okD {L : List Str} (x : Lb L) : Ok (DJ L) := ok_of (by rw [ch_DJ]; exact calm_app (a := []) rfl x.calm) (by
    rw [ch_DJ]
    intro h
    rcases List.mem_cons.mp h with h | h
    · cases h
    · exact (x.chars _ h).2 rfl) (by rw [ch_DJ]; have := x.len; simp; omega)
/-! small and great letters -/
theorem ch_lower {x : Str} (h : ∀ c ∈ ch x, c < 128) : ch (Txt.lower x) = (ch x).map lo1 := by
  rw [lower_ascii h]
  show (x.cps.map lo1).toList = _
  simp [ch]
theorem ch_upper {x : Str} (h : ∀ c ∈ ch x, c < 128) : ch (Txt.upper x) = (ch x).map up1 := by
  rw [upper_ascii h]
  show (x.cps.map up1).toList = _
  simp [ch]
theorem inter_map (f : Nat → Nat) (hf : f 46 = 46) : ∀ A : List (List Nat), inter (A.map (List.map f)) = (inter A).map f
  | [] => rfl
  | [a] => rfl
  | a :: b :: r => by
    have ih := inter_map f hf (b :: r)
    show a.map f ++ 46 :: inter ((b :: r).map (List.map f)) = (a ++ 46 :: inter (b :: r)).map f
    rw [ih, List.map_append, List.map_cons, hf]
theorem lo_up (c : Nat) (_h : c < 128) : lo1 (up1 c) = lo1 c := by
  unfold lo1 up1
  by_cases h1 : 97 ≤ c ∧ c ≤ 122
  · rw [if_pos h1, if_pos (by omega), if_neg (by omega)]; omega
  · rw [if_neg h1]
theorem up_lt (c : Nat) (h : c < 128) : up1 c < 128 := by unfold up1; split <;> omega
def lw (L : List Str) : List Str := L.map Txt.lower
theorem lower_wds : ∀ l ∈ wds, Txt.lower l ∈ wds := by decide +kernel
theorem lw_lb {L : List Str} (x : Lb L) : Lb (lw L) where
  ne := by unfold lw; simpa using x.ne
  le := by unfold lw; rw [List.length_map]; exact x.le
  mem l hl := by
    obtain ⟨y, hy, rfl⟩ := List.mem_map.mp hl
    exact lower_wds y (x.mem y hy)
theorem lw_ch {L : List Str} (x : Lb L) : (lw L).map ch = (L.map ch).map (List.map lo1) := by
  unfold lw
  rw [List.map_map, List.map_map]
  refine List.map_congr_left fun l hl => ?_
  exact ch_lower fun c hc => ((wds_ok l (x.mem l hl)).2.2.1 c hc).1
theorem lower_J {L : List Str} (x : Lb L) : Txt.lower (J L) = J (lw L) := by
  refine ch_inj ?_
  rw [ch_lower (by rw [ch_join]; exact fun c hc => (x.chars c hc).1), ch_join, ch_join, lw_ch x, inter_map lo1 (by decide)]
theorem lower_DJ {L : List Str} (x : Lb L) : Txt.lower (DJ L) = DJ (lw L) := by
  refine ch_inj ?_
  rw [ch_lower (by
    rw [ch_DJ]
    intro c hc
    rcases List.mem_cons.mp hc with rfl | hc
    · decide
    · exact (x.chars c hc).1), ch_DJ, ch_DJ, lw_ch x, inter_map lo1 (by decide)]
  rfl
theorem lower_upper_J {L : List Str} (x : Lb L) : Txt.lower (Txt.upper (J L)) = J (lw L) := by
  have h1 : ∀ c ∈ ch (J L), c < 128 := by rw [ch_join]; exact fun c hc => (x.chars c hc).1
  have h2 : ch (Txt.upper (J L)) = (ch (J L)).map up1 := ch_upper h1
  rw [← lower_J x]
  refine ch_inj ?_
  rw [ch_lower (by rw [h2]; intro c hc; obtain ⟨d, hd, rfl⟩ := List.mem_map.mp hc; exact up_lt d (h1 d hd)), h2, ch_lower h1, List.map_map]
  exact List.map_congr_left fun c hc => lo_up c (h1 c hc)
/-- the labels from the last on, in small letters -/
def rv (L : List Str) : List Str := (lw L).reverse
theorem labels_J {L : List Str} (x : Lb L) : labelsF (J L) = rv L := by
  unfold labelsF rv
  rw [lower_J x]
  exact congrArg _ (split_join (lw_lb x).ne (lw_lb x).fr)
theorem labels_DJ {L : List Str} (x : Lb L) : labelsF (DJ L) = rv L ++ [Str.ofString ""] := by
  unfold labelsF rv
  rw [lower_DJ x]
  show (Txt.split (DJ (lw L)) (Str.ofString ".")).reverse = _
  rw [split_dot (lw_lb x).ne (lw_lb x).fr, List.reverse_cons]
end Mine
end P2

section P3
open PySem PySem.W PyProof.Rows PySem.Calls PySem.Builtin.Str
set_option maxRecDepth 100000
namespace Mine

/-! the order of lists of texts -/
theorem ltS_irrefl (x : Str) : ltS x x = false := by unfold ltS; exact decide_eq_false (List.lt_irrefl _)
theorem ltS_trans {x y z : Str} (h1 : ltS x y = true) (h2 : ltS y z = true) : ltS x z = true := by
  unfold ltS at *
  exact decide_eq_true (List.lt_trans (of_decide_eq_true h1) (of_decide_eq_true h2))
theorem ltS_asymm {x y : Str} (h1 : ltS x y = true) : ltS y x = false := by
  cases h2 : ltS y x with
  | false => rfl
  | true => have := ltS_trans h1 h2; rw [ltS_irrefl] at this; cases this
theorem ltS_total {x y : Str} (h : x ≠ y) : ltS x y = true ∨ ltS y x = true := by
  unfold ltS
  by_cases h1 : x.cps.toList < y.cps.toList
  · exact .inl (decide_eq_true h1)
  · by_cases h2 : y.cps.toList < x.cps.toList
    · exact .inr (decide_eq_true h2)
    · exact absurd (ch_inj (List.le_antisymm (List.not_lt.mp h2) (List.not_lt.mp h1))) h
theorem ltL_irrefl : ∀ K : List Str, ltL K K = false
  | [] => rfl
  | x :: r => by rw [ltL, if_pos (by simp)]; exact ltL_irrefl r
theorem ltL_cons {x y : Str} {r t : List Str} : ltL (x :: r) (y :: t) = true ↔ (x = y ∧ ltL r t = true) ∨ ltS x y = true := by
  rw [ltL]
  by_cases h : x = y
  · subst h
    rw [if_pos (by simp), ltS_irrefl]; simp
  · rw [if_neg (by simpa using h)]; simp [h]
theorem ltL_trans : ∀ {A B C : List Str}, ltL A B = true → ltL B C = true → ltL A C = true
  | [], [], _, h, _ => by cases h
  | [], _ :: _, [], _, h => by cases h
  | [], _ :: _, _ :: _, _, _ => rfl
  | _ :: _, [], _, h, _ => by cases h
  | _ :: _, _ :: _, [], _, h => by cases h
  | a :: r, b :: s, c :: t, h1, h2 => by
    rw [ltL_cons] at h1 h2 ⊢
    rcases h1 with ⟨rfl, h1⟩ | h1
    · rcases h2 with ⟨rfl, h2⟩ | h2
      · exact .inl ⟨rfl, ltL_trans h1 h2⟩
      · exact .inr h2
    · rcases h2 with ⟨rfl, h2⟩ | h2
      · exact .inr h1
      · exact .inr (ltS_trans h1 h2)
theorem ltL_asymm {A B : List Str} (h : ltL A B = true) : ltL B A = false := by
  cases h2 : ltL B A with
  | false => rfl
  | true => have := ltL_trans h h2; rw [ltL_irrefl] at this; cases this
theorem ltL_total : ∀ {A B : List Str}, A ≠ B → ltL A B = true ∨ ltL B A = true
  | [], [], h => absurd rfl h
  | [], _ :: _, _ => .inl rfl
  | _ :: _, [], _ => .inr rfl
  | a :: r, b :: t, h => by
    rw [ltL_cons, ltL_cons]
    by_cases e : a = b
    · subst e
      rcases ltL_total (A := r) (B := t) (fun q => h (by rw [q])) with h | h
      · exact .inl (.inl ⟨rfl, h⟩)
      · exact .inr (.inl ⟨rfl, h⟩)
    · rcases ltS_total e with h | h
      · exact .inl (.inr h)
      · exact .inr (.inr h)
def leL (A B : List Str) : Prop := A = B ∨ ltL A B = true
theorem leL_cons {x y : Str} {r t : List Str} (h : leL (x :: r) (y :: t)) : (x = y ∧ leL r t) ∨ ltS x y = true := by
  rcases h with h | h
  · cases h; exact .inl ⟨rfl, .inl rfl⟩
  · rcases ltL_cons.mp h with ⟨rfl, h2⟩ | h2
    · exact .inl ⟨rfl, .inr h2⟩
    · exact .inr h2
theorem leL_nil {A : List Str} (h : leL A []) : A = [] := by
  rcases h with h | h
  · exact h
  · cases A <;> cases h
theorem leL_trans {A B C : List Str} (h1 : leL A B) (h2 : leL B C) : leL A C := by
  rcases h1 with rfl | h1
  · exact h2
  · rcases h2 with rfl | h2
    · exact .inr h1
    · exact .inr (ltL_trans h1 h2)

/-- how far two go together -/
def lv : List Str → List Str → Nat
  | x :: xs, y :: ys => if x = y then (if xs = [] then (if ys = [] then 1 else 0) else if ys = [] then 0 else 1 + lv xs ys) else 0
  | _, _ => 0
theorem lv_symm : ∀ A B : List Str, lv A B = lv B A
  | [], [] => rfl
  | [], _ :: _ => rfl
  | _ :: _, [] => rfl
  | x :: xs, y :: ys => by
    rw [lv, lv]
    by_cases h : x = y
    · rw [if_pos h, if_pos h.symm]
      by_cases h1 : xs = [] <;> by_cases h2 : ys = [] <;> simp [h1, h2, lv_symm xs ys]
    · rw [if_neg h, if_neg (Ne.symm h)]
theorem lv_self : ∀ A : List Str, lv A A = A.length
  | [] => rfl
  | x :: xs => by
    rw [lv, if_pos rfl]
    by_cases h : xs = []
    · simp [h]
    · rw [if_neg h, if_neg h, lv_self xs, List.length_cons, Nat.add_comm]
theorem lv_le : ∀ A B : List Str, lv A B ≤ A.length
  | [], _ => by cases ‹List Str› <;> exact Nat.le_refl _
  | _ :: _, [] => Nat.zero_le _
  | x :: xs, y :: ys => by
    rw [lv, List.length_cons]
    have := lv_le xs ys
    repeat' split
    all_goals omega
theorem lv_lt : ∀ {A B : List Str}, A ≠ B → A ≠ [] → lv A B < A.length
  | [], _, _, h => absurd rfl h
  | _ :: _, [], _, _ => Nat.zero_lt_succ _
  | x :: xs, y :: ys, h, _ => by
    rw [lv, List.length_cons]
    by_cases e : x = y
    · rw [if_pos e]
      by_cases h1 : xs = []
      · rw [if_pos h1]
        by_cases h2 : ys = []
        · exact absurd (by rw [e, h1, h2]) h
        · rw [if_neg h2]; omega
      · rw [if_neg h1]
        by_cases h2 : ys = []
        · rw [if_pos h2]; omega
        · rw [if_neg h2]
          have := lv_lt (A := xs) (B := ys) (fun q => h (by rw [e, q])) h1
          omega
    · rw [if_neg e]; omega
/-- what lies between goes along -/
theorem lv_mid : ∀ {A B C : List Str}, leL A B → leL B C → lv A C = min (lv A B) (lv B C)
  | [], B, C, _, _ => by
    have h1 : ∀ C, lv [] C = 0 := fun C => by cases C <;> rfl
    rw [h1, h1]; omega
  | _ :: _, [], _, h, _ => by cases leL_nil h
  | _ :: _, _ :: _, [], _, h => by cases leL_nil h
  | x :: xs, y :: ys, z :: zs, h1, h2 => by
    rcases leL_cons h1 with ⟨rfl, t1⟩ | h1
    · rcases leL_cons h2 with ⟨rfl, t2⟩ | h2
      · rw [lv, lv, lv, if_pos rfl, if_pos rfl, if_pos rfl]
        have ih := lv_mid t1 t2
        by_cases e3 : zs = []
        · subst e3
          have e2 := leL_nil t2
          subst e2
          have e1 := leL_nil t1
          subst e1
          rfl
        · by_cases e1 : xs = []
          · rw [if_pos e1, if_neg e3]
            by_cases e2 : ys = []
            · simp [e1, e2, e3]
            · simp [e1, e2, e3]
          · have e2 : ys ≠ [] := by rintro rfl; exact e1 (leL_nil t1)
            simp only [e1, e2, e3, if_false]
            omega
      · have hne : x ≠ z := by rintro rfl; rw [ltS_irrefl] at h2; cases h2
        rw [lv, if_neg hne, lv, lv, if_neg hne]; omega
    · have hxy : x ≠ y := by rintro rfl; rw [ltS_irrefl] at h1; cases h1
      have hne : x ≠ z := by
        rintro rfl
        rcases leL_cons h2 with ⟨rfl, _⟩ | h2
        · rw [ltS_irrefl] at h1; cases h1
        · rw [ltS_asymm h1] at h2; cases h2
      rw [lv, if_neg hne, lv, if_neg hxy]; omega
/-- to start alike, and to go on -/
theorem lv_take : ∀ {A B : List Str} {l : Nat}, 1 ≤ l → l < A.length → (l ≤ lv A B ↔ l + 1 ≤ B.length ∧ B.take l = A.take l)
  | [], _, _, _, h => by simp at h
  | _ :: _, [], l, h1, _ => by
    constructor
    · intro h; have : l ≤ 0 := h; omega
    · rintro ⟨h, _⟩; simp at h
  | x :: xs, y :: ys, l, h1, h2 => by
    rw [lv]
    obtain ⟨j, rfl⟩ : ∃ j, l = j + 1 := ⟨l - 1, by omega⟩
    have hx : xs ≠ [] := by rintro rfl; simp at h2
    rw [List.take_succ_cons, List.take_succ_cons, List.length_cons]
    by_cases e : x = y
    · rw [if_pos e, if_neg hx]
      by_cases h3 : ys = []
      · subst h3; simp
      · rw [if_neg h3]
        by_cases hj : j = 0
        · subst hj
          have : 1 ≤ ys.length := by cases ys with | nil => exact absurd rfl h3 | cons _ _ => simp
          simp [e]; omega
        · have ih := lv_take (A := xs) (B := ys) (l := j) (by omega) (by simp at h2; omega)
          constructor
          · intro h
            obtain ⟨g1, g2⟩ := ih.mp (by omega)
            exact ⟨by omega, by rw [g2, e]⟩
          · rintro ⟨g1, g2⟩
            have g3 : ys.take j = xs.take j := by injection g2
            have := ih.mpr ⟨by omega, g3⟩
            omega
    · rw [if_neg e]
      constructor
      · intro h; omega
      · rintro ⟨_, h⟩
        injection h with h3 h4
        exact absurd h3.symm e
end Mine
end P3

section P4
open PySem PySem.W PyProof.Rows PySem.Calls PySem.Builtin.Str
set_option maxRecDepth 100000
namespace Mine

theorem at_dot (x : Str) (i : Nat) : StrLaws.At x ⟨#[46]⟩ x.length i ↔ (ch x)[i]? = some 46 := StrLaws.subAt_one x 46 i
theorem find_first {x : Str} {a t : List Nat} (h : ch x = a ++ 46 :: t) (ha : 46 ∉ a) : Txt.find x (Str.ofString ".") = (a.length : Int) := by
  rw [dot_eq]
  rcases find_whole x ⟨#[46]⟩ with ⟨_, hn⟩ | ⟨i, e, h1, h2⟩
  · exact absurd ((at_dot x a.length).mpr (by rw [h]; simp)) (hn a.length)
  · rw [e]
    rw [at_dot, h] at h1
    have h3 : ¬ a.length < i := fun q => h2 _ q ((at_dot x a.length).mpr (by rw [h]; simp))
    have h4 : ¬ i < a.length := fun q => by
      rw [List.getElem?_append_left q] at h1
      exact ha (List.mem_of_getElem? h1)
    have : i = a.length := by omega
    rw [this]
theorem find_none {x : Str} (h : 46 ∉ ch x) : Txt.find x (Str.ofString ".") = -1 := by
  rw [dot_eq]
  rcases find_whole x ⟨#[46]⟩ with ⟨e, _⟩ | ⟨i, _, h1, _⟩
  · exact e
  · rw [at_dot] at h1
    exact absurd (List.mem_of_getElem? h1) h
theorem ch_slice {x : Str} {i : Nat} (h : i ≤ (ch x).length) : ch (Txt.slice x (some (i : Int)) none) = (ch x).drop i := by
  rw [ch_length] at h
  rw [slice_from_eq (x := x) (i := (i : Int)) (b := (x.length : Int)) (by omega) (by omega) rfl]
  show (((ch x).drop (i : Int).toNat).take ((x.length : Int) - i).toNat) = _
  rw [Int.toNat_natCast, List.take_of_length_le]
  rw [List.length_drop, ch_length]
  omega
theorem size_ch (x : Str) : x.cps.size = (ch x).length := by simp [ch]
theorem getD_ch (x : Str) (i : Nat) : x.cps.getD i 0 = (ch x).getD i 0 := by
  simp [ch, Array.getD_eq_getD_getElem?, List.getD_eq_getElem?_getD]
theorem ipv_true {x : Str} {p : List Nat} (h : ch x = p ++ [46, 55]) : ipv x.cps = true := by
  unfold ipv hit
  have hs : x.cps.size = p.length + 2 := by rw [size_ch, h]; simp
  rw [hs, getD_ch, getD_ch, h]
  have e1 : p.length + 2 - 2 = p.length := by omega
  rw [e1, List.getD_eq_getElem?_getD, List.getD_eq_getElem?_getD]
  have e2 : (p ++ [46, 55])[p.length]? = some 46 := by simp
  have e3 : (p ++ [46, 55])[p.length + 1]? = some 55 := by simp
  rw [e2, e3]
  simp
  decide
theorem ipv_false {x : Str} {p : List Nat} {c : Nat} (h : ch x = p ++ [c]) (hc : Sre.isDigit c = false) : ipv x.cps = false := by
  unfold ipv hit
  have hs : x.cps.size = p.length + 1 := by rw [size_ch, h]; simp
  rw [hs]
  by_cases h2 : 2 ≤ p.length + 1
  · have e1 : p.length + 1 - 2 + 1 = p.length := by omega
    rw [e1, getD_ch x p.length, h, List.getD_eq_getElem?_getD]
    have e2 : (p ++ [c])[p.length]? = some c := by simp
    rw [e2, Option.getD_some, hc]
    simp
  · rw [decide_eq_false h2]; rfl
theorem item_0 {x : Str} {c : Nat} {t : List Nat} (h : ch x = c :: t) : (Txt.item x 0).cps.toList = [c] := by
  have hl : x.length = t.length + 1 := by rw [← ch_length, h]; rfl
  show [(Txt.charAt x 0).getD 0] = [c]
  have e : Txt.charAt x 0 = some c := by
    unfold Txt.charAt seqIndex?
    rw [hl]
    simp
    have : x.cps[0]? = (ch x)[0]? := by simp [ch]
    rw [this, h]; rfl
  rw [e]; rfl
theorem item_last {x : Str} {c : Nat} {t : List Nat} (h : ch x = t ++ [c]) : (Txt.item x (-1)).cps.toList = [c] := by
  have hl : x.length = t.length + 1 := by rw [← ch_length, h]; simp
  show [(Txt.charAt x (-1)).getD 0] = [c]
  have e : Txt.charAt x (-1) = some c := by
    unfold Txt.charAt
    have : seqIndex? (-1) x.length = some t.length := by
      unfold seqIndex?
      rw [hl]
      simp
      omega
    rw [this]
    show x.cps[t.length]? = some c
    have : x.cps[t.length]? = (ch x)[t.length]? := by simp [ch]
    rw [this, h]; simp
  rw [e]; rfl
theorem hdn_of {x : Str} {c d : Nat} {t s : List Nat} (h1 : ch x = c :: t) (h2 : ch x = s ++ [d]) (hc : c ≠ 46) (hd : d ≠ 46) : hdn x = !ipv x.cps := by
  unfold hdn
  rw [item_0 h1, item_last h2]
  have e1 : (x.cps.toList == []) = false := by
    show (ch x == []) = false
    rw [h1]; rfl
  have e2 : ([c] == dot) = false := by simp [dot, hc]
  have e3 : ([d] == dot) = false := by simp [dot, hd]
  rw [e1, e2, e3]; simp
end Mine
end P4

section P5
open PySem PySem.W PyProof.Rows PySem.Calls PySem.Builtin.Str
set_option maxRecDepth 100000
namespace Mine

abbrev s7 : Str := Str.ofString "7"
abbrev sLocal : Str := Str.ofString "local"
theorem wds_first : ∀ l ∈ wds, ch l = (ch l).headD 0 :: (ch l).tail ∧ (ch l).headD 0 ≠ 46 := by decide
theorem wds_last : ∀ l ∈ wds, ch l = (ch l).dropLast ++ [(ch l).getLastD 0] ∧ (ch l).getLastD 0 ≠ 46 ∧ (l = s7 ∨ Sre.isDigit ((ch l).getLastD 0) = false) := by decide
theorem inter_snoc : ∀ (B : List (List Nat)) (z : List Nat), B ≠ [] → inter (B ++ [z]) = inter B ++ 46 :: z
  | [], _, h => absurd rfl h
  | [a], z, _ => rfl
  | a :: b :: r, z, _ => by
    have ih := inter_snoc (b :: r) z (by simp)
    show a ++ 46 :: inter ((b :: r) ++ [z]) = (a ++ 46 :: inter (b :: r)) ++ 46 :: z
    rw [ih]; simp
theorem Lb.tail {l : Str} {r : List Str} (x : Lb (l :: r)) (h : r ≠ []) : Lb r := ⟨h, by have := x.le; simp at this; omega, fun a ha => x.mem a (.tail _ ha)⟩
/-- the first sign -/
theorem J_first {L : List Str} (x : Lb L) : ∃ c t, ch (J L) = c :: t ∧ c ≠ 46 := by
  cases L with
  | nil => exact absurd rfl x.ne
  | cons l r =>
    obtain ⟨h1, h2⟩ := wds_first l (x.mem l (.head _))
    rw [ch_join, List.map_cons]
    cases r with
    | nil => exact ⟨_, _, h1, h2⟩
    | cons b t =>
      rw [inter_cons (by simp), h1]
      exact ⟨_, _, rfl, h2⟩
/-- the last sign -/
theorem J_last {L : List Str} (x : Lb L) : ∃ s d, ch (J L) = s ++ [d] ∧ d ≠ 46 ∧ (L.getLastD "" = s7 ∨ Sre.isDigit d = false) := by
  obtain ⟨B, z, rfl⟩ : ∃ B z, L = B ++ [z] := ⟨L.dropLast, L.getLast x.ne, (List.dropLast_concat_getLast x.ne).symm⟩
  obtain ⟨h1, h2, h3⟩ := wds_last z (x.mem z (by simp))
  have e : (B ++ [z]).getLastD "" = z := by simp
  rw [e, ch_join, List.map_append]
  by_cases hB : B = []
  · subst hB
    exact ⟨_, _, h1, h2, h3⟩
  · refine ⟨inter (B.map ch) ++ 46 :: (ch z).dropLast, _, ?_, h2, h3⟩
    show inter (B.map ch ++ [ch z]) = _
    rw [inter_snoc _ _ (by simpa using hB)]
    have h4 : inter (B.map ch) ++ 46 :: ch z = inter (B.map ch) ++ 46 :: ((ch z).dropLast ++ [(ch z).getLastD 0]) := by rw [← h1]
    rw [h4]; simp
theorem ipv_J {L : List Str} (x : Lb L) (h2 : 2 ≤ L.length) : ipv (J L).cps = (L.getLastD "" == s7) := by
  cases h : L.getLastD "" == s7 with
  | false =>
    obtain ⟨s, d, h1, _, h3⟩ := J_last x
    rcases h3 with h3 | h3
    · rw [h3] at h; simp at h
    · exact ipv_false h1 h3
  | true =>
    have hl := eq_of_beq h
    obtain ⟨B, z, rfl⟩ : ∃ B z, L = B ++ [z] := ⟨L.dropLast, L.getLast x.ne, (List.dropLast_concat_getLast x.ne).symm⟩
    have e : (B ++ [z]).getLastD "" = z := by simp
    rw [e] at hl
    have hB : B ≠ [] := by rintro rfl; simp at h2
    refine ipv_true (p := inter (B.map ch)) ?_
    rw [ch_join, List.map_append]
    show inter (B.map ch ++ [ch z]) = _
    rw [inter_snoc _ _ (by simpa using hB), hl]
    rfl
theorem ipv_no {L : List Str} (x : Lb L) (h : L.getLastD "" ≠ s7) : ipv (J L).cps = false := by
  obtain ⟨s, d, h1, _, h3⟩ := J_last x
  rcases h3 with h3 | h3
  · exact absurd h3 h
  · exact ipv_false h1 h3
theorem ipv_noD {L : List Str} (x : Lb L) (h : L.getLastD "" ≠ s7) : ipv (DJ L).cps = false := by
  obtain ⟨s, d, h1, _, h3⟩ := J_last x
  rcases h3 with h3 | h3
  · exact absurd h3 h
  · refine ipv_false (p := 46 :: s) (c := d) ?_ h3
    rw [ch_DJ, ← ch_join, h1]; rfl
theorem hdn_J {L : List Str} (x : Lb L) : hdn (J L) = !ipv (J L).cps := by
  obtain ⟨c, t, h1, hc⟩ := J_first x
  obtain ⟨s, d, h2, hd, _⟩ := J_last x
  exact hdn_of h1 h2 hc hd
theorem J_ne_DJ {L M : List Str} (x : Lb L) : J L ≠ DJ M := by
  intro h
  obtain ⟨c, t, h1, hc⟩ := J_first x
  have := congrArg ch h
  rw [h1, ch_DJ] at this
  injection this with h3
  exact hc h3
theorem J_inj {L M : List Str} (x : Lb L) (y : Lb M) (h : J L = J M) : L = M :=
  map_ch_inj (inter_inj (by simpa using x.ne) (by simpa using y.ne) x.fr y.fr (by rw [← ch_join, ← ch_join]; exact congrArg ch h))
theorem slice_DJ {L : List Str} : Txt.slice (DJ L) (some 1) none = J L := by
  refine ch_inj ?_
  have := ch_slice (x := DJ L) (i := 1) (by rw [ch_DJ]; simp)
  rw [show (1 : Int) = ((1 : Nat) : Int) from rfl, this, ch_DJ, ch_join]
  rfl
/-- may a host go one up -/
def goes (l : Str) (r : List Str) : Bool := !(decide (r = [])) && !((l :: r).getLastD "" == s7) && (decide (2 ≤ r.length) || decide (r = [sLocal]))
theorem find_J {L : List Str} (x : Lb L) : decide (0 ≤ Txt.find (J L) (Str.ofString ".")) = decide (2 ≤ L.length) := by
  cases L with
  | nil => exact absurd rfl x.ne
  | cons l r =>
    have hl := (wds_ok l (x.mem l (.head _))).2.1
    by_cases hr : r = []
    · subst hr
      rw [find_none (x := J [l]) (by rw [ch_join]; exact hl)]
      rfl
    · rw [find_first (x := J (l :: r)) (a := ch l) (t := inter (r.map ch)) (by rw [ch_join, List.map_cons, inter_cons (by simpa using hr)]) hl]
      have : 1 ≤ r.length := by cases r with | nil => exact absurd rfl hr | cons _ _ => simp
      rw [decide_eq_true (by omega), decide_eq_true (by simp; omega)]
theorem reach_J {l : Str} {r : List Str} (x : Lb (l :: r)) : reachF (J (l :: r)) = if goes l r = true then DJ r else J (l :: r) := by
  have hl := (wds_ok l (x.mem l (.head _))).2.1
  unfold reachF
  by_cases hr : r = []
  · subst hr
    have : ¬ 0 ≤ Txt.find (J [l]) (Str.ofString ".") := by rw [find_none (x := J [l]) (by rw [ch_join]; exact hl)]; decide
    rw [if_neg this, if_neg (by simp [goes])]
  · have xr := x.tail hr
    have e0 : ch (J (l :: r)) = ch l ++ 46 :: inter (r.map ch) := by rw [ch_join, List.map_cons, inter_cons (by simpa using hr)]
    have ef := find_first e0 hl
    have h1 : 1 ≤ r.length := by cases r with | nil => exact absurd rfl hr | cons _ _ => simp
    rw [if_pos (by rw [ef]; omega)]
    have es : Txt.slice (J (l :: r)) (some (Txt.find (J (l :: r)) (Str.ofString ".") + 1)) none = J r := by
      refine ch_inj ?_
      rw [ef, show ((ch l).length : Int) + 1 = (((ch l).length + 1 : Nat) : Int) by omega, ch_slice (by rw [e0]; simp), e0, ch_join]
      simp [List.drop_append]
    dsimp only
    rw [es, hdn_J x, ipv_J x (by simp; omega), find_J xr]
    have eb : ((J r).cps.toList == (Str.ofString "local").cps.toList) = decide (r = [sLocal]) := by
      by_cases hL : r = [sLocal]
      · rw [decide_eq_true hL, hL]
        have : J [sLocal] = sLocal := by refine ch_inj ?_; rw [ch_join]; rfl
        rw [this]; decide
      · rw [decide_eq_false hL, beq_eq_false_iff_ne]
        intro q
        apply hL
        have h2 : J r = J [sLocal] := by
          have : J [sLocal] = sLocal := by refine ch_inj ?_; rw [ch_join]; rfl
          rw [this]; exact ch_inj q
        exact J_inj xr ⟨by simp, by simp, by decide⟩ h2
    rw [eb]
    have eg : goes l r = (!((l :: r).getLastD "" == s7) && (decide (2 ≤ r.length) || decide (r = [sLocal]))) := by unfold goes; rw [decide_eq_false hr]; rfl
    rw [eg]
end Mine
end P5

section P6
open PySem PySem.W PyProof.Rows PySem.Calls PySem.Builtin.Str
set_option maxRecDepth 100000
namespace Mine

/-- the dotted rungs -/
def ups : List Str → List Str
  | [] => []
  | l :: r => if goes l r = true then DJ r :: ups r else []
theorem goes_ne {l : Str} {r : List Str} (h : goes l r = true) : r ≠ [] := by
  rintro rfl
  simp [goes] at h
theorem climb_J : ∀ (n : Nat) (L : List Str), Lb L → L.length ≤ n → climb n (J L) = ups L
  | 0, L, x, h => absurd (List.length_eq_zero_iff.mp (by omega)) x.ne
  | n + 1, [], x, _ => absurd rfl x.ne
  | n + 1, l :: r, x, h => by
    rw [climb, reach_J x, ups]
    cases hg : goes l r with
    | false => simp
    | true =>
      have hr := goes_ne hg
      rw [if_pos rfl, if_pos rfl, if_neg (by simpa using (J_ne_DJ x (M := r)).symm), slice_DJ, climb_J n r (x.tail hr) (by simp at h; omega)]
theorem okC_J : ∀ (n : Nat) (L : List Str), Lb L → OkC n (J L)
  | 0, _, _ => trivial
  | n + 1, [], x => absurd rfl x.ne
  | n + 1, l :: r, x => by
    refine ⟨x.ok, ?_, fun h => ?_⟩
    · rw [reach_J x]
      split
      · rename_i hg
        rw [← ch_length, ch_DJ]
        have := (x.tail (goes_ne hg)).len
        simp; omega
      · rw [← ch_length, ch_join]
        have := x.len
        omega
    · rw [reach_J x] at h ⊢
      cases hg : goes l r with
      | false => rw [hg] at h; simp at h
      | true =>
        rw [if_pos rfl, slice_DJ]
        exact okC_J n r (x.tail (goes_ne hg))
theorem split_J {L : List Str} (x : Lb L) : Txt.split (J L) (Str.ofString ".") = L := split_join x.ne x.fr
theorem count_J {L : List Str} (x : Lb L) : (L.length : Int) ≤ Txt.count (J L) (Str.ofString ".") + 1 := by
  have h := split_J x
  unfold Txt.split at h
  unfold Txt.count
  split at h
  · rw [← h]; simp; omega
  · split at h
    · rw [← h]; simp; omega
    · have := len_partsBetween (J L) (occurrences (J L) (Str.ofString ".") 0 (J L).length ((J L).length + 1)) (Str.ofString ".").length
      rw [h] at this
      rw [this]; simp
theorem ladder_J {L : List Str} (x : Lb L) : ladderF (J L) = J L :: ups L := by
  unfold ladderF
  rw [climb_J _ L x]
  have := count_J x
  unfold ladderN
  omega
theorem ups_eq : ∀ {L : List Str}, L ≠ [] → ups L = if (decide (1 < L.length) && (L.getLastD "" == s7)) = true then [] else (List.range (L.length - (if (L.getLastD "" == sLocal) = true then 1 else 2))).map fun i => DJ (L.drop (1 + i))
  | [], h => absurd rfl h
  | [l], _ => by
    rw [ups]
    have e : goes l [] = false := by simp [goes]
    rw [e]
    have : ([l] : List Str).length - (if (([l] : List Str).getLastD "" == sLocal) = true then 1 else 2) = 0 := by
      show 1 - _ = 0
      split <;> omega
    rw [this]
    simp
  | l :: b :: r, _ => by
    have ih := ups_eq (L := b :: r) (by simp)
    have el : (l :: b :: r).getLastD "" = (b :: r).getLastD "" := by simp [List.getLastD_cons]
    have el2 : (b :: r : List Str).getLastD "" = (b :: r).getLastD "" := rfl
    rw [ups]
    have hg : goes l (b :: r) = (!((b :: r).getLastD "" == s7) && (decide (2 ≤ (b :: r).length) || decide (b :: r = [sLocal]))) := by
      unfold goes; rw [el]; simp
    rw [hg, el]
    cases h7 : (b :: r).getLastD "" == s7 with
    | true => simp
    | false =>
      rw [h7] at ih
      simp only [Bool.and_false, Bool.false_eq_true, if_false] at ih
      simp only [Bool.not_false, Bool.true_and, Bool.and_false, Bool.false_eq_true, if_false]
      by_cases hr : r = []
      · subst hr
        by_cases hb : b = sLocal
        · subst hb
          rw [ih]
          simp
        · have e1 : ([b].getLastD "" == sLocal) = false := by simpa using hb
          rw [e1]
          simp [hb]
      · have h2 : 2 ≤ (b :: r).length := by cases r with | nil => exact absurd rfl hr | cons _ _ => simp
        rw [decide_eq_true h2]
        simp only [Bool.true_or, if_true]
        rw [ih]
        have e3 : (l :: b :: r).length - (if ((b :: r).getLastD "" == sLocal) = true then 1 else 2) = ((b :: r).length - (if ((b :: r).getLastD "" == sLocal) = true then 1 else 2)) + 1 := by
          simp only [List.length_cons] at h2 ⊢
          split <;> omega
        rw [e3, List.range_succ_eq_map, List.map_cons, List.map_map]
        refine congrArg (List.cons (DJ (b :: r))) (List.map_congr_left fun i _ => ?_)
        show DJ ((b :: r).drop (1 + i)) = DJ ((l :: b :: r).drop (1 + (i + 1)))
        rw [show 1 + (i + 1) = (1 + i) + 1 by omega, List.drop_succ_cons]
theorem rungs_J {L : List Str} (x : Lb L) : rungsF (J L) L = J L :: ups L := by
  unfold rungsF
  rw [ups_eq x.ne]
  split
  · rfl
  · rfl
/-- what a dotted rung is -/
theorem ups_mem : ∀ {L : List Str}, Lb L → ∀ r ∈ ups L, ∃ M, r = DJ M ∧ Lb M ∧ M.getLastD "" ≠ s7
  | [], x, _, _ => absurd rfl x.ne
  | l :: t, x, r, h => by
    rw [ups] at h
    cases hg : goes l t with
    | false => rw [hg] at h; cases h
    | true =>
      rw [hg, if_pos rfl] at h
      have ht := goes_ne hg
      rcases List.mem_cons.mp h with rfl | h
      · refine ⟨t, rfl, x.tail ht, fun q => ?_⟩
        have : (l :: t).getLastD "" = t.getLastD "" := by
          cases t with
          | nil => exact absurd rfl ht
          | cons b r => simp [List.getLastD_cons]
        unfold goes at hg
        rw [this, q] at hg
        simp at hg
      · exact ups_mem (x.tail ht) r h
theorem ups_len : ∀ L : List Str, (ups L).length ≤ L.length
  | [] => Nat.le_refl _
  | l :: r => by
    rw [ups]
    split
    · have := ups_len r; simp; omega
    · simp
theorem strOk_of {x : Str} (h : ∀ c ∈ ch x, c < 128) : PyData.strOk x = true := by
  unfold PyData.strOk
  rw [Array.all_eq_true']
  intro c hc
  have := h c (by simpa [ch] using hc)
  exact decide_eq_true (by omega)
theorem rv_ok {L : List Str} (x : Lb L) : ∀ y ∈ rv L, PyData.strOk y = true := by
  intro y hy
  unfold rv at hy
  have := (lw_lb x).mem y (by simpa using hy)
  exact strOk_of fun c hc => ((wds_ok y this).2.2.1 c hc).1
theorem rv_len (L : List Str) : (rv L).length = L.length := by unfold rv lw; simp
theorem hostOk {L : List Str} (x : Lb L) : HostOk (J L) where
  up := by rw [← ch_length, ch_upper (by rw [ch_join]; exact fun c hc => (x.chars c hc).1), List.length_map, ch_join]; have := x.len; omega
  lo := by rw [lower_J x, ← ch_length, ch_join]; have := (lw_lb x).len; omega
  len := by rw [← ch_length, ch_join]; have := x.len; omega
  okc := okC_J _ _ x
  cnt := by
    unfold Txt.count
    have h1 := StrLaws.occ_length_le (J L) (Str.ofString ".") 0 (J L).length ((J L).length + 1)
    have h2 : (J L).length ≤ 24 := by rw [← ch_length, ch_join]; exact x.len
    have : ((occurrences (J L) (Str.ofString ".") 0 (J L).length ((J L).length + 1)).length : Int) ≤ 25 := by omega
    exact Int.le_trans this (by decide)
  cnt0 := by unfold Txt.count; exact Int.natCast_nonneg _
  spl := by rw [split_J x]; exact List.length_pos_iff.mpr x.ne
  sum i := by
    rw [split_J x]
    have h1 : ∀ y ∈ L.drop i, y.length ≤ 5 := fun y hy => by rw [← ch_length]; exact (wds_ok y (x.mem y (List.mem_of_mem_drop hy))).2.2.2.2
    have h2 := sum_le (L.drop i) h1
    have h3 : (L.drop i).length ≤ 4 := by rw [List.length_drop]; have := x.le; omega
    omega
  lad := by rw [split_J x, ladder_J x, rungs_J x]
  llen := by rw [ladder_J x]; have h1 := ups_len L; have := x.le; simp; omega
  okl := by rw [lower_upper_J x]; exact (lw_lb x).ok
  okr r hr := by
    rw [ladder_J x] at hr
    rcases List.mem_cons.mp hr with rfl | hr
    · rw [lower_J x]; exact (lw_lb x).ok
    · obtain ⟨M, rfl, y, _⟩ := ups_mem x r hr
      rw [lower_DJ y]; exact (lw_lb y).okD
  lab r hr := by
    rw [ladder_J x] at hr
    rcases List.mem_cons.mp hr with rfl | hr
    · rw [labels_J x]
      have h1 := rv_len L
      have h2 := x.le
      have h3 := List.length_pos_iff.mpr x.ne
      exact ⟨by omega, by omega, rv_ok x⟩
    · obtain ⟨M, rfl, y, _⟩ := ups_mem x r hr
      rw [labels_DJ y]
      have h1 := rv_len M
      have h2 := y.le
      refine ⟨by rw [List.length_append]; simp; omega, by simp, fun z hz => ?_⟩
      rcases List.mem_append.mp hz with hz | hz
      · exact rv_ok y z hz
      · rw [List.mem_singleton.mp hz]; exact strOk_of (by decide)
  lis := by
    rw [labels_J x]
    have h1 := rv_len L
    have h2 := x.le
    exact ⟨by omega, rv_ok x⟩
  sok r hr := by
    rw [ladder_J x] at hr
    rcases List.mem_cons.mp hr with rfl | hr
    · exact strOk_of (by rw [ch_join]; exact fun c hc => (x.chars c hc).1)
    · obtain ⟨M, rfl, y, _⟩ := ups_mem x r hr
      refine strOk_of ?_
      rw [ch_DJ]
      intro c hc
      rcases List.mem_cons.mp hc with rfl | hc
      · decide
      · exact (y.chars c hc).1
end Mine
end P6

section P7
open PySem PySem.W PyProof.Rows PySem.Calls PySem.Builtin.Str
set_option maxRecDepth 100000
namespace Mine

theorem starts_dot (x : Str) : Txt.startswith x (Str.ofString ".") = ((ch x).take 1 == [46]) := by
  unfold Txt.startswith
  rw [StrLaws.subAt_eq, dot_eq]
  show (decide (0 + 1 ≤ x.length) && (((ch x).drop 0).take 1 == [46])) = _
  rw [List.drop_zero]
  by_cases h : 0 + 1 ≤ x.length
  · rw [decide_eq_true h]; rfl
  · rw [decide_eq_false h]
    have : ch x = [] := List.length_eq_zero_iff.mp (by rw [ch_length]; omega)
    rw [this]; rfl
theorem ends_iff (x y : Str) : Txt.endswith x y = decide (ch y <:+ ch x) := by
  unfold Txt.endswith
  rw [StrLaws.subAt_eq]
  show (decide (0 + y.length ≤ x.length) && (((ch x).drop (x.length - y.length)).take y.length == ch y)) = _
  by_cases h : ch y <:+ ch x
  · rw [decide_eq_true h]
    have hl := h.length_le
    rw [ch_length, ch_length] at hl
    rw [decide_eq_true (by omega)]
    have := List.suffix_iff_eq_drop.mp h
    rw [ch_length, ch_length] at this
    rw [← this, List.take_of_length_le (by rw [ch_length]; omega)]
    simp
  · rw [decide_eq_false h]
    by_cases hl : 0 + y.length ≤ x.length
    · rw [decide_eq_true hl, Bool.true_and, beq_eq_false_iff_ne]
      intro q
      apply h
      rw [List.take_of_length_le (by rw [List.length_drop, ch_length]; omega)] at q
      rw [← q]
      exact List.drop_suffix _ _
    · rw [decide_eq_false hl]; rfl
theorem lower_s7 : ∀ l ∈ wds, Txt.lower l = s7 → l = s7 := by decide +kernel
theorem lw_last {L : List Str} (x : Lb L) (h : L.getLastD "" ≠ s7) : (lw L).getLastD "" ≠ s7 := by
  obtain ⟨B, z, rfl⟩ : ∃ B z, L = B ++ [z] := ⟨L.dropLast, L.getLast x.ne, (List.dropLast_concat_getLast x.ne).symm⟩
  have e : (B ++ [z]).getLastD "" = z := by simp
  have e2 : (lw (B ++ [z])).getLastD "" = Txt.lower z := by unfold lw; simp
  rw [e] at h
  rw [e2]
  exact fun q => h (lower_s7 z (x.mem z (by simp)) q)
theorem J_start {L : List Str} (x : Lb L) : Txt.startswith (J L) (Str.ofString ".") = false := by
  rw [starts_dot]
  obtain ⟨c, t, h, hc⟩ := J_first x
  rw [h]
  simp [hc]
theorem J_beq {L M : List Str} (x : Lb L) (y : Lb M) : ((J L).cps.toList == (J M).cps.toList) = decide (L = M) := by
  by_cases h : L = M
  · rw [decide_eq_true h, h]; simp
  · rw [decide_eq_false h, beq_eq_false_iff_ne]
    exact fun q => h (J_inj x y (ch_inj q))
theorem rv_inj {L M : List Str} : rv L = rv M ↔ lw L = lw M := by
  unfold rv
  constructor
  · intro h; have := congrArg List.reverse h; simpa using this
  · intro h; rw [h]
theorem udm_J {N L : List Str} (y : Lb N) (x : Lb L) : udm (Txt.upper (J N)) (J L) = decide (rv N = rv L) := by
  have e : decide (rv N = rv L) = decide (lw N = lw L) := decide_eq_decide.mpr rv_inj
  unfold udm
  rw [lower_upper_J y, lower_J x, e, ← J_beq (lw_lb y) (lw_lb x)]
  dsimp only
  rw [show Txt.startswith (J (lw L)) (Str.ofString ".") = false from J_start (lw_lb x)]
  split <;> rfl
theorem udm_DJ {N M : List Str} (y : Lb N) (x : Lb M) (hM : M.getLastD "" ≠ s7) : udm (Txt.upper (J N)) (DJ M) = decide (M.length + 1 ≤ N.length ∧ (rv N).take M.length = rv M) := by
  have xl := lw_lb x
  have yl := lw_lb y
  have hn : (lw N).length = N.length := by unfold lw; simp
  have hm : (lw M).length = M.length := by unfold lw; simp
  have key : (∃ k, 1 ≤ k ∧ k < (lw N).length ∧ (lw N).drop k = lw M) ↔ M.length + 1 ≤ N.length ∧ (rv N).take M.length = rv M := by
    unfold rv
    rw [List.take_reverse, hn]
    constructor
    · rintro ⟨k, k1, k2, k3⟩
      have hl := congrArg List.length k3
      rw [List.length_drop, hn, hm] at hl
      refine ⟨by omega, ?_⟩
      rw [show N.length - M.length = k by omega, k3]
    · rintro ⟨h1, h2⟩
      refine ⟨N.length - M.length, by omega, by have := List.length_pos_iff.mpr x.ne; omega, ?_⟩
      have := congrArg List.reverse h2
      simpa using this
  have suf : ch (DJ (lw M)) <:+ ch (J (lw N)) ↔ ∃ k, 1 ≤ k ∧ k < (lw N).length ∧ (lw N).drop k = lw M := by
    rw [ch_DJ, ch_join, suffix_inter (by simpa using xl.ne) yl.fr xl.fr]
    constructor
    · rintro ⟨k, k1, k2, k3⟩
      exact ⟨k, k1, by simpa using k2, map_ch_inj (by rw [List.map_drop]; exact k3)⟩
    · rintro ⟨k, k1, k2, k3⟩
      exact ⟨k, k1, by simpa using k2, by rw [← List.map_drop, k3]⟩
  unfold udm
  rw [lower_upper_J y, lower_DJ x]
  dsimp only
  rw [ipv_noD xl (lw_last x hM)]
  have hst : Txt.startswith (DJ (lw M)) (Str.ofString ".") = true := by rw [starts_dot, ch_DJ]; rfl
  cases hi : ipv (J (lw N)).cps with
  | false =>
    simp only [Bool.not_false, Bool.and_self, Bool.not_true, Bool.false_eq_true, if_false]
    rw [show Txt.startswith (DJ (lw M)) (Str.ofString ".") = true from hst, if_pos rfl, ends_iff]
    exact decide_eq_decide.mpr (suf.trans key)
  | true =>
    simp only [Bool.not_true, Bool.false_and, Bool.not_false, if_true]
    have h1 : ((J (lw N)).cps.toList == (DJ (lw M)).cps.toList) = false := by
      rw [beq_eq_false_iff_ne]
      exact fun q => J_ne_DJ yl (ch_inj q)
    rw [h1]
    symm
    refine decide_eq_false fun hk => ?_
    obtain ⟨k, k1, k2, k3⟩ := key.mpr hk
    have h7 : (lw N).getLastD "" = s7 := by
      by_cases q : (lw N).getLastD "" = s7
      · exact q
      · rw [ipv_no yl q] at hi; cases hi
    refine lw_last x hM ?_
    rw [← k3, ← h7]
    rw [List.getLastD_eq_getLast?, List.getLastD_eq_getLast?, List.getLast?_drop, if_neg (by omega)]
end Mine
end P7

section P8
open PySem PySem.W PyProof.Rows PySem.Calls PySem.Builtin.Str
set_option maxRecDepth 100000
namespace Mine

theorem last_tail {l : Str} {t : List Str} (ht : t ≠ []) : (l :: t).getLastD "" = t.getLastD "" := by
  cases t with
  | nil => exact absurd rfl ht
  | cons b r => simp
theorem ups_get : ∀ {L : List Str}, Lb L → ∀ {i : Nat} {r : Str}, (ups L)[i]? = some r → r = DJ (L.drop (i + 1)) ∧ i + 1 < L.length ∧ Lb (L.drop (i + 1)) ∧ (L.drop (i + 1)).getLastD "" ≠ s7
  | [], x, _, _, _ => absurd rfl x.ne
  | l :: t, x, i, r, h => by
    rw [ups] at h
    cases hg : goes l t with
    | false => rw [hg] at h; simp at h
    | true =>
      rw [hg, if_pos rfl] at h
      have ht := goes_ne hg
      have hlen := List.length_pos_iff.mpr ht
      cases i with
      | zero =>
        simp at h
        refine ⟨h.symm, by simp; omega, by simpa using x.tail ht, fun q => ?_⟩
        unfold goes at hg
        have q' : t.getLastD "" = s7 := by simpa using q
        rw [last_tail ht, q'] at hg
        simp at hg
      | succ j =>
        have h : (ups t)[j]? = some r := by simpa using h
        obtain ⟨h1, h2, h3, h4⟩ := ups_get (x.tail ht) h
        exact ⟨by simpa using h1, by simp; omega, by simpa using h3, by simpa using h4⟩
theorem rv_drop {L : List Str} {s : Nat} (hs : s ≤ L.length) : rv (L.drop s) = (rv L).take (L.length - s) := by
  unfold rv
  have e : (lw L).length = L.length := by unfold lw; simp
  rw [List.take_reverse, e, show L.length - (L.length - s) = s by omega]
  unfold lw
  rw [List.map_drop]
theorem rv_ne {L : List Str} (x : Lb L) : rv L ≠ [] := by
  intro h
  have := congrArg List.length h
  rw [rv_len] at this
  exact x.ne (List.length_eq_zero_iff.mp this)
theorem lower_ne : ∀ l ∈ wds, Txt.lower l ≠ Str.ofString "" := by decide +kernel
theorem rv_last {L : List Str} (x : Lb L) : ((rv L).getLastD "" == Str.ofString "") = false := by
  cases L with
  | nil => exact absurd rfl x.ne
  | cons l r =>
    have : (rv (l :: r)).getLastD "" = Txt.lower l := by unfold rv lw; simp
    rw [this, beq_eq_false_iff_ne]
    exact lower_ne l (x.mem l (.head _))
theorem lv_full {L N : List Str} (x : Lb L) : L.length ≤ lv (rv L) (rv N) ↔ rv N = rv L := by
  constructor
  · intro h
    by_cases q : rv L = rv N
    · exact q.symm
    · have := lv_lt q (rv_ne x)
      rw [rv_len] at this
      omega
  · intro h
    rw [h, lv_self, rv_len]
    exact Nat.le_refl _
/-- does the rung s of the one hold the other -/
def lvl (L N : List Str) (s : Nat) : Bool := decide (L.length - s ≤ lv (rv L) (rv N))
theorem rung_both {L N : List Str} (x : Lb L) (y : Lb N) {s : Nat} {r : Str} (h : (ladderF (J L))[s]? = some r) : holdsF (labelsF r) (rv N) = lvl L N s ∧ udm (Txt.upper (J N)) r = lvl L N s := by
  rw [ladder_J x] at h
  cases s with
  | zero =>
    simp at h
    subst h
    have e : lvl L N 0 = decide (rv N = rv L) := decide_eq_decide.mpr (lv_full x)
    rw [e, labels_J x, udm_J y x]
    refine ⟨?_, rfl⟩
    unfold holdsF
    rw [rv_last x]; simp
  | succ j =>
    have h : (ups L)[j]? = some r := by simpa using h
    obtain ⟨rfl, h2, h3, h4⟩ := ups_get x h
    have hl : (L.drop (j + 1)).length = L.length - (j + 1) := List.length_drop ..
    have e : lvl L N (j + 1) = decide ((L.drop (j + 1)).length + 1 ≤ N.length ∧ (rv N).take (L.drop (j + 1)).length = rv (L.drop (j + 1))) := by
      refine decide_eq_decide.mpr ?_
      rw [lv_take (A := rv L) (B := rv N) (by omega) (by rw [rv_len]; omega), rv_len, hl, rv_drop (by omega)]
    rw [e, udm_DJ y h3 h4]
    refine ⟨?_, rfl⟩
    rw [labels_DJ h3]
    unfold holdsF
    have e1 : (rv (L.drop (j + 1)) ++ [Str.ofString ""]).getLastD "" = Str.ofString "" := by simp
    rw [e1, if_pos (by simp)]
    rw [List.dropLast_concat, List.length_append, rv_len, rv_len]
    show (decide ((L.drop (j + 1)).length + 1 ≤ N.length) && decide ((rv N).take ((L.drop (j + 1)).length + 1 - 1) = rv (L.drop (j + 1)))) = _
    rw [Nat.add_sub_cancel, Bool.decide_and]
theorem lvl_mono {L N : List Str} {s t : Nat} (h : s ≤ t) (hs : lvl L N s = true) : lvl L N t = true := by
  unfold lvl at *
  have := of_decide_eq_true hs
  exact decide_eq_true (by omega)
/-- a row of answers that turns once -/
theorem once {n p : Nat} {f : Nat → Bool} (hp : p ≤ n) (hm : ∀ s t, s ≤ t → t < n → f s = true → f t = true) (h1 : p = 0 ∨ f (p - 1) = false) (h2 : p = n ∨ f p = true) : (List.range n).map f = List.replicate p false ++ List.replicate (n - p) true := by
  apply List.ext_getElem?
  intro i
  by_cases hi : i < n
  · rw [List.getElem?_map, List.getElem?_range hi]
    by_cases hip : i < p
    · rw [List.getElem?_append_left (by simpa using hip), List.getElem?_replicate, if_pos hip]
      have : f i = false := by
        cases hf : f i with
        | false => rfl
        | true =>
          rcases h1 with h1 | h1
          · omega
          · rw [hm i (p - 1) (by omega) (by omega) hf] at h1; cases h1
      rw [← this]; rfl
    · rw [List.getElem?_append_right (by simp; omega), List.length_replicate, List.getElem?_replicate, if_pos (by omega)]
      have : f i = true := by
        rcases h2 with h2 | h2
        · omega
        · exact hm p i (by omega) hi h2
      rw [← this]; rfl
  · rw [List.getElem?_eq_none (by simp; omega), List.getElem?_eq_none (by simp; omega)]
theorem holds_map {L N : List Str} (x : Lb L) (y : Lb N) : ((ladderF (J L)).map fun r => holdsF (labelsF r) (rv N)) = (List.range (ladderF (J L)).length).map (lvl L N) := by
  apply List.ext_getElem?
  intro i
  by_cases hi : i < (ladderF (J L)).length
  · rw [List.getElem?_map, List.getElem?_map, List.getElem?_range hi, List.getElem?_eq_getElem hi]
    show some (holdsF _ _) = some _
    rw [(rung_both x y (List.getElem?_eq_getElem hi)).1]
  · rw [List.getElem?_eq_none (by simp; omega), List.getElem?_eq_none (by simp; omega)]
/-- how many rungs a ladder has -/
def rn (L : List Str) : Nat := (ladderF (J L)).length
theorem rn_eq {L : List Str} (x : Lb L) : rn L = 1 + (ups L).length := by unfold rn; rw [ladder_J x]; simp; omega
theorem place_eq {L N : List Str} (x : Lb L) (y : Lb N) : placeF (ladderF (J L)) (rv N) = min (rn L) (L.length - lv (rv L) (rv N)) := by
  unfold placeF
  rw [holds_map x y]
  have : (List.range (ladderF (J L)).length).map (lvl L N) = List.replicate (min (rn L) (L.length - lv (rv L) (rv N))) false ++ List.replicate (rn L - min (rn L) (L.length - lv (rv L) (rv N))) true := by
    refine once (Nat.min_le_left _ _) (fun s t h _ hs => lvl_mono h hs) ?_ ?_
    · by_cases h : min (rn L) (L.length - lv (rv L) (rv N)) = 0
      · exact .inl h
      · refine .inr (decide_eq_false ?_)
        omega
    · by_cases h : min (rn L) (L.length - lv (rv L) (rv N)) = rn L
      · exact .inl h
      · refine .inr (decide_eq_true ?_)
        omega
  rw [this]
  simp [List.count_replicate]
theorem chk_J {L N : List Str} (x : Lb L) (y : Lb N) {p : Nat} (hp : p ≤ (ladderF (J L)).length) (h1 : p = 0 ∨ udm (Txt.upper (J N)) ((ladderF (J L)).getD (p - 1) "") = false) (h2 : p = (ladderF (J L)).length ∨ udm (Txt.upper (J N)) ((ladderF (J L)).getD p "") = true) :
    ((ladderF (J L)).map fun r => holdsF (labelsF r) (rv N)) = List.replicate p false ++ List.replicate ((ladderF (J L)).length - p) true := by
  rw [holds_map x y]
  have hu : ∀ i, i < (ladderF (J L)).length → udm (Txt.upper (J N)) ((ladderF (J L)).getD i "") = lvl L N i := fun i hi => by
    rw [List.getD_eq_getElem?_getD, List.getElem?_eq_getElem hi]
    exact (rung_both x y (List.getElem?_eq_getElem hi)).2
  refine once hp (fun s t h _ hs => lvl_mono h hs) ?_ ?_
  · by_cases h0 : p = 0
    · exact .inl h0
    · rw [hu (p - 1) (by omega)] at h1; exact h1
  · by_cases h0 : p = (ladderF (J L)).length
    · exact .inl h0
    · rw [hu p (by omega)] at h2; exact h2
end Mine
end P8

section P9
open PySem PySem.W PyProof.Rows PySem.Calls PySem.Builtin.Str
set_option maxRecDepth 100000
namespace Mine

/-- the order of turns -/
def ltK (ks : Nat → List Str) (i j : Nat) : Bool := ltPr (ks i, i) (ks j, j)
theorem ltK_iff {ks : Nat → List Str} {i j : Nat} : ltK ks i j = true ↔ (ks i = ks j ∧ i < j) ∨ (ks i ≠ ks j ∧ ltL (ks i) (ks j) = true) := by
  unfold ltK ltPr
  by_cases h : ks i = ks j
  · simp [h]
  · simp [h]
theorem ltK_trans {ks : Nat → List Str} {i j k : Nat} (h1 : ltK ks i j = true) (h2 : ltK ks j k = true) : ltK ks i k = true := by
  rw [ltK_iff] at *
  rcases h1 with ⟨e1, l1⟩ | ⟨n1, l1⟩
  · rcases h2 with ⟨e2, l2⟩ | ⟨n2, l2⟩
    · exact .inl ⟨e1.trans e2, by omega⟩
    · exact .inr ⟨by rw [e1]; exact n2, by rw [e1]; exact l2⟩
  · rcases h2 with ⟨e2, l2⟩ | ⟨n2, l2⟩
    · exact .inr ⟨by rw [← e2]; exact n1, by rw [← e2]; exact l1⟩
    · have := ltL_trans l1 l2
      refine .inr ⟨fun q => ?_, this⟩
      rw [q, ltL_irrefl] at this; cases this
theorem ltK_irrefl (ks : Nat → List Str) (i : Nat) : ltK ks i i = false := by
  cases h : ltK ks i i with
  | false => rfl
  | true =>
    rcases ltK_iff.mp h with ⟨_, h⟩ | ⟨h, _⟩
    · omega
    · exact absurd rfl h
theorem ltK_asymm {ks : Nat → List Str} {i j : Nat} (h1 : ltK ks i j = true) : ltK ks j i = false := by
  cases h : ltK ks j i with
  | false => rfl
  | true => have := ltK_trans h1 h; rw [ltK_irrefl] at this; cases this
theorem ltK_total {ks : Nat → List Str} {i j : Nat} (h : i ≠ j) : ltK ks i j = true ∨ ltK ks j i = true := by
  rw [ltK_iff, ltK_iff]
  by_cases e : ks i = ks j
  · rcases Nat.lt_or_gt_of_ne h with h | h
    · exact .inl (.inl ⟨e, h⟩)
    · exact .inr (.inl ⟨e.symm, h⟩)
  · rcases ltL_total e with h | h
    · exact .inl (.inr ⟨e, h⟩)
    · exact .inr (.inr ⟨Ne.symm e, h⟩)
theorem ltK_le {ks : Nat → List Str} {i j : Nat} (h : ltK ks i j = true) : leL (ks i) (ks j) := by
  rcases ltK_iff.mp h with ⟨e, _⟩ | ⟨_, h⟩
  · exact .inl e
  · exact .inr h
theorem InsR.perm {ks : Nat → List Str} {n : Nat} {row : List Nat} (x : InsR ks n row) : row.Perm (List.range n) := by
  induction x with
  | zero => exact .refl _
  | @succ i row p x h1 h2 h3 ih =>
    rw [List.range_succ]
    refine (List.perm_middle).trans ?_
    rw [List.take_append_drop]
    exact ((ih.cons i).trans (List.perm_append_comm (l₁ := [i]) (l₂ := List.range i)))
theorem InsR.sorted {ks : Nat → List Str} {n : Nat} {row : List Nat} (x : InsR ks n row) : row.Pairwise fun a b => ltK ks a b = true := by
  induction x with
  | zero => exact .nil
  | @succ i row p x h1 h2 h3 ih =>
    have hlt := x.lt
    have hg := List.pairwise_iff_getElem.mp ih
    have before : ∀ a ∈ row.take p, ltK ks a i = true := by
      intro a ha
      obtain ⟨k, hk, rfl⟩ := List.mem_iff_getElem.mp ha
      rw [List.length_take] at hk
      rw [List.getElem_take]
      rcases h2 with h2 | ⟨j, hj, hl⟩
      · omega
      · obtain ⟨hj1, hj2⟩ := List.getElem?_eq_some_iff.mp hj
        have hji : j < i := hlt j (List.mem_of_getElem? hj)
        have hjl : ltK ks j i = true := by
          rw [ltK_iff]
          by_cases e : ks j = ks i
          · exact .inl ⟨e, hji⟩
          · refine .inr ⟨e, ?_⟩
            rcases ltL_total e with h | h
            · exact h
            · rw [hl] at h; cases h
        by_cases hkp : k = p - 1
        · subst hkp; rw [hj2]; exact hjl
        · refine ltK_trans (hg k (p - 1) (by omega) hj1 (by omega)) ?_
          rw [hj2]; exact hjl
    have after : ∀ b ∈ row.drop p, ltK ks i b = true := by
      intro b hb
      obtain ⟨k, hk, rfl⟩ := List.mem_iff_getElem.mp hb
      rw [List.length_drop] at hk
      rw [List.getElem_drop]
      rcases h3 with h3 | ⟨j, hj, hl⟩
      · omega
      · obtain ⟨hj1, hj2⟩ := List.getElem?_eq_some_iff.mp hj
        have hij : ltK ks i j = true := by
          rw [ltK_iff]
          refine .inr ⟨fun e => ?_, hl⟩
          rw [e, ltL_irrefl] at hl; cases hl
        by_cases hk0 : k = 0
        · subst hk0
          have : row[p + 0] = j := by simpa using hj2
          rw [this]; exact hij
        · refine ltK_trans hij ?_
          rw [← hj2]
          exact hg p (p + k) hj1 (by omega) (by omega)
    rw [List.pairwise_append, List.pairwise_cons]
    refine ⟨ih.sublist (List.take_sublist _ _), ⟨after, ih.sublist (List.drop_sublist _ _)⟩, ?_⟩
    intro a ha b hb
    rcases List.mem_cons.mp hb with rfl | hb
    · exact before a ha
    · have h4 : (row.take p ++ row.drop p).Pairwise fun a b => ltK ks a b = true := by rw [List.take_append_drop]; exact ih
      exact (List.pairwise_append.mp h4).2.2 a ha b hb
theorem uniq {ks : Nat → List Str} : ∀ {A B : List Nat}, A.Perm B → A.Pairwise (fun a b => ltK ks a b = true) → B.Pairwise (fun a b => ltK ks a b = true) → A = B
  | [], B, h, _, _ => (List.nil_perm.mp h).symm
  | a :: A, [], h, _, _ => by cases List.perm_nil.mp h
  | a :: A, b :: B, h, hA, hB => by
    have hab : a = b := by
      by_cases e : a = b
      · exact e
      · have h1 : a ∈ b :: B := h.mem_iff.mp (.head _)
        have h2 : b ∈ a :: A := h.mem_iff.mpr (.head _)
        have h3 := (List.pairwise_cons.mp hB).1 a ((List.mem_cons.mp h1).resolve_left e)
        have h4 := (List.pairwise_cons.mp hA).1 b ((List.mem_cons.mp h2).resolve_left (Ne.symm e))
        rw [ltK_asymm h3] at h4; cases h4
    subst hab
    rw [uniq (List.Perm.cons_inv h) (List.pairwise_cons.mp hA).2 (List.pairwise_cons.mp hB).2]
end Mine
end P9

section P10
open PySem PySem.W PyProof.Rows PySem.Calls PySem.Builtin.Str
set_option maxRecDepth 100000
namespace Mine

/-- how many rungs two have in common -/
def cN (L N : List Str) : Nat := rn L - min (rn L) (L.length - lv (rv L) (rv N))
theorem lv_pos : ∀ {A B : List Str}, 1 ≤ lv A B → ∃ x xs ys, A = x :: xs ∧ B = x :: ys ∧ ((xs = [] ∧ ys = []) ∨ (xs ≠ [] ∧ ys ≠ []))
  | [], B, h => by cases B <;> (have : 1 ≤ 0 := h; omega)
  | _ :: _, [], h => by have : 1 ≤ 0 := h; omega
  | x :: xs, y :: ys, h => by
    rw [lv] at h
    by_cases e : x = y
    · subst e
      rw [if_pos rfl] at h
      by_cases h1 : xs = []
      · rw [if_pos h1] at h
        by_cases h2 : ys = []
        · exact ⟨x, xs, ys, rfl, rfl, .inl ⟨h1, h2⟩⟩
        · rw [if_neg h2] at h; omega
      · rw [if_neg h1] at h
        by_cases h2 : ys = []
        · rw [if_pos h2] at h; omega
        · exact ⟨x, xs, ys, rfl, rfl, .inr ⟨h1, h2⟩⟩
    · rw [if_neg e] at h; omega
theorem lower_last : ∀ l ∈ wds, ∀ m ∈ wds, Txt.lower l = Txt.lower m → (l == s7) = (m == s7) ∧ (l == sLocal) = (m == sLocal) := by decide +kernel
theorem rv_head {L : List Str} (x : Lb L) : ∃ t, rv L = Txt.lower (L.getLastD "") :: t ∧ L.getLastD "" ∈ wds := by
  obtain ⟨B, z, rfl⟩ : ∃ B z, L = B ++ [z] := ⟨L.dropLast, L.getLast x.ne, (List.dropLast_concat_getLast x.ne).symm⟩
  have e : (B ++ [z]).getLastD "" = z := by simp
  rw [e]
  exact ⟨(lw B).reverse, by unfold rv lw; simp, x.mem z (by simp)⟩
theorem rn_is {L : List Str} (x : Lb L) : rn L = if (decide (1 < L.length) && (L.getLastD "" == s7)) = true then 1 else 1 + (L.length - (if (L.getLastD "" == sLocal) = true then 1 else 2)) := by
  rw [rn_eq x, ups_eq x.ne]
  split
  · rfl
  · simp
theorem rn_le {L : List Str} (x : Lb L) : rn L ≤ L.length := by
  rw [rn_is x]
  have := List.length_pos_iff.mpr x.ne
  split
  · omega
  · split <;> omega
theorem cN_symm {L N : List Str} (x : Lb L) (y : Lb N) : cN L N = cN N L := by
  unfold cN
  rw [lv_symm (rv N) (rv L)]
  by_cases h0 : lv (rv L) (rv N) = 0
  · have h1 := rn_le x
    have h2 := rn_le y
    rw [h0]; omega
  · obtain ⟨c, xs, ys, e1, e2, h3⟩ := lv_pos (A := rv L) (B := rv N) (by omega)
    obtain ⟨t, g1, m1⟩ := rv_head x
    obtain ⟨u, g2, m2⟩ := rv_head y
    have hlow : Txt.lower (L.getLastD "") = Txt.lower (N.getLastD "") := by
      rw [g1] at e1; rw [g2] at e2
      injection e1 with e1; injection e2 with e2
      rw [e1, e2]
    obtain ⟨f1, f2⟩ := lower_last _ m1 _ m2 hlow
    have r1 := rn_is x
    have r2 := rn_is y
    rw [f1, f2] at r1
    have l1 : L.length = xs.length + 1 := by rw [← rv_len L, e1]; rfl
    have l2 : N.length = ys.length + 1 := by rw [← rv_len N, e2]; rfl
    have b1 := lv_le (rv L) (rv N)
    rcases h3 with ⟨rfl, rfl⟩ | ⟨h3, h4⟩
    · have : L.length = N.length := by simp at l1 l2; omega
      rw [this] at r1 ⊢
      rw [r1, r2]
    · have p1 := List.length_pos_iff.mpr h3
      have p2 := List.length_pos_iff.mpr h4
      by_cases eq : rv L = rv N
      · have : L.length = N.length := by rw [← rv_len L, ← rv_len N, eq]
        rw [this] at r1 ⊢
        rw [r1, r2]
      · have q1 := lv_lt eq (rv_ne x)
        have q2 := lv_lt (Ne.symm eq) (rv_ne y)
        rw [lv_symm] at q2
        rw [rv_len] at q1 q2
        rw [decide_eq_true (by omega)] at r1 r2
        cases h7 : N.getLastD "" == s7 with
        | true =>
          rw [h7] at r1 r2
          simp at r1 r2
          rw [r1, r2]; omega
        | false =>
          rw [h7] at r1 r2
          simp only [Bool.and_false, Bool.false_eq_true, if_false] at r1 r2
          cases hL : N.getLastD "" == sLocal with
          | true =>
            rw [hL] at r1 r2
            simp at r1 r2
            omega
          | false =>
            rw [hL] at r1 r2
            simp at r1 r2
            omega
theorem cN_mono {L N M : List Str} (h : lv (rv L) (rv N) ≤ lv (rv L) (rv M)) : cN L N ≤ cN L M := by unfold cN; omega
theorem cN_eq {L N M : List Str} (h : lv (rv L) (rv N) = lv (rv L) (rv M)) : cN L N = cN L M := by unfold cN; rw [h]
theorem cN_step {L N M : List Str} (x : Lb L) (y : Lb N) (z : Lb M) (h1 : leL (rv L) (rv N)) (h2 : leL (rv N) (rv M)) : cN L M = min (cN L N) (cN N M) := by
  have hm := lv_mid h1 h2
  have s1 := lv_symm (rv L) (rv N)
  have s2 := lv_symm (rv N) (rv M)
  have s3 := lv_symm (rv L) (rv M)
  by_cases h : lv (rv L) (rv N) ≤ lv (rv N) (rv M)
  · have e : cN L M = cN L N := cN_eq (by omega)
    have : cN N L ≤ cN N M := cN_mono (by omega)
    rw [cN_symm y x] at this
    omega
  · have e : cN M L = cN M N := cN_eq (by omega)
    have : cN N M ≤ cN N L := cN_mono (by omega)
    rw [cN_symm y x] at this
    rw [cN_symm x z, e, cN_symm z y]
    omega
end Mine
end P10

section P11
open PySem PySem.W PyProof.Rows PySem.Calls PySem.Builtin.Str
set_option maxRecDepth 100000
namespace Mine

section
variable {Ls : List (List Str)} (hL : ∀ L ∈ Ls, Lb L)
include hL
theorem map_labels : (Ls.map J).map labelsF = Ls.map rv := by
  rw [List.map_map]
  exact List.map_congr_left fun L h => labels_J (hL L h)
omit hL in
theorem getD_of {α : Type} {l : List α} {i : Nat} (d : α) (h : i < l.length) : l.getD i d = l[i] := by rw [List.getD_eq_getElem?_getD, List.getElem?_eq_getElem h]; rfl
omit hL in
/-- the labels of a turn -/
def at' (Ls : List (List Str)) (i : Nat) : List Str := Ls.getD i []
theorem at_lb {i : Nat} (h : i < Ls.length) : Lb (at' Ls i) := by unfold at'; rw [getD_of _ h]; exact hL _ (List.getElem_mem h)
omit hL in
theorem at_map {β : Type} (f : List Str → β) (d : β) {i : Nat} (h : i < Ls.length) : (Ls.map f).getD i d = f (at' Ls i) := by
  unfold at'
  rw [getD_of _ (by rw [List.length_map]; exact h), getD_of _ h, List.getElem_map]
theorem ltH_eq {i j : Nat} (hi : i < Ls.length) (hj : j < Ls.length) : ltH (Ls.map J) i j = ltK (fun i => (Ls.map rv).getD i []) i j := by
  unfold ltH ltK
  rw [map_labels hL]
  have e : ∀ k, k < Ls.length → (Ls.map rv).zipIdx.getD k ([], 0) = ((Ls.map rv).getD k [], k) := fun k hk => by
    rw [getD_of _ (by rw [List.length_zipIdx, List.length_map]; exact hk), getD_of _ (by rw [List.length_map]; exact hk)]
    simp
  rw [e i hi, e j hj]
theorem ord_ok : Ord (Ls.map J).length (ltH (Ls.map J)) where
  tr i j k hi hj hk h1 h2 := by
    rw [List.length_map] at hi hj hk
    rw [ltH_eq hL hi hj] at h1
    rw [ltH_eq hL hj hk] at h2
    rw [ltH_eq hL hi hk]
    exact ltK_trans h1 h2
  to i j hi hj h := by
    rw [List.length_map] at hi hj
    rw [ltH_eq hL hi hj, ltH_eq hL hj hi]
    exact ltK_total h
  as i j hi hj h := by
    rw [List.length_map] at hi hj
    rw [ltH_eq hL hi hj] at h
    rw [ltH_eq hL hj hi]
    exact ltK_asymm h
theorem row_ok {row : List Nat} (hI : InsR (fun i => ((Ls.map J).map labelsF).getD i []) (Ls.map J).length row) {p : Array Nat} (hp : Pm (Ls.map J).length p) (hs : SoT (ltH (Ls.map J)) p (Ls.map J).length) : p.toList = row := by
  rw [map_labels hL] at hI
  refine uniq (List.Perm.trans hp hI.perm.symm) ?_ hI.sorted
  have hsz := hp.size
  rw [List.pairwise_iff_getElem]
  intro i j hi hj hij
  rw [Array.length_toList] at hi hj
  have h1 := hs i j hij (by omega)
  have e1 : p.getD i 0 = p.toList[i] := by simp [Array.getD, hi]
  have e2 : p.getD j 0 = p.toList[j] := by simp [Array.getD, hj]
  have l1 := hp.lt (k := i) (by omega)
  have l2 := hp.lt (k := j) (by omega)
  rw [List.length_map] at l1 l2
  rw [ltH_eq hL l1 l2, e1, e2] at h1
  exact h1
/-- what the row gives -/
theorem row_at {row : List Nat} (hI : InsR (fun i => ((Ls.map J).map labelsF).getD i []) (Ls.map J).length row) : row.length = Ls.length ∧ (∀ i, i < row.length → row.getD i 0 < Ls.length) ∧
    ∀ i j, i ≤ j → j < row.length → leL (rv (at' Ls (row.getD i 0))) (rv (at' Ls (row.getD j 0))) := by
  have hl := hI.length
  rw [List.length_map] at hl
  have hlt : ∀ i, i < row.length → row.getD i 0 < Ls.length := fun i hi => by
    have := hI.lt _ (List.getElem_mem hi)
    rw [List.length_map] at this
    rw [getD_of _ hi]; exact this
  refine ⟨hl, hlt, fun i j hij hj => ?_⟩
  by_cases e : i = j
  · subst e; exact .inl rfl
  · rw [map_labels hL] at hI
    have := List.pairwise_iff_getElem.mp hI.sorted i j (by omega) hj (by omega)
    have h := ltK_le this
    rw [at_map rv [] (by have := hlt i (by omega); rw [getD_of _ (show i < row.length by omega)] at this; exact this), at_map rv [] (by have := hlt j hj; rw [getD_of _ hj] at this; exact this)] at h
    rw [getD_of _ (show i < row.length by omega), getD_of _ hj]
    exact h
theorem meet_eq {row : List Nat} {i j : Nat} (hi : row.getD i 0 < Ls.length) (hj : row.getD j 0 < Ls.length) : meetF row ((Ls.map J).map ladderF) (tabsF (Ls.map J)) i j = (cN (at' Ls (row.getD i 0)) (at' Ls (row.getD j 0)) : Int) := by
  unfold meetF tabsF
  rw [map_labels hL, List.map_map, List.map_map, at_map _ [] hi, at_map _ [] hi]
  show ((ladderF (J (at' Ls (row.getD i 0)))).length : Int) - ((((Ls.map rv).map (placeF (ladderF (J (at' Ls (row.getD i 0)))))).getD (row.getD j 0) 0 : Nat) : Int) = _
  rw [List.map_map, at_map _ 0 hj]
  show ((rn (at' Ls (row.getD i 0)) : Nat) : Int) - ((placeF (ladderF (J (at' Ls (row.getD i 0)))) (rv (at' Ls (row.getD j 0))) : Nat) : Int) = _
  rw [place_eq (at_lb hL hi) (at_lb hL hj)]
  unfold cN
  omega
theorem near_ok {row : List Nat} (hI : InsR (fun i => ((Ls.map J).map labelsF).getD i []) (Ls.map J).length row) (i j : Nat) (hji : j < i) (hi : i < row.length) :
    (∃ p, j ≤ p ∧ p < i ∧ meetF row ((Ls.map J).map ladderF) (tabsF (Ls.map J)) p (p + 1) = meetF row ((Ls.map J).map ladderF) (tabsF (Ls.map J)) i j) ∧
      (∀ p, j ≤ p → p < i → meetF row ((Ls.map J).map ladderF) (tabsF (Ls.map J)) i j ≤ meetF row ((Ls.map J).map ladderF) (tabsF (Ls.map J)) p (p + 1)) ∧ meetF row ((Ls.map J).map ladderF) (tabsF (Ls.map J)) j i = meetF row ((Ls.map J).map ladderF) (tabsF (Ls.map J)) i j := by
  obtain ⟨hl, hlt, hle⟩ := row_at hL hI
  have me : ∀ a b, a < row.length → b < row.length → meetF row ((Ls.map J).map ladderF) (tabsF (Ls.map J)) a b = (cN (at' Ls (row.getD a 0)) (at' Ls (row.getD b 0)) : Int) := fun a b ha hb => meet_eq hL (hlt a ha) (hlt b hb)
  have lb : ∀ a, a < row.length → Lb (at' Ls (row.getD a 0)) := fun a ha => at_lb hL (hlt a ha)
  have sy : cN (at' Ls (row.getD i 0)) (at' Ls (row.getD j 0)) = cN (at' Ls (row.getD j 0)) (at' Ls (row.getD i 0)) := cN_symm (lb i hi) (lb j (by omega))
  have main : ∀ d, ∀ i, i = j + 1 + d → i < row.length → (∃ p, j ≤ p ∧ p < i ∧ cN (at' Ls (row.getD p 0)) (at' Ls (row.getD (p + 1) 0)) = cN (at' Ls (row.getD j 0)) (at' Ls (row.getD i 0))) ∧
      ∀ p, j ≤ p → p < i → cN (at' Ls (row.getD j 0)) (at' Ls (row.getD i 0)) ≤ cN (at' Ls (row.getD p 0)) (at' Ls (row.getD (p + 1) 0)) := by
    intro d
    induction d with
    | zero =>
      intro i e hi
      subst e
      refine ⟨⟨j, by omega, by omega, rfl⟩, fun p h1 h2 => ?_⟩
      have : p = j := by omega
      subst this
      exact Nat.le_refl _
    | succ d ih =>
      intro i e hi
      obtain ⟨⟨p, p1, p2, p3⟩, hmin⟩ := ih (j + 1 + d) rfl (by omega)
      have ei : i = (j + 1 + d) + 1 := by omega
      have st := cN_step (lb j (by omega)) (lb (j + 1 + d) (by omega)) (lb i hi) (hle j (j + 1 + d) (by omega) (by omega)) (hle (j + 1 + d) i (by omega) hi)
      subst ei
      refine ⟨?_, fun q q1 q2 => ?_⟩
      · by_cases h : cN (at' Ls (row.getD j 0)) (at' Ls (row.getD (j + 1 + d) 0)) ≤ cN (at' Ls (row.getD (j + 1 + d) 0)) (at' Ls (row.getD (j + 1 + d + 1) 0))
        · exact ⟨p, p1, by omega, by rw [p3, st]; omega⟩
        · exact ⟨j + 1 + d, by omega, by omega, by rw [st]; omega⟩
      · rw [st]
        by_cases hq : q = j + 1 + d
        · subst hq; omega
        · have := hmin q q1 (by omega)
          omega
  obtain ⟨⟨p, p1, p2, p3⟩, hmin⟩ := main (i - j - 1) i (by omega) hi
  rw [me i j hi (by omega), me j i (by omega) hi, sy]
  refine ⟨⟨p, p1, p2, by rw [me p (p + 1) (by omega) (by omega), p3]⟩, fun q q1 q2 => ?_, rfl⟩
  rw [me q (q + 1) (by omega) (by omega)]
  have := hmin q q1 q2
  omega
end
end Mine
end P11

section P12
open PySem PySem.W PyProof.Rows PySem.Calls PySem.Builtin.Str
set_option maxRecDepth 100000
namespace Mine

section
variable {Ls : List (List Str)} (hL : ∀ L ∈ Ls, Lb L)
include hL
theorem stretch_ok {row : List Nat} (hI : InsR (fun i => ((Ls.map J).map labelsF).getD i []) (Ls.map J).length row) (sp step low high : Nat) (hsp : sp < row.length) (hst : step < (((Ls.map J).map ladderF).getD (row.getD sp 0) []).length)
    (h1 : low ≤ sp) (h2 : low = 0 ∨ udm (((Ls.map J).map Txt.upper).getD (row.getD (low - 1) 0) "") ((((Ls.map J).map ladderF).getD (row.getD sp 0) []).getD step "") = false) (h3 : low = sp ∨ udm (((Ls.map J).map Txt.upper).getD (row.getD low 0) "") ((((Ls.map J).map ladderF).getD (row.getD sp 0) []).getD step "") = true)
    (h4 : sp ≤ high) (h5 : high ≤ row.length) (h6 : high = sp ∨ udm (((Ls.map J).map Txt.upper).getD (row.getD (high - 1) 0) "") ((((Ls.map J).map ladderF).getD (row.getD sp 0) []).getD step "") = true) (h7 : high = row.length ∨ udm (((Ls.map J).map Txt.upper).getD (row.getD high 0) "") ((((Ls.map J).map ladderF).getD (row.getD sp 0) []).getD step "") = false) :
    ((List.range row.length).map fun q => decide (low ≤ q) && decide (q < high)) = row.map fun o => decide (((tabsF (Ls.map J)).getD (row.getD sp 0) []).getD o 0 ≤ step) := by
  obtain ⟨hl, hlt, hle⟩ := row_at hL hI
  have hos := hlt sp hsp
  have xo := at_lb hL hos
  have elad : ((Ls.map J).map ladderF).getD (row.getD sp 0) [] = ladderF (J (at' Ls (row.getD sp 0))) := by rw [List.map_map, at_map _ [] hos]; rfl
  rw [elad] at hst h2 h3 h6 h7
  have erung : (ladderF (J (at' Ls (row.getD sp 0)))).getD step "" = (ladderF (J (at' Ls (row.getD sp 0))))[step] := getD_of _ hst
  have hrung : (ladderF (J (at' Ls (row.getD sp 0))))[step]? = some ((ladderF (J (at' Ls (row.getD sp 0))))[step]) := List.getElem?_eq_getElem hst
  have f : ∀ q, q < row.length → udm (((Ls.map J).map Txt.upper).getD (row.getD q 0) "") ((ladderF (J (at' Ls (row.getD sp 0)))).getD step "") = lvl (at' Ls (row.getD sp 0)) (at' Ls (row.getD q 0)) step := fun q hq => by
    have hoq := hlt q hq
    rw [List.map_map, at_map (Txt.upper ∘ J) (Str.ofString "") hoq, erung]
    exact (rung_both xo (at_lb hL hoq) hrung).2
  have up : ∀ a b, a ≤ b → b ≤ sp → lvl (at' Ls (row.getD sp 0)) (at' Ls (row.getD a 0)) step = true → lvl (at' Ls (row.getD sp 0)) (at' Ls (row.getD b 0)) step = true := fun a b hab hb h => by
    have hm := lv_mid (hle a b hab (by omega)) (hle b sp hb hsp)
    have s1 := lv_symm (rv (at' Ls (row.getD a 0))) (rv (at' Ls (row.getD sp 0)))
    have s2 := lv_symm (rv (at' Ls (row.getD b 0))) (rv (at' Ls (row.getD sp 0)))
    unfold lvl at *
    have := of_decide_eq_true h
    exact decide_eq_true (by omega)
  have dn : ∀ a b, sp ≤ a → a ≤ b → b < row.length → lvl (at' Ls (row.getD sp 0)) (at' Ls (row.getD b 0)) step = true → lvl (at' Ls (row.getD sp 0)) (at' Ls (row.getD a 0)) step = true := fun a b ha hab hb h => by
    have hm := lv_mid (hle sp a ha (by omega)) (hle a b hab hb)
    unfold lvl at *
    have := of_decide_eq_true h
    exact decide_eq_true (by omega)
  have self : lvl (at' Ls (row.getD sp 0)) (at' Ls (row.getD sp 0)) step = true := by
    unfold lvl
    rw [lv_self, rv_len]
    exact decide_eq_true (by omega)
  have g2 : low = 0 ∨ lvl (at' Ls (row.getD sp 0)) (at' Ls (row.getD (low - 1) 0)) step = false := by
    by_cases e : low = 0
    · exact .inl e
    · rw [f (low - 1) (by omega)] at h2; exact h2
  have g3 : low = sp ∨ lvl (at' Ls (row.getD sp 0)) (at' Ls (row.getD low 0)) step = true := by
    by_cases e : low = sp
    · exact .inl e
    · rw [f low (by omega)] at h3; exact h3
  have g6 : high = sp ∨ lvl (at' Ls (row.getD sp 0)) (at' Ls (row.getD (high - 1) 0)) step = true := by
    by_cases e : high = sp
    · exact .inl e
    · rw [f (high - 1) (by omega)] at h6; exact h6
  have g7 : high = row.length ∨ lvl (at' Ls (row.getD sp 0)) (at' Ls (row.getD high 0)) step = false := by
    by_cases e : high = row.length
    · exact .inl e
    · rw [f high (by omega)] at h7; exact h7
  have hhi : sp < high := by
    by_cases e : high = sp
    · subst e
      rcases g7 with g7 | g7
      · omega
      · rw [self] at g7; cases g7
    · omega
  have both : ∀ q, q < row.length → (decide (low ≤ q) && decide (q < high)) = lvl (at' Ls (row.getD sp 0)) (at' Ls (row.getD q 0)) step := fun q hq => by
    cases hf : lvl (at' Ls (row.getD sp 0)) (at' Ls (row.getD q 0)) step with
    | true =>
      have a1 : low ≤ q := by
        rcases g2 with g2 | g2
        · omega
        · rcases Nat.lt_or_ge q low with h | h
          · rw [up q (low - 1) (by omega) (by omega) hf] at g2; cases g2
          · exact h
      have a2 : q < high := by
        rcases g7 with g7 | g7
        · omega
        · rcases Nat.lt_or_ge q high with h | h
          · exact h
          · rw [dn high q h4 h hq hf] at g7; cases g7
      rw [decide_eq_true a1, decide_eq_true a2]; rfl
    | false =>
      rw [Bool.and_eq_false_iff]
      by_cases hqs : q < sp
      · refine .inl (decide_eq_false fun a => ?_)
        rcases g3 with g3 | g3
        · omega
        · rw [up low q a (by omega) g3] at hf; cases hf
      · refine .inr (decide_eq_false fun a => ?_)
        rcases g6 with g6 | g6
        · omega
        · rw [dn q (high - 1) (by omega) (by omega) (by omega) g6] at hf; cases hf
  apply List.ext_getElem?
  intro q
  by_cases hq : q < row.length
  · rw [List.getElem?_map, List.getElem?_range hq, List.getElem?_map, List.getElem?_eq_getElem hq]
    show some (decide (low ≤ q) && decide (q < high)) = some (decide (((tabsF (Ls.map J)).getD (row.getD sp 0) []).getD row[q] 0 ≤ step))
    rw [both q hq]
    congr 1
    have hoq := hlt q hq
    rw [getD_of _ hq] at hoq ⊢
    unfold tabsF
    rw [map_labels hL, List.map_map, List.map_map, at_map _ [] hos]
    show _ = decide (((Ls.map rv).map (placeF (ladderF (J (at' Ls (row.getD sp 0)))))).getD row[q] 0 ≤ step)
    rw [List.map_map, at_map _ 0 hoq]
    show _ = decide (placeF (ladderF (J (at' Ls (row.getD sp 0)))) (rv (at' Ls row[q])) ≤ step)
    rw [place_eq xo (at_lb hL hoq)]
    unfold lvl
    have : step < rn (at' Ls (row.getD sp 0)) := hst
    exact decide_eq_decide.mpr (by omega)
  · rw [List.getElem?_eq_none (by simp; omega), List.getElem?_eq_none (by simp; omega)]
theorem law_ok (n2 : 2 ≤ Ls.length) (n50 : Ls.length ≤ 50) : LawOk (Ls.map J) where
  host x hx := by
    obtain ⟨L, h, rfl⟩ := List.mem_map.mp hx
    exact hostOk (hL L h)
  n2 := by rw [List.length_map]; exact n2
  n50 := by rw [List.length_map]; exact n50
  chk x hx j y l p hy hl hp h1 h2 := by
    obtain ⟨L, h, rfl⟩ := List.mem_map.mp hx
    rw [map_labels hL] at hl
    rw [List.getElem?_map] at hl
    obtain ⟨N, hN, rfl⟩ := Option.map_eq_some_iff.mp hl
    rw [List.map_map, List.getElem?_map, hN] at hy
    have hy : Txt.upper (J N) = y := by simpa using hy
    subst hy
    exact chk_J (hL L h) (hL N (List.mem_of_getElem? hN)) hp h1 h2
  ord := ord_ok hL
  row row hI p hp hs := row_ok hL hI hp hs
  near row hI := near_ok hL hI
  stretch row hI sp step low high := stretch_ok hL hI sp step low high
end
theorem hostL_lb (n : Int) : Lb (hostL n) where
  ne h := by
    have := congrArg List.length h
    unfold hostL at this
    rw [lbls_length] at this
    simp at this
  le := by
    unfold hostL
    rw [lbls_length]
    have h0 := Int.fmod_nonneg_of_pos n (show (0 : Int) < 4 by decide)
    have h1 := Int.fmod_lt_of_pos n (show (0 : Int) < 4 by decide)
    omega
  mem l hl := labs_wds l (lbls_mem n _ l hl)
theorem lawOk (ns : List Int) : LawOk (hostsF ns) := by
  have e : hostsF ns = ((hostNums ns).map hostL).map J := by
    unfold hostsF
    rw [List.map_map]
    rfl
  rw [e]
  refine law_ok (fun L h => ?_) ?_ ?_
  · obtain ⟨n, _, rfl⟩ := List.mem_map.mp h
    exact hostL_lb n
  · rw [List.length_map]; unfold hostNums; simp
  · rw [List.length_map]; unfold hostNums; simp; omega
end Mine
end P12

section J1
open PySem PySem.W PyProof.Rows PySem.Calls
set_option maxRecDepth 100000
set_option maxHeartbeats 8000000
namespace Mine
theorem paired_ints {vs : List Value} {ns : List Int} (x : IntsAre vs ns) : Paired VI vs ns := by
  induction x with
  | nil => exact .nil
  | cons n t _ ih => exact .cons ⟨t, rfl⟩ ih
theorem roomC : Rm callerA (0 + 8) := ⟨rfl, by decide, by decide⟩
theorem tab0 {h : Heap} {c P : Addr} {q : Str} (x : CodeHd h c P ∧ h.get? P = some (tabObj #[])) : Tab h c P q := ⟨x.1, #[], x.2, trivial, fun _ => .inl rfl⟩
theorem noTab (w : World) : ∀ a o, (KK w).lookup a = some o → a ∉ tabs := by
  intro a o e m
  simp only [tabs, List.mem_cons, List.not_mem_nil, or_false] at m
  rcases m with rfl | rfl | rfl
  · rw [show (KK w).lookup 141 = none by rfl] at e; cases e
  · rw [show (KK w).lookup 131 = none by rfl] at e; cases e
  · rw [show (KK w).lookup 105 = none by rfl] at e; cases e
theorem join {prog p : Program} {loose : List Str} {mean mean' : ExcName → Option Value} {w : World} {s₁ : Shared} {mg mb : Str → Option Value} {fa a : Addr} {vs : List Value} {ns : List Int} {cw : ClaimW} {cl : Str → Option Addr} {args : List WData}
    (KX : (KK w).In s₁.heap) (T : Top p loose mean mg mb s₁.heap) (hT : TabsAt [(145, 141), (133, 131), (109, 105)] s₁.heap) (hg : s₁.gens = #[]) (hmg : mg (Str.ofString "law") = some (.ref fa))
    (hL : s₁.heap.IsList a vs.toArray) (hI : IntsAre vs ns) (hn : ns.length ≤ 63) (hr : ∀ cls, cw.raises args cls = false) (hp : cw.post args (.bool true) args = true) :
    codeAny (model prog w) callerA (.call (.ref fa) ⟨[.ref a], []⟩) (fun r s' => GoodW cw cl mean' args { s₁ with heap := ghostOf s₁.heap [(145, 141), (133, 131), (109, 105)] } r s' ∧ GrownAll [(145, 141), (133, 131), (109, 105)] s'.heap) s₁ := by
  have e := mg_of (n := Str.ofString "law") (v := .ref 151) KX T.g (by rfl)
  rw [hmg] at e
  cases e
  have I : TI s₁.heap := ⟨tab0 (hT _ (.head _)), tab0 (hT _ (.tail _ (.head _))), tab0 (hT _ (.tail _ (.tail _ (.head _))))⟩
  have W : Wd (KK w) mg mb s₁.heap := ⟨KX, T.g, T.b, T.builtins, T.nolimit, T.bmain, noTab w⟩
  refine codeAny_mono (call_law (prog := prog) (s := s₁) (tk := s₁.toks) (Q := fun v s' => v = .bool true ∧ ∃ h' tk', s' = St s₁ h' tk' ∧ Kp s₁.heap h' ∧ TI h') (E := fun _ _ => False) roomC W I ⟨a, vs, rfl, hL, paired_ints hI⟩ hn (lawOk ns)
    fun h' tk' k t => ⟨rfl, h', tk', rfl, k, t⟩) fun r s' q => ?_
  match r, q with
  | .ok (.ret v), q =>
    obtain ⟨rfl, h', tk', rfl, k, t⟩ := q
    refine ⟨⟨.inl ⟨_, _, _, rfl, hr, .bool true, hp, fun _ => ⟨.nil, nofun⟩⟩, fun b o e => ?_, rfl, hg⟩, ?_⟩
    · refine k b o (fun m => ?_) (of_hideAll _ e)
      have : (ghostOf s₁.heap [(145, 141), (133, 131), (109, 105)]).get? b = none := hideAll_none _ m
      rw [show (ghostOf s₁.heap [(145, 141), (133, 131), (109, 105)]).get? b = some o from e] at this
      cases this
    · obtain ⟨p1, e1, _⟩ := t.t1.tab
      obtain ⟨p2, e2, _⟩ := t.t2.tab
      obtain ⟨p3, e3, _⟩ := t.t3.tab
      exact ⟨⟨p1, e1⟩, ⟨p2, e2⟩, ⟨p3, e3⟩, trivial⟩
end Mine
end J1

open PySem PySem.W PyProof.Rows
set_option maxRecDepth 100000
set_option maxHeartbeats 8000000
theorem Mine.post_true (args : List WData) : PySem.Challenge.rw_nb0186_01.row.claim.post args (.bool true) args = true := by
  with_unfolding_all rfl
theorem PySem.Challenge.cw_nb0186_01_holds : PySem.Challenge.rw_nb0186_01.Holds := by
  refine Mine.hd ?_
  k_fill
  intro w s₀ s₁ mg mb G Y fa o pm cd doc dV kV ho hd hcd hD hmg hg args vals as hpre hlay hrd hwl hlo
  have KX := km_in_of Y
  km_tabs Y
  refine Ground.open G ?_
  intro T B D TE TW
  km_lay T hmg ho hd cd
  wrow_args hpre hlay hrd hwl hlo
  all_goals (first | refine callC_kw (enter_call ?_) | refine enter_call ?_)
  w_top on
  kn_posts
  rename_i hL _ _ _ hI _ hn _
  exact Mine.join KX T hT9 hg hmg hL hI (by omega) (fun _ => rfl) (Mine.post_true _)
