import PyProof.Rows.All
import Wide.All
import OpenK.AllK
import Wide.FinOn
import PySem.Challenge.RW_dp0022_01
section
open PySem
set_option Elab.async false
set_option maxRecDepth 100000
namespace Mine
open PySem.Sre

def codeA : Array Nat := #[14, 8, 1, 3, 3, 1, 1, 61, 0, 16, 61, 24, 16, 2, 2, 13, 11, 9, 0, 67043328, 126, 126, 0, 0, 0, 0, 0, 1, 1]

def isHex (c : Nat) : Bool := (48 ≤ c && c ≤ 57) || (65 ≤ c && c ≤ 70) || (97 ≤ c && c ≤ 102)

def hexWord (c : Nat) : Nat := codeA.getD (18 + c / 32) 0
theorem hexWord_eq (c : Nat) (h : c < 256) : (hexWord c).testBit (c % 32) = isHex c := by
  have : ∀ c < 256, (hexWord c).testBit (c % 32) = isHex c := by decide +kernel
  exact this c h
theorem isHex_lt {c : Nat} (h : isHex c = true) : c < 256 := by
  simp only [isHex, Bool.or_eq_true, Bool.and_eq_true, decide_eq_true_eq] at h
  omega

/-- the machine at the start of an attempt -/
def mS (text : Array Nat) (i : Nat) (first : Bool) (seen : Seen) : M :=
  { code := codeA, text := text, lim := text.size, start := i, lastStart := text.size, pc := 9, pos := i, handed := i, outermost := first, marks := #[],
    frames := [{ wait := .nextStart, pc := 9, pos := i, outermost := first }], weight := 1, seen := seen }

theorem runFor_add (a b : Nat) : ∀ m : M, M.runFor (a + b) m = M.runFor b (M.runFor a m) := by
  induction a with
  | zero => intro m; rw [Nat.zero_add]; rfl
  | succ a ih =>
    intro m
    rw [Nat.succ_add]
    by_cases h : m.outcome.isSome = true
    · have e : ∀ n, M.runFor n m = m := by
        intro n; cases n with
        | zero => rfl
        | succ n => simp [M.runFor, h]
      rw [e, e, e]
    · have e : ∀ n, M.runFor (n + 1) m = M.runFor n m.step := fun n => by simp [M.runFor, h]
      rw [e, e, ih]
theorem runFor_done {m : M} (h : m.outcome.isSome = true) (n : Nat) : M.runFor n m = m := by
  cases n with
  | zero => rfl
  | succ n => simp [M.runFor, h]

theorem inSet_hex (c : Nat) (seen : Seen) : ∃ seen', inSet codeA c codeA.size 17 true seen = .ok (isHex c, seen') := by
  have e : inSet codeA c codeA.size 17 true seen = if (c < 256 && (hexWord c).testBit (c % 32)) = true then .ok (true, seen.add 9) else inSet codeA c 28 26 true (seen.add 9) := by
    have e1 : codeA.size = 28 + 1 := rfl
    rw [e1]
    have e2 : hexWord c = codeA.getD (17 + (1 + c / 32)) 0 := by unfold hexWord; congr 1; omega
    rw [e2]
    rfl
  rw [e]
  by_cases hc : c < 256
  · rw [hexWord_eq c hc]
    cases h : isHex c with
    | true => exact ⟨_, by simp [hc]; rfl⟩
    | false => exact ⟨_, by simp [hc]; rfl⟩
  · have h : isHex c = false := by
      cases h : isHex c with
      | true => exact absurd (isHex_lt h) hc
      | false => rfl
    rw [h]
    exact ⟨_, by simp [hc]; rfl⟩

theorem accepts_hex (c : Nat) (seen : Seen) : ∃ seen', accepts codeA 15 c seen = .ok (isHex c, seen') := by
  obtain ⟨q, h⟩ := inSet_hex c seen
  exact ⟨q, h⟩


/-- the two signs behind a '=' -/
theorem run_hex (text : Array Nat) (p : Nat) (seen : Seen) : ∃ n seen', run codeA text 15 2 p 0 seen = .ok (n, seen') ∧ (n < 2 ↔ ¬ (isHex (text.getD p 0) = true ∧ isHex (text.getD (p + 1) 0) = true)) ∧ n ≤ 2 := by
  obtain ⟨q1, h1⟩ := accepts_hex (text.getD p 0) seen
  obtain ⟨q2, h2⟩ := accepts_hex (text.getD (p + 1) 0) q1
  have e1 : run codeA text 15 2 p 0 seen = (accepts codeA 15 (text.getD p 0) seen >>= fun (yes, seen) => if yes then run codeA text 15 1 (p + 1) 1 seen else pure (0, seen)) := rfl
  have e2 : ∀ q, run codeA text 15 1 (p + 1) 1 q = (accepts codeA 15 (text.getD (p + 1) 0) q >>= fun (yes, seen) => if yes then run codeA text 15 0 (p + 1 + 1) 2 seen else pure (1, seen)) := fun _ => rfl
  rw [e1, h1]
  cases ha : isHex (text.getD p 0) with
  | false => exact ⟨0, q1, rfl, by simp, by omega⟩
  | true =>
    have e3 : ((Except.ok (true, q1) : Except String (Bool × Seen)) >>= fun (yes, seen) => if yes then run codeA text 15 1 (p + 1) 1 seen else pure (0, seen)) = run codeA text 15 1 (p + 1) 1 q1 := rfl
    rw [e3, e2, h2]
    cases hb : isHex (text.getD (p + 1) 0) with
    | false => exact ⟨1, q2, rfl, by simp, by omega⟩
    | true => exact ⟨2, q2, rfl, by simp, by omega⟩

theorem step_lit_no {text : Array Nat} {i : Nat} {first : Bool} {seen : Seen} (h : ¬ (i < text.size ∧ text.getD i 0 = 61)) :
    ∃ seen', (mS text i first seen).step = { mS text i first seen' with answer := some false } := by
  have e : (mS text i first seen).step = if i ≥ text.size then { mS text i first (seen.add 16) with answer := some false } else
      match (Except.ok (text.getD i 0 == 61, seen.add 16) : Except String (Bool × Seen)) with
      | .error why => (mS text i first (seen.add 16)).stick why
      | .ok (false, seen) => { mS text i first seen with answer := some false }
      | .ok (true, seen) => { mS text i first seen with pc := 11, pos := i + 1 } := rfl
  rw [e]
  by_cases hi : i ≥ text.size
  · rw [if_pos hi]; exact ⟨_, rfl⟩
  · rw [if_neg hi]
    have hc : (text.getD i 0 == 61) = false := beq_eq_false_iff_ne.mpr fun q => h ⟨by omega, q⟩
    rw [hc]; exact ⟨_, rfl⟩
theorem step_lit_yes {text : Array Nat} {i : Nat} {first : Bool} {seen : Seen} (hi : i < text.size) (hc : text.getD i 0 = 61) :
    ∃ seen', (mS text i first seen).step = { mS text i first seen' with pc := 11, pos := i + 1 } := by
  have e : (mS text i first seen).step = if i ≥ text.size then { mS text i first (seen.add 16) with answer := some false } else
      match (Except.ok (text.getD i 0 == 61, seen.add 16) : Except String (Bool × Seen)) with
      | .error why => (mS text i first (seen.add 16)).stick why
      | .ok (false, seen) => { mS text i first seen with answer := some false }
      | .ok (true, seen) => { mS text i first seen with pc := 11, pos := i + 1 } := rfl
  rw [e, if_neg (by omega), hc]
  exact ⟨_, rfl⟩

def mB (text : Array Nat) (i : Nat) (first : Bool) (seen : Seen) : M := { mS text i first seen with pc := 11, pos := i + 1 }
theorem step_rep {text : Array Nat} {i : Nat} {first : Bool} {seen : Seen} :
    (mB text i first seen).step = if (2 : Int) > (text.size : Int) - ((i + 1 : Nat) : Int) then { mB text i first (seen.add 24) with answer := some false } else
      match run codeA text 15 (min 2 ((text.size : Int) - ((i + 1 : Nat) : Int)).toNat) (i + 1) 0 ((seen.add 24).add 13) with
      | .error why => (mB text i first (seen.add 24)).stick why
      | .ok (n, seen) => if n < 2 then { mB text i first seen with answer := some false } else
        ({ mB text i first seen with pos := i + 1 + n }).afterRun .giveBack n ((mB text i first seen).keep false) := rfl

theorem step_rep_no {text : Array Nat} {i : Nat} {first : Bool} {seen : Seen} (h : ¬ (i + 2 < text.size ∧ isHex (text.getD (i + 1) 0) = true ∧ isHex (text.getD (i + 2) 0) = true)) :
    ∃ seen', (mB text i first seen).step = { mB text i first seen' with answer := some false } := by
  rw [step_rep]
  by_cases hr : (2 : Int) > (text.size : Int) - ((i + 1 : Nat) : Int)
  · rw [if_pos hr]; exact ⟨_, rfl⟩
  · rw [if_neg hr]
    have hm : min 2 ((text.size : Int) - ((i + 1 : Nat) : Int)).toNat = 2 := by omega
    rw [hm]
    obtain ⟨n, q, e, hn, _⟩ := run_hex text (i + 1) ((seen.add 24).add 13)
    rw [e]
    have : n < 2 := hn.mpr fun c => h ⟨by omega, c.1, c.2⟩
    simp only [if_pos this]
    exact ⟨_, rfl⟩

def mC (text : Array Nat) (i : Nat) (first : Bool) (seen : Seen) : M :=
  { mS text i first seen with pc := 28, pos := i + 3, handed := i + 3, weight := 2, frames := [{ wait := .giveBack, pc := 11, pos := i + 3, outermost := first, count := 2, kept := { lastmark := -1, lastindex := -1, whole := false, marks := #[] } }, { wait := .nextStart, pc := 9, pos := i, outermost := first }] }
theorem step_rep_yes {text : Array Nat} {i : Nat} {first : Bool} {seen : Seen} (h1 : i + 2 < text.size) (h2 : isHex (text.getD (i + 1) 0) = true) (h3 : isHex (text.getD (i + 2) 0) = true) :
    ∃ seen', (mB text i first seen).step = mC text i first seen' := by
  rw [step_rep]
  rw [if_neg (by omega)]
  have hm : min 2 ((text.size : Int) - ((i + 1 : Nat) : Int)).toNat = 2 := by omega
  rw [hm]
  obtain ⟨n, q, e, hn, hn2⟩ := run_hex text (i + 1) ((seen.add 24).add 13)
  rw [e]
  have n2 : ¬ n < 2 := fun c => hn.mp c ⟨h2, h3⟩
  have n2' : n = 2 := by omega
  subst n2'
  exact ⟨q, rfl⟩

/-- no escape stands at i -/
def escAt (text : Array Nat) (i : Nat) : Prop := i + 2 < text.size ∧ text.getD i 0 = 61 ∧ isHex (text.getD (i + 1) 0) = true ∧ isHex (text.getD (i + 2) 0) = true

theorem fall_on {text : Array Nat} {i : Nat} {first : Bool} {seen : Seen} (x : M) (hx : x = { mS text i first seen with answer := some false } ∨ x = { mB text i first seen with answer := some false }) (hi : i < text.size) :
    x.step = mS text (i + 1) false seen := by
  have hw : (mS text i first seen).lastStart = text.size := rfl
  rcases hx with rfl | rfl
  · have e : ({ mS text i first seen with answer := some false } : M).step = if i < text.size then mS text (i + 1) false seen else { mS text i first seen with answer := some false, frames := [], weight := 0 } := rfl
    rw [e, if_pos hi]
  · have e : ({ mB text i first seen with answer := some false } : M).step = if i < text.size then mS text (i + 1) false seen else { mS text i first seen with answer := some false, frames := [], weight := 0 } := rfl
    rw [e, if_pos hi]

theorem turn_no {text : Array Nat} {i : Nat} {first : Bool} {seen : Seen} (h : ¬ escAt text i) (hi : i < text.size) : ∃ k seen', k ≤ 3 ∧ M.runFor k (mS text i first seen) = mS text (i + 1) false seen' := by
  by_cases hc : text.getD i 0 = 61
  · obtain ⟨q1, e1⟩ := step_lit_yes (first := first) (seen := seen) hi hc
    obtain ⟨q2, e2⟩ := step_rep_no (text := text) (i := i) (first := first) (seen := q1) fun c => h ⟨c.1, hc, c.2.1, c.2.2⟩
    refine ⟨3, q2, Nat.le_refl _, ?_⟩
    have r : M.runFor 3 (mS text i first seen) = M.runFor 2 (mS text i first seen).step := rfl
    rw [r, e1]
    have r2 : M.runFor 2 { mS text i first q1 with pc := 11, pos := i + 1 } = M.runFor 1 (mB text i first q1).step := rfl
    rw [r2, e2]
    have r3 : M.runFor 1 { mB text i first q2 with answer := some false } = ({ mB text i first q2 with answer := some false } : M).step := rfl
    rw [r3]
    exact fall_on _ (.inr rfl) hi
  · obtain ⟨q1, e1⟩ := step_lit_no (text := text) (i := i) (first := first) (seen := seen) fun c => hc c.2
    refine ⟨2, q1, by omega, ?_⟩
    have r : M.runFor 2 (mS text i first seen) = M.runFor 1 (mS text i first seen).step := rfl
    rw [r, e1]
    have r3 : M.runFor 1 { mS text i first q1 with answer := some false } = ({ mS text i first q1 with answer := some false } : M).step := rfl
    rw [r3]
    exact fall_on _ (.inl rfl) hi

theorem turn_end {text : Array Nat} {first : Bool} {seen : Seen} : ∃ k m, k ≤ 3 ∧ M.runFor k (mS text text.size first seen) = m ∧ m.outcome = some .failed := by
  obtain ⟨q1, e1⟩ := step_lit_no (text := text) (i := text.size) (first := first) (seen := seen) fun c => by omega
  refine ⟨3, _, Nat.le_refl _, rfl, ?_⟩
  have r : M.runFor 3 (mS text text.size first seen) = M.runFor 2 (mS text text.size first seen).step := rfl
  rw [r, e1]
  have r2 : M.runFor 2 { mS text text.size first q1 with answer := some false } = M.runFor 1 ({ mS text text.size first q1 with answer := some false } : M).step := rfl
  have e : ({ mS text text.size first q1 with answer := some false } : M).step = if text.size < text.size then mS text (text.size + 1) false q1 else { mS text text.size first q1 with answer := some false, frames := [], weight := 0 } := rfl
  rw [r2, e, if_neg (by omega)]
  rfl

def mEnd (text : Array Nat) (i : Nat) (first : Bool) (seen : Seen) : M :=
  { mS text i first seen with handed := i + 3, frames := [], weight := 0, answer := some true, outcome := some .matched }
theorem turn_yes {text : Array Nat} {i : Nat} {first : Bool} {seen : Seen} (h : escAt text i) : ∃ k seen', k ≤ 6 ∧ M.runFor k (mS text i first seen) = mEnd text i first seen' := by
  obtain ⟨h1, hc, h2, h3⟩ := h
  obtain ⟨q1, e1⟩ := step_lit_yes (first := first) (seen := seen) (by omega) hc
  obtain ⟨q2, e2⟩ := step_rep_yes (first := first) (seen := q1) h1 h2 h3
  refine ⟨6, q2.add 1, Nat.le_refl _, ?_⟩
  have r : M.runFor 6 (mS text i first seen) = M.runFor 5 (mS text i first seen).step := rfl
  rw [r, e1]
  have r2 : M.runFor 5 { mS text i first q1 with pc := 11, pos := i + 1 } = M.runFor 4 (mB text i first q1).step := rfl
  rw [r2, e2]
  cases first <;> rfl

theorem search_found {text : Array Nat} {j : Nat} (hj : escAt text j) : ∀ (d i : Nat) (first : Bool) (seen : Seen), i + d = j → (∀ k, i ≤ k → k < j → ¬ escAt text k) →
    ∃ n f seen', n ≤ 3 * d + 6 ∧ M.runFor n (mS text i first seen) = mEnd text j f seen' := by
  intro d
  induction d with
  | zero =>
    intro i first seen hi _
    have : i = j := by omega
    subst this
    obtain ⟨k, q, hk, e⟩ := turn_yes (first := first) (seen := seen) hj
    exact ⟨k, first, q, by omega, e⟩
  | succ d ih =>
    intro i first seen hi hn
    obtain ⟨k, q, hk, e⟩ := turn_no (first := first) (seen := seen) (hn i (Nat.le_refl _) (by omega)) (by have := hj.1; omega)
    obtain ⟨n, f, q', hn', e'⟩ := ih (i + 1) false q (by omega) fun k h1 h2 => hn k (by omega) h2
    exact ⟨k + n, f, q', by omega, by rw [runFor_add, e, e']⟩
theorem search_none {text : Array Nat} : ∀ (d i : Nat) (first : Bool) (seen : Seen), i + d = text.size → (∀ k, i ≤ k → ¬ escAt text k) →
    ∃ n m, n ≤ 3 * d + 3 ∧ M.runFor n (mS text i first seen) = m ∧ m.outcome = some .failed := by
  intro d
  induction d with
  | zero =>
    intro i first seen hi _
    have : i = text.size := by omega
    subst this
    obtain ⟨k, m, hk, e, o⟩ := turn_end (text := text) (first := first) (seen := seen)
    exact ⟨k, m, by omega, e, o⟩
  | succ d ih =>
    intro i first seen hi hn
    obtain ⟨k, q, hk, e⟩ := turn_no (first := first) (seen := seen) (hn i (Nat.le_refl _)) (by omega)
    obtain ⟨n, m, hn', e', o⟩ := ih (i + 1) false q (by omega) fun k h1 => hn k (by omega)
    exact ⟨k + n, m, by omega, by rw [runFor_add, e, e'], o⟩

theorem forSearch_eq (text : Array Nat) (i : Nat) : ∃ seen, forSearch codeA text 0 i text.size false =
    if (decide (i > text.size) || decide (text.size - i < 3)) = true then { mS text i true seen with lastStart := 0, frames := [], weight := 0, answer := some false } else mS text i true seen := by
  exact ⟨_, rfl⟩

theorem found {text : Array Nat} {i j : Nat} (hj : escAt text j) (hi : i ≤ j) (hn : ∀ k, i ≤ k → k < j → ¬ escAt text k) :
    ∃ n f seen', n ≤ 3 * text.size + 9 ∧ M.runFor n (forSearch codeA text 0 i text.size false) = mEnd text j f seen' := by
  obtain ⟨q, e⟩ := forSearch_eq text i
  have h1 := hj.1
  rw [e, if_neg (by simp; omega)]
  obtain ⟨n, f, q', h, e'⟩ := search_found hj (j - i) i true q (by omega) hn
  exact ⟨n, f, q', by omega, e'⟩
theorem notFound {text : Array Nat} {i : Nat} (hi : i ≤ text.size) (hn : ∀ k, i ≤ k → ¬ escAt text k) :
    ∃ n m, n ≤ 3 * text.size + 9 ∧ M.runFor n (forSearch codeA text 0 i text.size false) = m ∧ m.outcome = some .failed := by
  obtain ⟨q, e⟩ := forSearch_eq text i
  rw [e]
  split
  · exact ⟨1, _, by omega, rfl, rfl⟩
  · obtain ⟨n, m, h, e', o⟩ := search_none (text.size - i) i true q (by omega) hn
    exact ⟨n, m, by omega, e', o⟩

section
variable {M₀ : Model} {A : Around} {E : Value → Shared → Prop} {s : Shared}
open Builtin.Re

theorem wpAny_reDrive {Q : M → Shared → Prop} : ∀ (turns n : Nat) (m m' : M), M.runFor n m = m' → m'.outcome.isSome = true → n ≤ 4 * turns → 0 < turns → Q m' s → wpAny M₀ A (reDrive turns m) Q E s := by
  intro turns
  induction turns with
  | zero => intro n m m' _ _ _ h; omega
  | succ turns ih =>
    intro n m m' hr ho hn _ hQ
    unfold reDrive
    by_cases h4 : n ≤ 4
    · have e : M.runFor reTurnSteps m = m' := by
        show M.runFor 4 m = m'
        have : 4 = n + (4 - n) := by omega
        rw [this, runFor_add, hr, runFor_done ho]
      simp only [e, ho, if_true]
      exact wpAny_pure hQ
    · have e : M.runFor (n - 4) (M.runFor reTurnSteps m) = m' := by
        show M.runFor (n - 4) (M.runFor 4 m) = m'
        rw [← runFor_add, show 4 + (n - 4) = n by omega, hr]
      simp only
      split
      · rename_i hs
        rw [runFor_done hs] at e
        rw [e]; exact wpAny_pure hQ
      · exact wpAny_bind (wpAny_rule (ih (n - 4) _ m' e ho (by omega) (by omega) hQ))

theorem wpAny_rules {α : Type} {l : List α} {c : α → Bool} {tag : α → String} {Q : PUnit → Shared → Prop} (h : Q ⟨⟩ s) :
    wpAny M₀ A (forIn (m := Sem) l PUnit.unit fun i _ => if c i = true then (do rule (tag i); pure (ForInStep.yield PUnit.unit)) else pure (ForInStep.yield PUnit.unit)) Q E s := by
  induction l with
  | nil => exact wpAny_pure h
  | cons a l ih =>
    rw [List.forIn_cons]
    refine wpAny_bind ?_
    split
    · exact wpAny_bind (wpAny_rule (wpAny_pure ih))
    · exact wpAny_pure ih

theorem wpAny_reRunToEnd_found {text : Array Nat} {i j : Nat} (hj : escAt text j) (hi : i ≤ j) (hn : ∀ k, i ≤ k → k < j → ¬ escAt text k) (hsz : text.size ≤ sizeLine) {Q : Option M → Shared → Prop}
    (h : ∀ f seen, Q (some (mEnd text j f seen)) s) : wpAny M₀ A (reRunToEnd (forSearch codeA text 0 i text.size false)) Q E s := by
  obtain ⟨n, f, q, h1, h2⟩ := found hj hi hn
  unfold reRunToEnd
  refine wpAny_bind (wpAny_reDrive (2 ^ 64) n _ _ h2 rfl ?_ (by decide) ?_)
  · have : sizeLine = 16777216 := by decide
    omega
  · refine wpAny_bind ?_
    refine wpAny_rules (c := fun i => (mEnd text j f q).seen.has i) (tag := fun i => Sre.names.getD i "") ?_
    exact wpAny_pure (h f q)
theorem wpAny_reRunToEnd_none {text : Array Nat} {i : Nat} (hi : i ≤ text.size) (hn : ∀ k, i ≤ k → ¬ escAt text k) (hsz : text.size ≤ sizeLine) {Q : Option M → Shared → Prop}
    (h : Q none s) : wpAny M₀ A (reRunToEnd (forSearch codeA text 0 i text.size false)) Q E s := by
  obtain ⟨n, m, h1, h2, h3⟩ := notFound hi hn
  unfold reRunToEnd
  refine wpAny_bind (wpAny_reDrive (2 ^ 64) n _ _ h2 (by rw [h3]; rfl) ?_ (by decide) ?_)
  · have : sizeLine = 16777216 := by decide
    omega
  · refine wpAny_bind ?_
    refine wpAny_rules (c := fun i => m.seen.has i) (tag := fun i => Sre.names.getD i "") ?_
    rw [h3]
    exact wpAny_pure h
end
end Mine
end

section
open PySem
set_option Elab.async false
set_option maxRecDepth 100000
namespace Mine
def hexVal (c : Nat) : Nat := if c ≤ 57 then c - 48 else if c ≤ 70 then c - 55 else c - 87
def hexs : List Nat := [48, 49, 50, 51, 52, 53, 54, 55, 56, 57, 65, 66, 67, 68, 69, 70, 97, 98, 99, 100, 101, 102]
theorem mem_hexs {c : Nat} (h : isHex c = true) : c ∈ hexs := by
  have : ∀ c < 256, isHex c = true → c ∈ hexs := by decide +kernel
  exact this c (isHex_lt h) h
def hexPairs : List (Nat × Nat) := hexs.flatMap fun b => hexs.map fun c => (b, c)
theorem hex_pairs {α : Type} {f g : Nat → Nat → α} (h : hexPairs.map (fun p => f p.1 p.2) = hexPairs.map (fun p => g p.1 p.2)) {b c : Nat} (hb : isHex b = true) (hc : isHex c = true) : f b c = g b c :=
  List.map_inj_left.mp h (b, c) (List.mem_flatMap.mpr ⟨b, mem_hexs hb, List.mem_map.mpr ⟨c, mem_hexs hc, rfl⟩⟩)

theorem hex_all {α : Type} {f g : Nat → Nat → α} (h : hexPairs.map (fun p => f p.1 p.2) = hexPairs.map (fun p => g p.1 p.2)) : ∀ (b c : Nat), isHex b = true → isHex c = true → f b c = g b c := fun _ _ hb hc => hex_pairs h hb hc
theorem wpAny_eq {α : Type} {M : Model} {A : Around} {E : Value → Shared → Prop} {s : Shared} {t t' : Sem α} {Q : α → Shared → Prop} (e : t = t') (h : wpAny M A t' Q E s) : wpAny M A t Q E s := e ▸ h
theorem args_object_init_3 (obj a b : Value) : argsOk "object.__init__" ⟨[obj, a, b], []⟩ := by unfold argsOk; kernel_rfl
theorem typeCall_int_2 (a b : Value) : checkTypeCall "int" ⟨[a, b], []⟩ = pure () := by kernel_rfl
theorem newCall_int_2 (a b : Value) : checkBuiltinCall "int.__new__" ⟨[.type "int", a, b], []⟩ = pure () := by kernel_rfl

theorem gives_int16 (b c : Nat) (t u : Tok) (hb : isHex b = true) (hc : isHex c = true) : Gives (Builtin.«int.__new__» ⟨[.type "int", .str ⟨#[b, c]⟩ t, .int 16 u], []⟩) (.int ((16 * hexVal b + hexVal c : Nat) : Int)) :=
  .of_wp fun M A E s Q h => by
    obtain ⟨hp, g, d, tk, os⟩ := s
    have f1 := F.conv_sub_int
    have f2 := F.madeHere_int
    repeat (any_goals (first | assumption | wp_step))
    refine wpAny_eq (t' := mkInt ((16 * hexVal b + hexVal c : Nat) : Int)) ?hh ?_
    (case hh =>
      clear h
      revert b c
      refine hex_all ?_
      kernel_rfl)
    repeat (any_goals (first | assumption | wp_step))
    exact ⟨_, rfl, h⟩
section
variable {prog : Program} {w : World} {A : Around} {E : Value → Shared → Prop} {s : Shared}
theorem call_int16 {b c : Nat} {t u : Tok} {Q : Value → Shared → Prop} (hb : isHex b = true) (hc : isHex c = true) (h : Q (.int ((16 * hexVal b + hexVal c : Nat) : Int) s.toks) { s with toks := s.toks + 1 }) :
    wpAny (model prog w) A (call (.type "int") [.str ⟨#[b, c]⟩ t, .int 16 u]) Q E s :=
  callType_new F.called_int F.newNe_int (typeCall_int_2 _ _) (newCall_int_2 _ _) (fun obj => args_object_init_3 obj _ _) F.entry_int_new (gives_int16 b c t u hb hc).meets
    (show (Made.int _).post _ s from ⟨rfl, h⟩)
end
end Mine
end

section
open PySem
set_option Elab.async false
set_option maxRecDepth 100000
namespace Mine
open Builtin Builtin.Str PySem.StrLaws

/-- a text by its signs -/
def tx (l : List Nat) : Str := ⟨l.toArray⟩
theorem tx_cps (l : List Nat) : (tx l).cps = l.toArray := rfl
theorem tx_list (l : List Nat) : (tx l).cps.toList = l := by simp [tx]
theorem tx_len (l : List Nat) : (tx l).length = l.length := by simp [tx, Str.length]
theorem tx_of (x : Str) : tx x.cps.toList = x := by cases x; simp [tx]
theorem tx_inj {a b : List Nat} (h : tx a = tx b) : a = b := by
  have := congrArg (fun x => x.cps.toList) h
  simpa [tx] using this
theorem tx_app (a b : List Nat) : tx a ++ tx b = tx (a ++ b) := by
  apply Str.ext'; simp [tx, Str.cps_append]
theorem tx_beq (a b : List Nat) : (tx a == tx b) = (a == b) := by
  rw [Bool.eq_iff_iff]
  simp only [beq_iff_eq]
  exact ⟨tx_inj, fun h => by rw [h]⟩
theorem tx_bne (a b : List Nat) : (tx a != tx b) = (a != b) := by simp only [bne, tx_beq]
theorem strSub_tx (l : List Nat) (i j : Nat) : strSub (tx l) i j = tx ((l.drop i).take (j - i)) := by
  rw [← tx_of (strSub (tx l) i j), strSub_toList, tx_list]

/-! slices -/
def clip (n : Nat) (d : Nat) : Option Int → Nat
  | none => d
  | some i => (max 0 (min (if i < 0 then i + n else i) (n : Int))).toNat
def sl (l : List Nat) (lo hi : Option Int) : List Nat := (l.drop (clip l.length 0 lo)).take (clip l.length l.length hi - clip l.length 0 lo)
theorem clip_le (n d : Nat) (h : d ≤ n) : ∀ v, clip n d v ≤ n
  | none => h
  | some i => by simp only [clip]; omega
theorem slice_idx (lo hi : Option Int) (n : Nat) : strSliceIndices lo hi 1 n = (List.range (clip n n hi - clip n 0 lo)).map (fun k => clip n 0 lo + k) := by
  have key : ∀ a b : Nat, sliceRange (a : Int) (b : Int) 1 = (List.range (b - a)).map (fun k => a + k) := by
    intro a b
    simp only [sliceRange, show ((1 : Int) > 0) = True from by simp, if_true]
    by_cases hlt : (a : Int) < b
    · have e3 : (((b : Int) - a + 1 - 1) / 1).toNat = b - a := by simp
      simp only [hlt, if_true, e3]
      refine List.map_congr_left fun k _ => ?_
      omega
    · have : b - a = 0 := by omega
      simp [hlt, this]
  have cl : ∀ (v : Option Int) (d : Nat), (match v with | none => (d : Int) | some i => if (1 : Int) > 0 then max 0 (min (if i < 0 then i + (n : Int) else i) (n : Int)) else max (-1) (min (if i < 0 then i + (n : Int) else i) ((n : Int) - 1))) = ((clip n d v : Nat) : Int) := by
    intro v d
    cases v with
    | none => rfl
    | some i => simp only [clip, show ((1 : Int) > 0) = True from by simp, if_true]; omega
  have e : strSliceIndices lo hi 1 n = sliceRange ((clip n 0 lo : Nat) : Int) ((clip n n hi : Nat) : Int) 1 := by
    rw [← cl lo 0, ← cl hi n]; rfl
  rw [e, key]
theorem slice_tx (l : List Nat) (lo hi : Option Int) : Txt.slice (tx l) lo hi = tx (sl l lo hi) := by
  have h1 : clip l.length l.length hi ≤ l.length := clip_le _ _ (Nat.le_refl _) hi
  have h2 : clip l.length 0 lo ≤ l.length := clip_le _ _ (Nat.zero_le _) lo
  have hp := picks l (clip l.length l.length hi - clip l.length 0 lo) (clip l.length 0 lo) (by omega)
  unfold Txt.slice
  rw [tx_len, slice_idx]
  split
  · rename_i h
    have hl : clip l.length l.length hi - clip l.length 0 lo = l.length := by simpa using h
    congr 1
    unfold sl
    rw [hl]
    have : clip l.length 0 lo = 0 := by omega
    rw [this]; simp
  · apply Str.ext'
    show (List.filterMap _ _).toArray = (sl l lo hi).toArray
    congr 1
    refine Eq.trans ?_ hp
    simp [tx]

/-! join -/
def jn (sep : List Nat) : List (List Nat) → List Nat
  | [] => []
  | [p] => p
  | p :: q :: r => p ++ sep ++ jn sep (q :: r)
theorem join_tx (sep : List Nat) : ∀ ps : List (List Nat), Str.join (tx sep) (ps.map tx) = tx (jn sep ps)
  | [] => rfl
  | [p] => rfl
  | p :: q :: r => by
    show tx p ++ tx sep ++ Str.join (tx sep) ((q :: r).map tx) = _
    rw [join_tx sep (q :: r), tx_app, tx_app]; rfl
theorem glued_tx (sep : List Nat) (ps : List (List Nat)) : glued (tx sep) (ps.map tx) = tx (jn sep ps) := by rw [glued_eq_join, join_tx]
theorem jn_nil (ps : List (List Nat)) : jn [] ps = ps.flatten := by
  induction ps with
  | nil => rfl
  | cons p r ih =>
    cases r with
    | nil => simp [jn]
    | cons q r => rw [jn, ih]; simp
theorem jn_cons (sep p : List Nat) (ps : List (List Nat)) (h : ps ≠ []) : jn sep (p :: ps) = p ++ sep ++ jn sep ps := by
  cases ps with
  | nil => exact absurd rfl h
  | cons q r => rfl

/-! cutting at a text -/
def consHead (c : Nat) : List (List Nat) → List (List Nat)
  | [] => [[c]]
  | p :: ps => (c :: p) :: ps
def spl (y : List Nat) : List Nat → List (List Nat)
  | [] => [[]]
  | c :: r => if y.isPrefixOf (c :: r) then [] :: spl y (r.drop (y.length - 1)) else consHead c (spl y r)
termination_by l => l.length
decreasing_by all_goals (simp only [List.length_drop, List.length_cons]; omega)
theorem spl_ne (y l : List Nat) : spl y l ≠ [] := by
  cases l with
  | nil => simp [spl]
  | cons c r =>
    rw [spl]
    split
    · simp
    · cases h : spl y r <;> simp [consHead]
theorem spl_nil (y : List Nat) : spl y [] = [[]] := by rw [spl]
theorem spl_hit {y l : List Nat} (hy : y ≠ []) (h : y.isPrefixOf l = true) : spl y l = [] :: spl y (l.drop y.length) := by
  cases l with
  | nil => cases y with
    | nil => exact absurd rfl hy
    | cons a b => simp at h
  | cons c r =>
    rw [spl, if_pos h]
    cases y with
    | nil => exact absurd rfl hy
    | cons a b => simp
theorem spl_miss {y r : List Nat} {c : Nat} (h : y.isPrefixOf (c :: r) = false) : spl y (c :: r) = consHead c (spl y r) := by
  rw [spl, if_neg (by rw [h]; exact Bool.false_ne_true)]

theorem subAt_tx (l y : List Nat) (i : Nat) : subAt (tx l) (tx y) i = y.isPrefixOf (l.drop i) := by
  rw [subAt_eq, tx_list, tx_list, tx_len]
  rw [Bool.eq_iff_iff, beq_iff_eq, List.isPrefixOf_iff_prefix]
  constructor
  · intro h; rw [← h]; exact List.take_prefix _ _
  · intro h; exact (List.prefix_iff_eq_take.mp h).symm
theorem at_tx (l y : List Nat) (i : Nat) (hy : y ≠ []) : At (tx l) (tx y) (tx l).length i ↔ y.isPrefixOf (l.drop i) = true := by
  unfold At
  rw [subAt_tx]
  constructor
  · exact fun h => h.2
  · intro h
    refine ⟨?_, h⟩
    have := (List.isPrefixOf_iff_prefix.mp h).length_le
    rw [List.length_drop] at this
    rw [tx_len, tx_len]
    cases y with
    | nil => exact absurd rfl hy
    | cons a b => simp only [List.length_cons] at this ⊢; omega

theorem spl_run (y l : List Nat) (hy : y ≠ []) : ∀ (d a c : Nat), a + d = c → (∀ k, a ≤ k → k < c → y.isPrefixOf (l.drop k) = false) → y.isPrefixOf (l.drop c) = true →
    spl y (l.drop a) = ((l.drop a).take d) :: spl y (l.drop (c + y.length)) := by
  intro d
  induction d with
  | zero =>
    intro a c hac _ hc
    have : a = c := by omega
    subst this
    rw [spl_hit hy hc, List.drop_drop]; simp
  | succ d ih =>
    intro a c hac hno hc
    have hlt : a < l.length := by
      have := (List.isPrefixOf_iff_prefix.mp hc).length_le
      rw [List.length_drop] at this
      cases y with
      | nil => exact absurd rfl hy
      | cons p q => simp only [List.length_cons] at this; omega
    have e : l.drop a = l[a] :: l.drop (a + 1) := List.drop_eq_getElem_cons hlt
    have h1 := hno a (Nat.le_refl _) (by omega)
    rw [e] at h1 ⊢
    rw [spl_miss h1, ih (a + 1) c (by omega) (fun k h2 h3 => hno k (by omega) h3) hc]
    rfl
theorem spl_rest (y l : List Nat) (_ : y ≠ []) : ∀ (d a : Nat), a + d = l.length → (∀ k, a ≤ k → y.isPrefixOf (l.drop k) = false) → spl y (l.drop a) = [l.drop a] := by
  intro d
  induction d with
  | zero => intro a ha _; rw [List.drop_of_length_le (by omega)]; exact spl_nil y
  | succ d ih =>
    intro a ha hno
    have hlt : a < l.length := by omega
    have e : l.drop a = l[a] :: l.drop (a + 1) := List.drop_eq_getElem_cons hlt
    have h1 := hno a (Nat.le_refl _)
    rw [e] at h1 ⊢
    rw [spl_miss h1, ih (a + 1) (by omega) fun k h2 => hno k (by omega)]
    rfl
theorem parts_spl (l y : List Nat) (hy : y ≠ []) : ∀ (cuts : List Nat) (a f : Nat), a ≤ l.length → ChainG (tx l) (tx y) (tx l).length a cuts f → (∀ k, f ≤ k → ¬ At (tx l) (tx y) (tx l).length k) →
    partsFrom (tx l) (tx y).length a cuts = (spl y (l.drop a)).map tx
  | [], a, f, ha, hc, hno => by
    obtain rfl : a = f := (show f = a from hc).symm
    have hno' : ∀ k, a ≤ k → y.isPrefixOf (l.drop k) = false := fun k hk => by
      cases h : y.isPrefixOf (l.drop k) with
      | false => rfl
      | true => exact absurd ((at_tx l y k hy).mpr h) (hno k hk)
    rw [spl_rest y l hy (l.length - a) a (by omega) hno']
    show [strSub (tx l) a (tx l).length] = _
    rw [strSub_tx, tx_len, List.take_of_length_le (by simp)]
    rfl
  | c :: cuts, a, f, ha, hc, hno => by
    obtain ⟨h1, h2, h3, h4⟩ : a ≤ c ∧ At (tx l) (tx y) (tx l).length c ∧ (∀ k, a ≤ k → k < c → ¬ At (tx l) (tx y) (tx l).length k) ∧ ChainG (tx l) (tx y) (tx l).length (c + (tx y).length) cuts f := hc
    have hle : c + (tx y).length ≤ l.length := by have := h2.1; rw [tx_len] at this; rw [tx_len] at this ⊢; exact this
    have ih := parts_spl l y hy cuts (c + (tx y).length) f hle h4 hno
    have hno' : ∀ k, a ≤ k → k < c → y.isPrefixOf (l.drop k) = false := fun k hk hk' => by
      cases h : y.isPrefixOf (l.drop k) with
      | false => rfl
      | true => exact absurd ((at_tx l y k hy).mpr h) (h3 k hk hk')
    rw [spl_run y l hy (c - a) a c (by omega) hno' ((at_tx l y c hy).mp h2)]
    show strSub (tx l) a c :: partsFrom (tx l) (tx y).length (c + (tx y).length) cuts = _
    rw [ih, strSub_tx, tx_len]
    rfl
theorem between_spl (l y : List Nat) (hy : y ≠ []) : partsBetween (tx l) (occurrences (tx l) (tx y) 0 (tx l).length ((tx l).length + 1)) (tx y).length = (spl y l).map tx := by
  obtain ⟨f, hc, hno⟩ := occ_tight (tx l) (tx y) (by rw [tx_len]; exact List.length_pos_iff.mpr hy)
  rw [partsBetween_eq]
  exact parts_spl l y hy _ 0 f (Nat.zero_le _) hc hno
theorem replace_tx (l y z : List Nat) (hy : y ≠ []) : Txt.replace (tx l) (tx y) (tx z) = tx (jn z (spl y l)) := by
  unfold Txt.replace
  split
  · rename_i h
    have hyl : ((tx y).length == 0) = false := by rw [tx_len]; cases y with | nil => exact absurd rfl hy | cons a b => rfl
    rw [hyl] at h
    simp only [Bool.false_and, Bool.or_false] at h
    have e := between_spl l y hy
    rw [List.isEmpty_iff.mp h] at e
    have e' : [tx l] = (spl y l).map tx := by rw [← e]; simp [partsBetween, strSub_tx, tx_len]
    rw [← glued_tx, ← e']; rfl
  · rw [between_spl l y hy, glued_tx]
theorem split_tx (l y : List Nat) (hy : y ≠ []) : Txt.split (tx l) (tx y) = (spl y l).map tx := by
  have e := between_spl l y hy
  have none : occurrences (tx l) (tx y) 0 (tx l).length ((tx l).length + 1) = [] → [tx l] = (spl y l).map tx := fun h => by
    rw [h] at e; rw [← e]; simp [partsBetween, strSub_tx, tx_len]
  unfold Txt.split
  split
  · rename_i h
    refine none ?_
    rw [PySem.W.occ_nil_of_no (tx l) (tx y) _ fun i hi => ?_]
    rcases Bool.or_eq_true_iff.mp h with h | h
    · have := of_decide_eq_true h; omega
    · cases e : subAt (tx l) (tx y) i
      · rfl
      · have := PySem.W.kind_le (tx l) (tx y) e; have := of_decide_eq_true h; omega
  · split
    · rename_i h; exact none (List.isEmpty_iff.mp h)
    · exact e

/-! lines -/
abbrev isLB (c : Nat) : Bool := Unicode.isLineBreak c
def lns : List Nat → List (List Nat)
  | [] => []
  | c :: r => if isLB c then [] :: lns (if c == 13 && r.head? == some 10 then r.drop 1 else r) else consHead c (lns r)
termination_by l => l.length
decreasing_by all_goals (simp only [List.length_cons]; (try split) <;> (try simp only [List.length_drop]) <;> omega)
theorem lns_nil : lns [] = [] := by rw [lns]
theorem lns_brk {c : Nat} {r : List Nat} (h : isLB c = true) : lns (c :: r) = [] :: lns (if c == 13 && r.head? == some 10 then r.drop 1 else r) := by rw [lns, if_pos h]
theorem lns_go {c : Nat} {r : List Nat} (h : isLB c = false) : lns (c :: r) = consHead c (lns r) := by rw [lns, if_neg (by rw [h]; exact Bool.false_ne_true)]

theorem lns_run (l : List Nat) : ∀ (d a c : Nat), a + d = c → c < l.length → (∀ k, a ≤ k → k < c → isLB (l.getD k 0) = false) → isLB (l.getD c 0) = true →
    lns (l.drop a) = ((l.drop a).take d) :: lns (l.drop (if (l.getD c 0 == 13 && l[c + 1]? == some 10) = true then c + 2 else c + 1)) := by
  intro d
  induction d with
  | zero =>
    intro a c hac hlt _ hc
    obtain rfl : a = c := by omega
    have e : l.drop a = l[a] :: l.drop (a + 1) := List.drop_eq_getElem_cons hlt
    have g : l.getD a 0 = l[a] := by simp [List.getD, hlt]
    rw [g] at hc ⊢
    rw [e, lns_brk hc]
    have hh : (l.drop (a + 1)).head? = l[a + 1]? := by simp
    rw [hh]
    split
    · rw [List.drop_drop]; rfl
    · rfl
  | succ d ih =>
    intro a c hac hlt hno hc
    have hla : a < l.length := by omega
    have e : l.drop a = l[a] :: l.drop (a + 1) := List.drop_eq_getElem_cons hla
    have g : l.getD a 0 = l[a] := by simp [List.getD, hla]
    have h1 := hno a (Nat.le_refl _) (by omega)
    rw [g] at h1
    rw [e, lns_go h1, ih (a + 1) c (by omega) hlt (fun k h2 h3 => hno k (by omega) h3) hc]
    rfl
theorem lns_rest (l : List Nat) : ∀ (d a : Nat), a + (d + 1) = l.length → (∀ k, a ≤ k → k < l.length → isLB (l.getD k 0) = false) → lns (l.drop a) = [l.drop a] := by
  intro d
  induction d with
  | zero =>
    intro a ha hno
    have hlt : a < l.length := by omega
    have e : l.drop a = l[a] :: l.drop (a + 1) := List.drop_eq_getElem_cons hlt
    have g : l.getD a 0 = l[a] := by simp [List.getD, hlt]
    have h1 := hno a (Nat.le_refl _) hlt
    rw [g] at h1
    rw [e, lns_go h1, List.drop_of_length_le (by omega), lns_nil]; rfl
  | succ d ih =>
    intro a ha hno
    have hlt : a < l.length := by omega
    have e : l.drop a = l[a] :: l.drop (a + 1) := List.drop_eq_getElem_cons hlt
    have g : l.getD a 0 = l[a] := by simp [List.getD, hlt]
    have h1 := hno a (Nat.le_refl _) hlt
    rw [g] at h1
    rw [e, lns_go h1, ih (a + 1) (by omega) fun k h2 h3 => hno k (by omega) h3]
    rfl

theorem getD_tx (l : List Nat) (i : Nat) : (tx l).cps.getD i 0 = l.getD i 0 := by simp [tx, Array.getD_eq_getD_getElem?, List.getD]
theorem get_tx (l : List Nat) (i : Nat) : (tx l).cps[i]? = l[i]? := by simp [tx]

def LsInv (l : List Nat) (cur : Nat) (st : LsSt) : Prop :=
  (st.fst.toList.map fun (p : Nat × Nat × Nat) => strSub (tx l) p.1 p.2.1) ++ (lns (l.drop st.snd)).map tx = (lns l).map tx ∧ (∀ k, st.snd ≤ k → k < cur → isLB (l.getD k 0) = false) ∧ st.snd ≤ l.length
theorem ls_inv (l : List Nat) : ∀ (m cur : Nat) (st : LsSt), cur + m = l.length → LsInv l cur st → LsInv l l.length (Id.run (forIn (m := Id) (List.range' cur m) st (lsBody (tx l))))
  | 0, cur, st, hm, h => by
    obtain rfl : cur = l.length := by omega
    exact h
  | m + 1, cur, (lines, start), hm, h => by
    rw [List.range'_succ, List.forIn_cons]
    obtain ⟨h1, h2, h3⟩ := h
    unfold lsBody
    by_cases hc : (decide (start ≤ cur) && Unicode.isLineBreak ((tx l).cps.getD cur 0)) = true
    · simp only [hc, if_true]
      rw [Bool.and_eq_true, decide_eq_true_eq, getD_tx] at hc
      have hlt : cur < l.length := by omega
      have e := lns_run l (cur - start) start cur (by have := hc.1; omega) hlt h2 hc.2
      have en : (if (l.getD cur 0 == 13 && l[cur + 1]? == some 10) = true then cur + 2 else cur + 1) = lsNext (tx l) cur := by
        unfold lsNext; rw [getD_tx, get_tx]
      rw [en] at e
      refine ls_inv l m (cur + 1) (lines.push (start, cur, lsNext (tx l) cur), lsNext (tx l) cur) (by omega) ⟨?_, ?_, ?_⟩
      · rw [← h1, e]
        simp only [Array.toList_push, List.map_append, List.map_cons, List.map_nil, List.append_assoc, List.cons_append, List.nil_append]
        rw [strSub_tx]
      · intro k hk hk'
        have := (lsNext_bounds (tx l) cur).1
        have hk2 : lsNext (tx l) cur ≤ k := hk
        omega
      · show lsNext (tx l) cur ≤ l.length
        unfold lsNext
        rw [getD_tx, get_tx]
        split
        · rename_i hh
          rw [Bool.and_eq_true, beq_iff_eq, beq_iff_eq] at hh
          have := (List.getElem?_eq_some_iff.mp hh.2).1
          omega
        · omega
    · simp only [hc, if_false, Bool.false_eq_true]
      refine ls_inv l m (cur + 1) (lines, start) (by omega) ⟨h1, ?_, h3⟩
      intro k hk hk'
      by_cases hkc : k < cur
      · exact h2 k hk hkc
      · obtain rfl : k = cur := by omega
        rw [Bool.and_eq_true, decide_eq_true_eq, getD_tx] at hc
        cases hb : isLB (l.getD k 0) with
        | false => rfl
        | true => exact absurd ⟨hk, hb⟩ hc
theorem spans_tx (l : List Nat) : ((lineSpans (tx l)).map fun (p : Nat × Nat × Nat) => strSub (tx l) p.1 p.2.1) = (lns l).map tx := by
  rw [ls_eq, tx_len]
  have key := ls_inv l l.length 0 ((#[], 0) : LsSt) (by omega) ⟨by simp, fun k _ h => by omega, Nat.zero_le _⟩
  generalize Id.run (forIn (m := Id) (List.range' 0 l.length) ((#[], 0) : LsSt) (lsBody (tx l))) = st at key
  obtain ⟨lines, start⟩ := st
  obtain ⟨h1, h2, h3⟩ := key
  have h1' : (lines.toList.map fun (p : Nat × Nat × Nat) => strSub (tx l) p.1 p.2.1) ++ (lns (l.drop start)).map tx = (lns l).map tx := h1
  have h3' : start ≤ l.length := h3
  unfold lsEnd
  rw [← h1', tx_len]
  by_cases hs : start < l.length
  · simp only [hs, if_true]
    rw [lns_rest l (l.length - start - 1) start (by omega) h2]
    simp only [Array.toList_push, List.map_append, List.map_cons, List.map_nil]
    rw [strSub_tx, List.take_of_length_le (by simp)]
  · simp only [hs, if_false]
    rw [List.drop_of_length_le (by omega), lns_nil]; simp
theorem linesOf_tx (l : List Nat) : linesOf (tx l) = (lns l).map tx := by
  rw [← spans_tx]
  unfold linesOf lineCuts
  rw [List.map_map]
  apply List.map_congr_left
  intro ⟨i, j, k⟩ _
  rfl
theorem lines_tx (l : List Nat) : Txt.lines (tx l) = (lns l).map tx := by
  rw [← linesOf_tx]
  unfold Txt.lines
  split
  · rename_i h
    unfold linesOf
    rw [eq_of_beq h]
    simp [strSub_tx, tx_len]
  · rfl

/-! rstrip, endswith -/
def rst (l : List Nat) : List Nat := l.take (l.length - (l.reverse.takeWhile Unicode.isSpace).length)
theorem rstrip_tx (l : List Nat) : Txt.rstrip (tx l) = tx (rst l) := by
  have e : Txt.rstrip (tx l) = PySem.stripped Unicode.isSpace false true (tx l) := by
    unfold Txt.rstrip Txt.stripBy
    split
    · rename_i h
      simp only [stripSame, Bool.and_eq_true, beq_iff_eq] at h
      unfold PySem.stripped
      rw [h.2, h.1, strSub_tx, tx_len]; simp
    · rfl
  rw [e]
  unfold PySem.stripped
  show strSub (tx l) 0 ((tx l).length - (((tx l).cps.toList.drop 0).reverse.takeWhile Unicode.isSpace).length) = _
  rw [tx_list, tx_len, strSub_tx]
  rfl
theorem endswith_tx (l y : List Nat) : Txt.endswith (tx l) (tx y) = (decide (y.length ≤ l.length) && y.isPrefixOf (l.drop (l.length - y.length))) := by
  unfold Txt.endswith
  rw [tx_len, tx_len, subAt_tx, Nat.zero_add]
theorem in_one_tx (l : List Nat) (c : Nat) : (!(occurrences (tx l) (tx [c]) 0 (tx l).length 1).isEmpty) = decide (c ∈ l) := by
  have := found_one (tx l) c
  rw [tx_list] at this
  exact this
end Mine
end

section
open PySem PySem.W PyProof.Rows PySem.Calls
set_option Elab.async false
set_option maxRecDepth 100000
namespace Mine
abbrev PG : Program := PySem.Challenge.pw_dp0022_01
noncomputable def sx (l : List Nat) : Str := ⟨⟨l⟩⟩
noncomputable def bx (l : List Nat) : Array UInt8 := ⟨l.map UInt8.ofNat⟩
noncomputable def de (P : Params) (k : Str) (t : Nat) (v : Value) : DictEntry := ⟨PyData.keyHash P k, .str k t, v⟩
noncomputable def lf (o : Obj) : BT := .node o .nil .nil
noncomputable def hx (d : Nat) : Nat := cond (Nat.blt d 10) (d + 48) (d + 55)
noncomputable def qi (c : Nat) : Value := .str (sx [61, hx (c / 16), hx (c % 16)]) (4 * c + 327)
noncomputable def qm (n : Nat) : List Value := (List.range n).map qi
noncomputable def lst (n : Nat) (l : List Value) : Obj := ⟨.type "list", none, .seq ⟨l⟩ n, ⟨[]⟩⟩
noncomputable def hit : List Nat → Nat → Nat → Option Nat
  | [], _, _ => none
  | b :: r, t, c => cond (Nat.beq b c) (some t) (hit r (t + 3) c)
noncomputable def itm (bs : List Nat) (t c : Nat) : Value := match hit bs t c with
  | some t => .str (sx [c]) t
  | none => qi c
noncomputable def bs12 : List Nat := [45, 33, 42, 43, 47, 97, 98, 99, 100, 101, 102, 103, 104, 105, 106, 107, 108, 109, 110, 111, 112, 113, 114, 115, 116, 117, 118, 119, 120, 121, 122, 65, 66, 67, 68, 69, 70, 71, 72, 73, 74, 75, 76, 77, 78, 79, 80, 81, 82, 83, 84, 85, 86, 87, 88, 89, 90, 48, 49, 50, 51, 52, 53, 54, 55, 56, 57]
noncomputable def bs14 : List Nat := [32, 33, 34, 35, 36, 37, 38, 39, 40, 41, 42, 43, 44, 45, 46, 47, 48, 49, 50, 51, 52, 53, 54, 55, 56, 57, 58, 59, 60, 62, 63, 64, 65, 66, 67, 68, 69, 70, 71, 72, 73, 74, 75, 76, 77, 78, 79, 80, 81, 82, 83, 84, 85, 86, 87, 88, 89, 90, 91, 92, 93, 94, 95, 96, 97, 98, 99, 100, 101, 102, 103, 104, 105, 106, 107, 108, 109, 110, 111, 112, 113, 114, 115, 116, 117, 118, 119, 120, 121, 122, 123, 124, 125, 126, 9]
noncomputable def h44 (i : Nat) : List Value := (List.range 256).map (itm (bs12.take i) 1375)
noncomputable def h46 (i : Nat) : List Value := (List.range 256).map (itm (bs14.take i) 1580)
noncomputable def bd : List Stmt := behindTheImports PG
noncomputable def stAt (i : Nat) : Stmt := bd.getD i (.Pass ⟨0, 0, 0, 0⟩)
abbrev FnParts := Str × Arguments × List Stmt × Scope
noncomputable def parts : Stmt → FnParts
  | .FunctionDef n a b _ _ _ sc _ _ _ => (n, a, b, sc)
  | _ => (sx [], ⟨[], [], none, [], [], none, []⟩, [], default)
noncomputable def fnL (x : FnParts) (g : Nat) (df pm cd : Value) : FuncData := { name := x.1, qualname := x.1, params := x.2.1, body := .stmts x.2.2.1, scope := x.2.2.2, globals := g, closure := [], defaults := df, kwdefaults := .none, doc := .none, pyModule := pm, annotations := none, code := cd, closureTuple := .none, builtins := 0 }
noncomputable def fp15 : {x : FnParts // parts (stAt 15) = x} := by
  apply Subtype.mk
  conv => lhs; whnf
noncomputable def fp16 : {x : FnParts // parts (stAt 16) = x} := by
  apply Subtype.mk
  conv => lhs; whnf
noncomputable def fp17 : {x : FnParts // parts (stAt 17) = x} := by
  apply Subtype.mk
  conv => lhs; whnf
noncomputable def fp21 : {x : FnParts // parts (stAt 21) = x} := by
  apply Subtype.mk
  conv => lhs; whnf
noncomputable def fp22 : {x : FnParts // parts (stAt 22) = x} := by
  apply Subtype.mk
  conv => lhs; whnf
noncomputable def fp23 : {x : FnParts // parts (stAt 23) = x} := by
  apply Subtype.mk
  conv => lhs; whnf
noncomputable def fp24 : {x : FnParts // parts (stAt 24) = x} := by
  apply Subtype.mk
  conv => lhs; whnf
noncomputable def fp26 : {x : FnParts // parts (stAt 26) = x} := by
  apply Subtype.mk
  conv => lhs; whnf
noncomputable def fp27 : {x : FnParts // parts (stAt 27) = x} := by
  apply Subtype.mk
  conv => lhs; whnf
noncomputable def env : Env := { scope := PG.main.scope, locals := mainNs, globals := mainNs, cells := [], code := .ref 30, frame := some 31 }
noncomputable def cE : Code := .body bd env
noncomputable def p0 : Pos := ⟨0, 0, 0, 0⟩
noncomputable def fB : List Frame := [topFrame p0]
noncomputable def o1 (P : Params) : Obj := ⟨.type "dict", none, .dict ⟨[de P (sx [98, 117, 105, 108, 116, 105, 110, 115]) 162 (.ref 4), de P (sx [95, 95, 109, 97, 105, 110, 95, 95]) 163 (.ref 5), de P (sx [95, 115, 114, 101]) 244 (.ref 12)]⟩ 3, ⟨[]⟩⟩
noncomputable def o2 (P : Params) : Obj := ⟨.none, none, .dict ⟨[de P (sx [105, 109, 112, 111, 114, 116, 46, 108, 111, 97, 100, 101, 100, 46, 95, 115, 114, 101]) 183 (.bool true), de P (sx [99, 108, 97, 115, 115, 46, 95, 102, 114, 111, 122, 101, 110, 95, 105, 109, 112, 111, 114, 116, 108, 105, 98, 46, 66, 117, 105, 108, 116, 105, 110, 73, 109, 112, 111, 114, 116, 101, 114]) 185 (.ref 14), de P (sx [119, 97, 116, 99, 104, 101, 100, 46, 105, 109, 112, 111, 114, 116]) 206 (.ref 18), de P (sx [99, 108, 97, 115, 115, 46, 95, 102, 114, 111, 122, 101, 110, 95, 105, 109, 112, 111, 114, 116, 108, 105, 98, 46, 77, 111, 100, 117, 108, 101, 83, 112, 101, 99]) 216 (.ref 22), de P (sx [115, 121, 115, 46, 109, 111, 100, 117, 108, 101, 115, 46, 98, 111, 111, 107, 101, 100, 45, 101, 112, 111, 99, 104]) 245 (.int 3 0), de P (sx [105, 109, 112, 111, 114, 116, 46, 108, 97, 116, 101, 114, 45, 108, 97, 105, 100, 46, 95, 115, 114, 101]) 270 (.bool true), de P (sx [119, 97, 116, 99, 104, 101, 100, 46, 108, 105, 98, 114, 97, 114, 121]) 272 (.ref 27), de P (sx [119, 97, 116, 99, 104, 101, 100, 46, 108, 105, 98, 114, 97, 114, 121, 45, 111, 98, 106, 101, 99, 116, 115]) 0 (.str (sx [12]) 0), de P (sx [119, 97, 116, 99, 104, 101, 100, 46, 108, 105, 98, 114, 97, 114, 121, 45, 100, 101, 101, 112, 46, 95, 115, 114, 101]) 273 (.str (sx [4, 0, 0, 11, 4, 0, 0, 11, 4, 0, 0, 3, 4, 0, 0, 11, 8, 4, 100, 105, 99, 116, 2]) 0)]⟩ 9, ⟨[]⟩⟩
noncomputable def o3 (P : Params) : Obj := ⟨.type "dict", none, .dict ⟨[de P (sx [95, 95, 110, 97, 109, 101, 95, 95]) 165 (.str (sx [95, 95, 109, 97, 105, 110, 95, 95]) 164), de P (sx [95, 95, 100, 111, 99, 95, 95]) 166 (.none), de P (sx [95, 95, 112, 97, 99, 107, 97, 103, 101, 95, 95]) 167 (.none), de P (sx [95, 95, 108, 111, 97, 100, 101, 114, 95, 95]) 168 (.builtin "__main__.__loader__#opaque"), de P (sx [95, 95, 115, 112, 101, 99, 95, 95]) 169 (.none), de P (sx [95, 95, 97, 110, 110, 111, 116, 97, 116, 105, 111, 110, 115, 95, 95]) 170 (.ref 6), de P (sx [95, 95, 98, 117, 105, 108, 116, 105, 110, 115, 95, 95]) 171 (.ref 4), de P (sx [95, 95, 102, 105, 108, 101, 95, 95]) 173 (.str (sx [47, 99, 108, 97, 105, 109, 47, 99, 117, 116, 46, 112, 121]) 172), de P (sx [95, 95, 99, 97, 99, 104, 101, 100, 95, 95]) 174 (.none), de P (sx [95, 115, 114, 101]) 275 (.ref 12)]⟩ 10, ⟨[]⟩⟩
noncomputable def o11 (P : Params) : Obj := ⟨.type "dict", none, .dict ⟨[de P (sx [95, 95, 110, 97, 109, 101, 95, 95]) 247 (.str (sx [95, 115, 114, 101]) 246), de P (sx [95, 95, 100, 111, 99, 95, 95]) 248 (.none), de P (sx [95, 95, 112, 97, 99, 107, 97, 103, 101, 95, 95]) 250 (.str (sx []) 249), de P (sx [95, 95, 108, 111, 97, 100, 101, 114, 95, 95]) 251 (.builtin "off-the-table:_sre.__loader__:shared#opaque"), de P (sx [95, 95, 115, 112, 101, 99, 95, 95]) 252 (.builtin "off-the-table:_sre.__spec__:shared#opaque"), de P (sx [99, 111, 109, 112, 105, 108, 101]) 253 (.builtin "_sre.compile"), de P (sx [116, 101, 109, 112, 108, 97, 116, 101]) 254 (.builtin "off-the-table:_sre.template:shared#opaque"), de P (sx [103, 101, 116, 99, 111, 100, 101, 115, 105, 122, 101]) 255 (.builtin "off-the-table:_sre.getcodesize:shared#opaque"), de P (sx [97, 115, 99, 105, 105, 95, 105, 115, 99, 97, 115, 101, 100]) 256 (.builtin "off-the-table:_sre.ascii_iscased:shared#opaque"), de P (sx [117, 110, 105, 99, 111, 100, 101, 95, 105, 115, 99, 97, 115, 101, 100]) 257 (.builtin "off-the-table:_sre.unicode_iscased:shared#opaque"), de P (sx [97, 115, 99, 105, 105, 95, 116, 111, 108, 111, 119, 101, 114]) 258 (.builtin "off-the-table:_sre.ascii_tolower:shared#opaque"), de P (sx [117, 110, 105, 99, 111, 100, 101, 95, 116, 111, 108, 111, 119, 101, 114]) 259 (.builtin "off-the-table:_sre.unicode_tolower:shared#opaque"), de P (sx [77, 65, 71, 73, 67]) 261 (.int 20230612 260), de P (sx [67, 79, 68, 69, 83, 73, 90, 69]) 263 (.int 4 262), de P (sx [77, 65, 88, 82, 69, 80, 69, 65, 84]) 265 (.int 4294967295 264), de P (sx [77, 65, 88, 71, 82, 79, 85, 80, 83]) 267 (.int 1073741823 266), de P (sx [99, 111, 112, 121, 114, 105, 103, 104, 116]) 269 (.str (sx [32, 83, 82, 69, 32, 50, 46, 50, 46, 50, 32, 67, 111, 112, 121, 114, 105, 103, 104, 116, 32, 40, 99, 41, 32, 49, 57, 57, 55, 45, 50, 48, 48, 50, 32, 98, 121, 32, 83, 101, 99, 114, 101, 116, 32, 76, 97, 98, 115, 32, 65, 66, 32]) 268)]⟩ 17, ⟨[]⟩⟩
noncomputable def o12 (_ : Params) : Obj := ⟨.type "module", (some 11), .plain, ⟨[]⟩⟩
noncomputable def o13 (P : Params) : Obj := ⟨.type "dict", none, .dict ⟨[de P (sx [95, 95, 109, 111, 100, 117, 108, 101, 95, 95]) 189 (.str (sx [95, 102, 114, 111, 122, 101, 110, 95, 105, 109, 112, 111, 114, 116, 108, 105, 98]) 186), de P (sx [95, 95, 102, 105, 114, 115, 116, 108, 105, 110, 101, 110, 111, 95, 95]) 190 (.int 971 187), de P (sx [95, 95, 100, 111, 99, 95, 95]) 191 (.builtin "_frozen_importlib.BuiltinImporter.__doc__:str#opaque"), de P (sx [95, 79, 82, 73, 71, 73, 78]) 192 (.str (sx [98, 117, 105, 108, 116, 45, 105, 110]) 188), de P (sx [102, 105, 110, 100, 95, 115, 112, 101, 99]) 193 (.builtin "_frozen_importlib.BuiltinImporter.find_spec#opaque"), de P (sx [99, 114, 101, 97, 116, 101, 95, 109, 111, 100, 117, 108, 101]) 194 (.builtin "_frozen_importlib.BuiltinImporter.create_module#opaque"), de P (sx [101, 120, 101, 99, 95, 109, 111, 100, 117, 108, 101]) 195 (.builtin "_frozen_importlib.BuiltinImporter.exec_module#opaque"), de P (sx [103, 101, 116, 95, 99, 111, 100, 101]) 196 (.builtin "_frozen_importlib.BuiltinImporter.get_code#opaque"), de P (sx [103, 101, 116, 95, 115, 111, 117, 114, 99, 101]) 197 (.builtin "_frozen_importlib.BuiltinImporter.get_source#opaque"), de P (sx [105, 115, 95, 112, 97, 99, 107, 97, 103, 101]) 198 (.builtin "_frozen_importlib.BuiltinImporter.is_package#opaque"), de P (sx [108, 111, 97, 100, 95, 109, 111, 100, 117, 108, 101]) 199 (.builtin "_frozen_importlib.BuiltinImporter.load_module#opaque"), de P (sx [95, 95, 115, 116, 97, 116, 105, 99, 95, 97, 116, 116, 114, 105, 98, 117, 116, 101, 115, 95, 95]) 200 (.ref 15), de P (sx [95, 95, 100, 105, 99, 116, 95, 95]) 202 (.ref 16), de P (sx [95, 95, 119, 101, 97, 107, 114, 101, 102, 95, 95]) 204 (.ref 17)]⟩ 14, ⟨[]⟩⟩
noncomputable def o14 (_ : Params) : Obj := ⟨.type "type", none, .cls { name := (sx [66, 117, 105, 108, 116, 105, 110, 73, 109, 112, 111, 114, 116, 101, 114]), bases := [.type "object"], mro := [.ref 14, .type "object"], ns := 13, qualname := (sx [66, 117, 105, 108, 116, 105, 110, 73, 109, 112, 111, 114, 116, 101, 114]), hasDict := true, slotNames := [], subclasses := [], abstract := false, collection := none, hasDel := false }, ⟨[]⟩⟩
noncomputable def o15 (_ : Params) : Obj := ⟨.type "tuple", none, .seq ⟨[]⟩ 0, ⟨[]⟩⟩
noncomputable def o16 (_ : Params) : Obj := ⟨.type "getset_descriptor", none, .fields ⟨[.str (sx [95, 95, 100, 105, 99, 116, 95, 95]) 201, .ref 14, .builtin "function.__dict__", .builtin "function.__dict__#set"]⟩, ⟨[]⟩⟩
noncomputable def o17 (_ : Params) : Obj := ⟨.type "getset_descriptor", none, .fields ⟨[.str (sx [95, 95, 119, 101, 97, 107, 114, 101, 102, 95, 95]) 203, .ref 14, .builtin "ExceptionGroup.__weakref__", .none]⟩, ⟨[]⟩⟩
noncomputable def o18 (_ : Params) : Obj := ⟨.none, none, .seq ⟨[.int 13 0, .str (sx [6, 189, 10, 95, 95, 109, 111, 100, 117, 108, 101, 95, 95, 6, 186, 17, 95, 102, 114, 111, 122, 101, 110, 95, 105, 109, 112, 111, 114, 116, 108, 105, 98, 6, 190, 15, 95, 95, 102, 105, 114, 115, 116, 108, 105, 110, 101, 110, 111, 95, 95, 4, 187, 0, 971, 6, 191, 7, 95, 95, 100, 111, 99, 95, 95, 9, 52, 95, 102, 114, 111, 122, 101, 110, 95, 105, 109, 112, 111, 114, 116, 108, 105, 98, 46, 66, 117, 105, 108, 116, 105, 110, 73, 109, 112, 111, 114, 116, 101, 114, 46, 95, 95, 100, 111, 99, 95, 95, 58, 115, 116, 114, 35, 111, 112, 97, 113, 117, 101, 6, 192, 7, 95, 79, 82, 73, 71, 73, 78, 6, 188, 8, 98, 117, 105, 108, 116, 45, 105, 110, 6, 193, 9, 102, 105, 110, 100, 95, 115, 112, 101, 99, 9, 50, 95, 102, 114, 111, 122, 101, 110, 95, 105, 109, 112, 111, 114, 116, 108, 105, 98, 46, 66, 117, 105, 108, 116, 105, 110, 73, 109, 112, 111, 114, 116, 101, 114, 46, 102, 105, 110, 100, 95, 115, 112, 101, 99, 35, 111, 112, 97, 113, 117, 101, 6, 194, 13, 99, 114, 101, 97, 116, 101, 95, 109, 111, 100, 117, 108, 101, 9, 54, 95, 102, 114, 111, 122, 101, 110, 95, 105, 109, 112, 111, 114, 116, 108, 105, 98, 46, 66, 117, 105, 108, 116, 105, 110, 73, 109, 112, 111, 114, 116, 101, 114, 46, 99, 114, 101, 97, 116, 101, 95, 109, 111, 100, 117, 108, 101, 35, 111, 112, 97, 113, 117, 101, 6, 195, 11, 101, 120, 101, 99, 95, 109, 111, 100, 117, 108, 101, 9, 52, 95, 102, 114, 111, 122, 101, 110, 95, 105, 109, 112, 111, 114, 116, 108, 105, 98, 46, 66, 117, 105, 108, 116, 105, 110, 73, 109, 112, 111, 114, 116, 101, 114, 46, 101, 120, 101, 99, 95, 109, 111, 100, 117, 108, 101, 35, 111, 112, 97, 113, 117, 101, 6, 196, 8, 103, 101, 116, 95, 99, 111, 100, 101, 9, 49, 95, 102, 114, 111, 122, 101, 110, 95, 105, 109, 112, 111, 114, 116, 108, 105, 98, 46, 66, 117, 105, 108, 116, 105, 110, 73, 109, 112, 111, 114, 116, 101, 114, 46, 103, 101, 116, 95, 99, 111, 100, 101, 35, 111, 112, 97, 113, 117, 101, 6, 197, 10, 103, 101, 116, 95, 115, 111, 117, 114, 99, 101, 9, 51, 95, 102, 114, 111, 122, 101, 110, 95, 105, 109, 112, 111, 114, 116, 108, 105, 98, 46, 66, 117, 105, 108, 116, 105, 110, 73, 109, 112, 111, 114, 116, 101, 114, 46, 103, 101, 116, 95, 115, 111, 117, 114, 99, 101, 35, 111, 112, 97, 113, 117, 101, 6, 198, 10, 105, 115, 95, 112, 97, 99, 107, 97, 103, 101, 9, 51, 95, 102, 114, 111, 122, 101, 110, 95, 105, 109, 112, 111, 114, 116, 108, 105, 98, 46, 66, 117, 105, 108, 116, 105, 110, 73, 109, 112, 111, 114, 116, 101, 114, 46, 105, 115, 95, 112, 97, 99, 107, 97, 103, 101, 35, 111, 112, 97, 113, 117, 101, 6, 199, 11, 108, 111, 97, 100, 95, 109, 111, 100, 117, 108, 101, 9, 52, 95, 102, 114, 111, 122, 101, 110, 95, 105, 109, 112, 111, 114, 116, 108, 105, 98, 46, 66, 117, 105, 108, 116, 105, 110, 73, 109, 112, 111, 114, 116, 101, 114, 46, 108, 111, 97, 100, 95, 109, 111, 100, 117, 108, 101, 35, 111, 112, 97, 113, 117, 101, 6, 200, 21, 95, 95, 115, 116, 97, 116, 105, 99, 95, 97, 116, 116, 114, 105, 98, 117, 116, 101, 115, 95, 95, 4, 0, 0, 15, 6, 202, 8, 95, 95, 100, 105, 99, 116, 95, 95, 4, 0, 0, 16, 6, 204, 11, 95, 95, 119, 101, 97, 107, 114, 101, 102, 95, 95, 4, 0, 0, 17]) 0, .bool true, .bool true, .str (sx []) 205, .int 21 0, .str (sx [6, 227, 10, 95, 95, 109, 111, 100, 117, 108, 101, 95, 95, 6, 217, 17, 95, 102, 114, 111, 122, 101, 110, 95, 105, 109, 112, 111, 114, 116, 108, 105, 98, 6, 228, 15, 95, 95, 102, 105, 114, 115, 116, 108, 105, 110, 101, 110, 111, 95, 95, 4, 218, 0, 562, 6, 229, 7, 95, 95, 100, 111, 99, 95, 95, 9, 47, 95, 102, 114, 111, 122, 101, 110, 95, 105, 109, 112, 111, 114, 116, 108, 105, 98, 46, 77, 111, 100, 117, 108, 101, 83, 112, 101, 99, 46, 95, 95, 100, 111, 99, 95, 95, 58, 115, 116, 114, 35, 111, 112, 97, 113, 117, 101, 6, 230, 8, 95, 95, 105, 110, 105, 116, 95, 95, 9, 44, 95, 102, 114, 111, 122, 101, 110, 95, 105, 109, 112, 111, 114, 116, 108, 105, 98, 46, 77, 111, 100, 117, 108, 101, 83, 112, 101, 99, 46, 95, 95, 105, 110, 105, 116, 95, 95, 35, 111, 112, 97, 113, 117, 101, 6, 231, 8, 95, 95, 114, 101, 112, 114, 95, 95, 9, 44, 95, 102, 114, 111, 122, 101, 110, 95, 105, 109, 112, 111, 114, 116, 108, 105, 98, 46, 77, 111, 100, 117, 108, 101, 83, 112, 101, 99, 46, 95, 95, 114, 101, 112, 114, 95, 95, 35, 111, 112, 97, 113, 117, 101, 6, 232, 6, 95, 95, 101, 113, 95, 95, 9, 42, 95, 102, 114, 111, 122, 101, 110, 95, 105, 109, 112, 111, 114, 116, 108, 105, 98, 46, 77, 111, 100, 117, 108, 101, 83, 112, 101, 99, 46, 95, 95, 101, 113, 95, 95, 35, 111, 112, 97, 113, 117, 101, 6, 233, 6, 99, 97, 99, 104, 101, 100, 9, 42, 95, 102, 114, 111, 122, 101, 110, 95, 105, 109, 112, 111, 114, 116, 108, 105, 98, 46, 77, 111, 100, 117, 108, 101, 83, 112, 101, 99, 46, 99, 97, 99, 104, 101, 100, 35, 111, 112, 97, 113, 117, 101, 6, 234, 6, 112, 97, 114, 101, 110, 116, 9, 42, 95, 102, 114, 111, 122, 101, 110, 95, 105, 109, 112, 111, 114, 116, 108, 105, 98, 46, 77, 111, 100, 117, 108, 101, 83, 112, 101, 99, 46, 112, 97, 114, 101, 110, 116, 35, 111, 112, 97, 113, 117, 101, 6, 235, 12, 104, 97, 115, 95, 108, 111, 99, 97, 116, 105, 111, 110, 9, 48, 95, 102, 114, 111, 122, 101, 110, 95, 105, 109, 112, 111, 114, 116, 108, 105, 98, 46, 77, 111, 100, 117, 108, 101, 83, 112, 101, 99, 46, 104, 97, 115, 95, 108, 111, 99, 97, 116, 105, 111, 110, 35, 111, 112, 97, 113, 117, 101, 6, 236, 21, 95, 95, 115, 116, 97, 116, 105, 99, 95, 97, 116, 116, 114, 105, 98, 117, 116, 101, 115, 95, 95, 4, 0, 0, 23, 6, 238, 8, 95, 95, 100, 105, 99, 116, 95, 95, 4, 0, 0, 24, 6, 240, 11, 95, 95, 119, 101, 97, 107, 114, 101, 102, 95, 95, 4, 0, 0, 25, 6, 241, 8, 95, 95, 104, 97, 115, 104, 95, 95, 0]) 0, .bool true, .bool true, .str (sx []) 242]⟩ 1, ⟨[]⟩⟩
noncomputable def o19 (_ : Params) : Obj := ⟨.type "list", none, .seq ⟨[]⟩ 0, ⟨[]⟩⟩
noncomputable def o20 (P : Params) : Obj := ⟨.type "dict", none, .dict ⟨[de P (sx [110, 97, 109, 101]) 208 (.str (sx [95, 115, 114, 101]) 207), de P (sx [108, 111, 97, 100, 101, 114]) 209 (.ref 14), de P (sx [111, 114, 105, 103, 105, 110]) 210 (.str (sx [98, 117, 105, 108, 116, 45, 105, 110]) 184), de P (sx [108, 111, 97, 100, 101, 114, 95, 115, 116, 97, 116, 101]) 211 (.none), de P (sx [115, 117, 98, 109, 111, 100, 117, 108, 101, 95, 115, 101, 97, 114, 99, 104, 95, 108, 111, 99, 97, 116, 105, 111, 110, 115]) 212 (.none), de P (sx [95, 117, 110, 105, 110, 105, 116, 105, 97, 108, 105, 122, 101, 100, 95, 115, 117, 98, 109, 111, 100, 117, 108, 101, 115]) 213 (.ref 19), de P (sx [95, 115, 101, 116, 95, 102, 105, 108, 101, 97, 116, 116, 114]) 214 (.bool false), de P (sx [95, 99, 97, 99, 104, 101, 100]) 215 (.none), de P (sx [95, 105, 110, 105, 116, 105, 97, 108, 105, 122, 105, 110, 103]) 243 (.bool false)]⟩ 9, ⟨[]⟩⟩
noncomputable def o21 (P : Params) : Obj := ⟨.type "dict", none, .dict ⟨[de P (sx [95, 95, 109, 111, 100, 117, 108, 101, 95, 95]) 227 (.str (sx [95, 102, 114, 111, 122, 101, 110, 95, 105, 109, 112, 111, 114, 116, 108, 105, 98]) 217), de P (sx [95, 95, 102, 105, 114, 115, 116, 108, 105, 110, 101, 110, 111, 95, 95]) 228 (.int 562 218), de P (sx [95, 95, 100, 111, 99, 95, 95]) 229 (.builtin "_frozen_importlib.ModuleSpec.__doc__:str#opaque"), de P (sx [95, 95, 105, 110, 105, 116, 95, 95]) 230 (.builtin "_frozen_importlib.ModuleSpec.__init__#opaque"), de P (sx [95, 95, 114, 101, 112, 114, 95, 95]) 231 (.builtin "_frozen_importlib.ModuleSpec.__repr__#opaque"), de P (sx [95, 95, 101, 113, 95, 95]) 232 (.builtin "_frozen_importlib.ModuleSpec.__eq__#opaque"), de P (sx [99, 97, 99, 104, 101, 100]) 233 (.builtin "_frozen_importlib.ModuleSpec.cached#opaque"), de P (sx [112, 97, 114, 101, 110, 116]) 234 (.builtin "_frozen_importlib.ModuleSpec.parent#opaque"), de P (sx [104, 97, 115, 95, 108, 111, 99, 97, 116, 105, 111, 110]) 235 (.builtin "_frozen_importlib.ModuleSpec.has_location#opaque"), de P (sx [95, 95, 115, 116, 97, 116, 105, 99, 95, 97, 116, 116, 114, 105, 98, 117, 116, 101, 115, 95, 95]) 236 (.ref 23), de P (sx [95, 95, 100, 105, 99, 116, 95, 95]) 238 (.ref 24), de P (sx [95, 95, 119, 101, 97, 107, 114, 101, 102, 95, 95]) 240 (.ref 25), de P (sx [95, 95, 104, 97, 115, 104, 95, 95]) 241 (.none)]⟩ 13, ⟨[]⟩⟩
noncomputable def o22 (_ : Params) : Obj := ⟨.type "type", none, .cls { name := (sx [77, 111, 100, 117, 108, 101, 83, 112, 101, 99]), bases := [.type "object"], mro := [.ref 22, .type "object"], ns := 21, qualname := (sx [77, 111, 100, 117, 108, 101, 83, 112, 101, 99]), hasDict := true, slotNames := [], subclasses := [], abstract := false, collection := none, hasDel := false }, ⟨[]⟩⟩
noncomputable def o23 (_ : Params) : Obj := ⟨.type "tuple", none, .seq ⟨[.str (sx [95, 99, 97, 99, 104, 101, 100]) 219, .str (sx [95, 115, 101, 116, 95, 102, 105, 108, 101, 97, 116, 116, 114]) 220, .str (sx [95, 117, 110, 105, 110, 105, 116, 105, 97, 108, 105, 122, 101, 100, 95, 115, 117, 98, 109, 111, 100, 117, 108, 101, 115]) 221, .str (sx [108, 111, 97, 100, 101, 114]) 222, .str (sx [108, 111, 97, 100, 101, 114, 95, 115, 116, 97, 116, 101]) 223, .str (sx [110, 97, 109, 101]) 224, .str (sx [111, 114, 105, 103, 105, 110]) 225, .str (sx [115, 117, 98, 109, 111, 100, 117, 108, 101, 95, 115, 101, 97, 114, 99, 104, 95, 108, 111, 99, 97, 116, 105, 111, 110, 115]) 226]⟩ 0, ⟨[]⟩⟩
noncomputable def o24 (_ : Params) : Obj := ⟨.type "getset_descriptor", none, .fields ⟨[.str (sx [95, 95, 100, 105, 99, 116, 95, 95]) 237, .ref 22, .builtin "function.__dict__", .builtin "function.__dict__#set"]⟩, ⟨[]⟩⟩
noncomputable def o25 (_ : Params) : Obj := ⟨.type "getset_descriptor", none, .fields ⟨[.str (sx [95, 95, 119, 101, 97, 107, 114, 101, 102, 95, 95]) 239, .ref 22, .builtin "ExceptionGroup.__weakref__", .none]⟩, ⟨[]⟩⟩
noncomputable def o26 (_ : Params) : Obj := ⟨.ref 22, (some 20), .plain, ⟨[]⟩⟩
noncomputable def o27 (_ : Params) : Obj := ⟨.none, none, .seq ⟨[.int 11 0, .str (sx [6, 247, 8, 95, 95, 110, 97, 109, 101, 95, 95, 6, 246, 4, 95, 115, 114, 101, 6, 248, 7, 95, 95, 100, 111, 99, 95, 95, 0, 6, 250, 11, 95, 95, 112, 97, 99, 107, 97, 103, 101, 95, 95, 6, 249, 0, 6, 251, 10, 95, 95, 108, 111, 97, 100, 101, 114, 95, 95, 4, 0, 0, 14, 6, 252, 8, 95, 95, 115, 112, 101, 99, 95, 95, 4, 0, 0, 26, 6, 253, 7, 99, 111, 109, 112, 105, 108, 101, 9, 12, 95, 115, 114, 101, 46, 99, 111, 109, 112, 105, 108, 101, 6, 254, 8, 116, 101, 109, 112, 108, 97, 116, 101, 9, 13, 95, 115, 114, 101, 46, 116, 101, 109, 112, 108, 97, 116, 101, 6, 255, 11, 103, 101, 116, 99, 111, 100, 101, 115, 105, 122, 101, 9, 16, 95, 115, 114, 101, 46, 103, 101, 116, 99, 111, 100, 101, 115, 105, 122, 101, 6, 256, 13, 97, 115, 99, 105, 105, 95, 105, 115, 99, 97, 115, 101, 100, 9, 18, 95, 115, 114, 101, 46, 97, 115, 99, 105, 105, 95, 105, 115, 99, 97, 115, 101, 100, 6, 257, 15, 117, 110, 105, 99, 111, 100, 101, 95, 105, 115, 99, 97, 115, 101, 100, 9, 20, 95, 115, 114, 101, 46, 117, 110, 105, 99, 111, 100, 101, 95, 105, 115, 99, 97, 115, 101, 100, 6, 258, 13, 97, 115, 99, 105, 105, 95, 116, 111, 108, 111, 119, 101, 114, 9, 18, 95, 115, 114, 101, 46, 97, 115, 99, 105, 105, 95, 116, 111, 108, 111, 119, 101, 114, 6, 259, 15, 117, 110, 105, 99, 111, 100, 101, 95, 116, 111, 108, 111, 119, 101, 114, 9, 20, 95, 115, 114, 101, 46, 117, 110, 105, 99, 111, 100, 101, 95, 116, 111, 108, 111, 119, 101, 114, 6, 261, 5, 77, 65, 71, 73, 67, 4, 260, 0, 20230612, 6, 263, 8, 67, 79, 68, 69, 83, 73, 90, 69, 4, 262, 0, 4, 6, 265, 9, 77, 65, 88, 82, 69, 80, 69, 65, 84, 4, 264, 0, 4294967295, 6, 267, 9, 77, 65, 88, 71, 82, 79, 85, 80, 83, 4, 266, 0, 1073741823, 6, 269, 9, 99, 111, 112, 121, 114, 105, 103, 104, 116, 6, 268, 53, 32, 83, 82, 69, 32, 50, 46, 50, 46, 50, 32, 67, 111, 112, 121, 114, 105, 103, 104, 116, 32, 40, 99, 41, 32, 49, 57, 57, 55, 45, 50, 48, 48, 50, 32, 98, 121, 32, 83, 101, 99, 114, 101, 116, 32, 76, 97, 98, 115, 32, 65, 66, 32]) 0, .bool true, .bool false, .str (sx [95, 115, 114, 101]) 271]⟩ 0, ⟨[]⟩⟩
noncomputable def o28 (_ : Params) : Obj := ⟨.type "tuple", none, .seq ⟨[]⟩ 0, ⟨[]⟩⟩
noncomputable def o29 (_ : Params) : Obj := ⟨.none, none, .fields ⟨[]⟩, ⟨[]⟩⟩
noncomputable def o30 (_ : Params) : Obj := ⟨.type "code", none, .fields ⟨[.str (sx [60, 109, 111, 100, 117, 108, 101, 62]) 277, .str (sx [60, 109, 111, 100, 117, 108, 101, 62]) 278, .str (sx [47, 99, 108, 97, 105, 109, 47, 99, 117, 116, 46, 112, 121]) 279, .int 1 0, .int 0 0, .int 0 0, .int 0 0, .int 0 0, .ref 28, .bool false, .int 276 0, .ref 29, .none, .none, .none, .none, .int 280 0, .int 1 0, .str (sx [47, 99, 108, 97, 105, 109, 47, 99, 117, 116, 46, 112, 121]) 281]⟩, ⟨[]⟩⟩
noncomputable def o31 (_ : Params) : Obj := ⟨.type "frame", none, .plain, ⟨[(some (.ref 30)), (some (.ref 3)), (some (.ref 3)), none, (some (.str (sx [95, 95, 109, 97, 105, 110, 95, 95]) 164)), none, (some (.ref 0))]⟩⟩
noncomputable def o3_1 (P : Params) : Obj := ⟨.type "dict", none, .dict ⟨[de P (sx [95, 95, 110, 97, 109, 101, 95, 95]) 165 (.str (sx [95, 95, 109, 97, 105, 110, 95, 95]) 164), de P (sx [95, 95, 100, 111, 99, 95, 95]) 166 (.none), de P (sx [95, 95, 112, 97, 99, 107, 97, 103, 101, 95, 95]) 167 (.none), de P (sx [95, 95, 108, 111, 97, 100, 101, 114, 95, 95]) 168 (.builtin "__main__.__loader__#opaque"), de P (sx [95, 95, 115, 112, 101, 99, 95, 95]) 169 (.none), de P (sx [95, 95, 97, 110, 110, 111, 116, 97, 116, 105, 111, 110, 115, 95, 95]) 170 (.ref 6), de P (sx [95, 95, 98, 117, 105, 108, 116, 105, 110, 115, 95, 95]) 171 (.ref 4), de P (sx [95, 95, 102, 105, 108, 101, 95, 95]) 173 (.str (sx [47, 99, 108, 97, 105, 109, 47, 99, 117, 116, 46, 112, 121]) 172), de P (sx [95, 95, 99, 97, 99, 104, 101, 100, 95, 95]) 174 (.none), de P (sx [95, 115, 114, 101]) 275 (.ref 12), de P (sx [95, 116, 119, 105, 110, 95, 114, 101, 95, 49]) 316 (.ref 36), de P (sx [67, 82, 76, 70]) 318 (.str (sx [13, 10]) 317), de P (sx [78, 76]) 320 (.str (sx [10]) 319)]⟩ 13, ⟨[]⟩⟩
noncomputable def o32 (_ : Params) : Obj := ⟨.type "list", none, .seq ⟨[.int 14 285, .int 8 286, .int 1 287, .int 3 288, .int 3 289, .int 1 290, .int 1 291, .int 61 292, .int 0 293, .int 16 294, .int 61 295, .int 24 296, .int 16 297, .int 2 298, .int 2 299, .int 13 300, .int 11 301, .int 9 302, .int 0 303, .int 67043328 304, .int 126 305, .int 126 306, .int 0 307, .int 0 308, .int 0 309, .int 0 310, .int 0 311, .int 1 312, .int 1 313]⟩ 0, ⟨[]⟩⟩
noncomputable def o33 (_ : Params) : Obj := ⟨.type "dict", none, .dict ⟨[]⟩ 0, ⟨[]⟩⟩
noncomputable def o34 (_ : Params) : Obj := ⟨.type "tuple", none, .seq ⟨[.none]⟩ 0, ⟨[]⟩⟩
noncomputable def o35 (_ : Params) : Obj := ⟨.type "tuple", none, .seq ⟨[.int 14 0, .int 8 0, .int 1 0, .int 3 0, .int 3 0, .int 1 0, .int 1 0, .int 61 0, .int 0 0, .int 16 0, .int 61 0, .int 24 0, .int 16 0, .int 2 0, .int 2 0, .int 13 0, .int 11 0, .int 9 0, .int 0 0, .int 67043328 0, .int 126 0, .int 126 0, .int 0 0, .int 0 0, .int 0 0, .int 0 0, .int 0 0, .int 1 0, .int 1 0]⟩ 0, ⟨[]⟩⟩
noncomputable def o36 (_ : Params) : Obj := ⟨.type "re.Pattern", none, .fields ⟨[.str (sx [61, 91, 97, 45, 102, 65, 45, 70, 48, 45, 57, 93, 123, 50, 125]) 283, .int 256 315, .int 0 0, .none, .none, .ref 35, .int 0 0]⟩, ⟨[]⟩⟩
noncomputable def o3_2 (P : Params) : Obj := ⟨.type "dict", none, .dict ⟨[de P (sx [95, 95, 110, 97, 109, 101, 95, 95]) 165 (.str (sx [95, 95, 109, 97, 105, 110, 95, 95]) 164), de P (sx [95, 95, 100, 111, 99, 95, 95]) 166 (.none), de P (sx [95, 95, 112, 97, 99, 107, 97, 103, 101, 95, 95]) 167 (.none), de P (sx [95, 95, 108, 111, 97, 100, 101, 114, 95, 95]) 168 (.builtin "__main__.__loader__#opaque"), de P (sx [95, 95, 115, 112, 101, 99, 95, 95]) 169 (.none), de P (sx [95, 95, 97, 110, 110, 111, 116, 97, 116, 105, 111, 110, 115, 95, 95]) 170 (.ref 6), de P (sx [95, 95, 98, 117, 105, 108, 116, 105, 110, 115, 95, 95]) 171 (.ref 4), de P (sx [95, 95, 102, 105, 108, 101, 95, 95]) 173 (.str (sx [47, 99, 108, 97, 105, 109, 47, 99, 117, 116, 46, 112, 121]) 172), de P (sx [95, 95, 99, 97, 99, 104, 101, 100, 95, 95]) 174 (.none), de P (sx [95, 115, 114, 101]) 275 (.ref 12), de P (sx [95, 116, 119, 105, 110, 95, 114, 101, 95, 49]) 316 (.ref 36), de P (sx [67, 82, 76, 70]) 318 (.str (sx [13, 10]) 317), de P (sx [78, 76]) 320 (.str (sx [10]) 319), de P (sx [95, 81, 85, 79, 80, 82, 73, 95, 77, 65, 80]) 1348 (.ref 39)]⟩ 14, ⟨[]⟩⟩
noncomputable def o37 (_ : Params) : Obj := ⟨.type "range", none, .fields ⟨[.int 0 322, .int 256 321, .int 1 323]⟩, ⟨[]⟩⟩
noncomputable def o38 (_ : Params) : Obj := ⟨.type "range_iterator", none, .fields ⟨[.int 256 0, .int 0 0, .int 1 0]⟩, ⟨[]⟩⟩
noncomputable def o39 (_ : Params) : Obj := lst 256 (qm 256)
noncomputable def o40 (_ : Params) : Obj := ⟨.type "dict", none, .dict ⟨[]⟩ 2, ⟨[]⟩⟩
noncomputable def o41 (_ : Params) : Obj := ⟨.type "tuple", none, .seq ⟨[]⟩ 0, ⟨[]⟩⟩
noncomputable def o42 (_ : Params) : Obj := ⟨.type "StopIteration", none, .fields ⟨[.ref 41, .none, .none, .none, .bool false, .none]⟩, ⟨[]⟩⟩
noncomputable def o3_3 (P : Params) : Obj := ⟨.type "dict", none, .dict ⟨[de P (sx [95, 95, 110, 97, 109, 101, 95, 95]) 165 (.str (sx [99, 112, 121, 51, 49, 51, 46, 101, 109, 97, 105, 108, 46, 113, 117, 111, 112, 114, 105, 109, 105, 109, 101]) 1364), de P (sx [95, 95, 100, 111, 99, 95, 95]) 166 (.none), de P (sx [95, 95, 112, 97, 99, 107, 97, 103, 101, 95, 95]) 167 (.none), de P (sx [95, 95, 108, 111, 97, 100, 101, 114, 95, 95]) 168 (.builtin "__main__.__loader__#opaque"), de P (sx [95, 95, 115, 112, 101, 99, 95, 95]) 169 (.none), de P (sx [95, 95, 97, 110, 110, 111, 116, 97, 116, 105, 111, 110, 115, 95, 95]) 170 (.ref 6), de P (sx [95, 95, 98, 117, 105, 108, 116, 105, 110, 115, 95, 95]) 171 (.ref 4), de P (sx [95, 95, 102, 105, 108, 101, 95, 95]) 173 (.str (sx [47, 99, 108, 97, 105, 109, 47, 99, 117, 116, 46, 112, 121]) 172), de P (sx [95, 95, 99, 97, 99, 104, 101, 100, 95, 95]) 174 (.none), de P (sx [95, 115, 114, 101]) 275 (.ref 12), de P (sx [95, 116, 119, 105, 110, 95, 114, 101, 95, 49]) 316 (.ref 36), de P (sx [67, 82, 76, 70]) 318 (.str (sx [13, 10]) 317), de P (sx [78, 76]) 320 (.str (sx [10]) 319), de P (sx [95, 81, 85, 79, 80, 82, 73, 95, 77, 65, 80]) 1348 (.ref 39), de P (sx [95, 81, 85, 79, 80, 82, 73, 95, 72, 69, 65, 68, 69, 82, 95, 77, 65, 80]) 1349 (.ref 44), de P (sx [95, 81, 85, 79, 80, 82, 73, 95, 66, 79, 68, 89, 95, 77, 65, 80]) 1350 (.ref 46), de P (sx [97, 115, 99, 105, 105, 95, 108, 111, 119, 101, 114, 99, 97, 115, 101]) 1352 (.str (sx [97, 98, 99, 100, 101, 102, 103, 104, 105, 106, 107, 108, 109, 110, 111, 112, 113, 114, 115, 116, 117, 118, 119, 120, 121, 122]) 1351), de P (sx [97, 115, 99, 105, 105, 95, 117, 112, 112, 101, 114, 99, 97, 115, 101]) 1354 (.str (sx [65, 66, 67, 68, 69, 70, 71, 72, 73, 74, 75, 76, 77, 78, 79, 80, 81, 82, 83, 84, 85, 86, 87, 88, 89, 90]) 1353), de P (sx [97, 115, 99, 105, 105, 95, 108, 101, 116, 116, 101, 114, 115]) 1356 (.str (sx [97, 98, 99, 100, 101, 102, 103, 104, 105, 106, 107, 108, 109, 110, 111, 112, 113, 114, 115, 116, 117, 118, 119, 120, 121, 122, 65, 66, 67, 68, 69, 70, 71, 72, 73, 74, 75, 76, 77, 78, 79, 80, 81, 82, 83, 84, 85, 86, 87, 88, 89, 90]) 1355), de P (sx [100, 105, 103, 105, 116, 115]) 1358 (.str (sx [48, 49, 50, 51, 52, 53, 54, 55, 56, 57]) 1357), de P (sx [104, 101, 120, 100, 105, 103, 105, 116, 115]) 1363 (.str (sx [48, 49, 50, 51, 52, 53, 54, 55, 56, 57, 97, 98, 99, 100, 101, 102, 65, 66, 67, 68, 69, 70]) 1362)]⟩ 21, ⟨[]⟩⟩
noncomputable def o43 (_ : Params) : Obj := ⟨.type "slice", none, .fields ⟨[.none, .none, .none]⟩, ⟨[]⟩⟩
noncomputable def o44 (_ : Params) : Obj := lst 0 (qm 256)
noncomputable def o45 (_ : Params) : Obj := ⟨.type "slice", none, .fields ⟨[.none, .none, .none]⟩, ⟨[]⟩⟩
noncomputable def o46 (_ : Params) : Obj := lst 0 (qm 256)
noncomputable def o3_4 (P : Params) : Obj := ⟨.type "dict", none, .dict ⟨[de P (sx [95, 95, 110, 97, 109, 101, 95, 95]) 165 (.str (sx [99, 112, 121, 51, 49, 51, 46, 101, 109, 97, 105, 108, 46, 113, 117, 111, 112, 114, 105, 109, 105, 109, 101]) 1364), de P (sx [95, 95, 100, 111, 99, 95, 95]) 166 (.none), de P (sx [95, 95, 112, 97, 99, 107, 97, 103, 101, 95, 95]) 167 (.none), de P (sx [95, 95, 108, 111, 97, 100, 101, 114, 95, 95]) 168 (.builtin "__main__.__loader__#opaque"), de P (sx [95, 95, 115, 112, 101, 99, 95, 95]) 169 (.none), de P (sx [95, 95, 97, 110, 110, 111, 116, 97, 116, 105, 111, 110, 115, 95, 95]) 170 (.ref 6), de P (sx [95, 95, 98, 117, 105, 108, 116, 105, 110, 115, 95, 95]) 171 (.ref 4), de P (sx [95, 95, 102, 105, 108, 101, 95, 95]) 173 (.str (sx [47, 99, 108, 97, 105, 109, 47, 99, 117, 116, 46, 112, 121]) 172), de P (sx [95, 95, 99, 97, 99, 104, 101, 100, 95, 95]) 174 (.none), de P (sx [95, 115, 114, 101]) 275 (.ref 12), de P (sx [95, 116, 119, 105, 110, 95, 114, 101, 95, 49]) 316 (.ref 36), de P (sx [67, 82, 76, 70]) 318 (.str (sx [13, 10]) 317), de P (sx [78, 76]) 320 (.str (sx [10]) 319), de P (sx [95, 81, 85, 79, 80, 82, 73, 95, 77, 65, 80]) 1348 (.ref 39), de P (sx [95, 81, 85, 79, 80, 82, 73, 95, 72, 69, 65, 68, 69, 82, 95, 77, 65, 80]) 1349 (.ref 44), de P (sx [95, 81, 85, 79, 80, 82, 73, 95, 66, 79, 68, 89, 95, 77, 65, 80]) 1350 (.ref 46), de P (sx [97, 115, 99, 105, 105, 95, 108, 111, 119, 101, 114, 99, 97, 115, 101]) 1352 (.str (sx [97, 98, 99, 100, 101, 102, 103, 104, 105, 106, 107, 108, 109, 110, 111, 112, 113, 114, 115, 116, 117, 118, 119, 120, 121, 122]) 1351), de P (sx [97, 115, 99, 105, 105, 95, 117, 112, 112, 101, 114, 99, 97, 115, 101]) 1354 (.str (sx [65, 66, 67, 68, 69, 70, 71, 72, 73, 74, 75, 76, 77, 78, 79, 80, 81, 82, 83, 84, 85, 86, 87, 88, 89, 90]) 1353), de P (sx [97, 115, 99, 105, 105, 95, 108, 101, 116, 116, 101, 114, 115]) 1356 (.str (sx [97, 98, 99, 100, 101, 102, 103, 104, 105, 106, 107, 108, 109, 110, 111, 112, 113, 114, 115, 116, 117, 118, 119, 120, 121, 122, 65, 66, 67, 68, 69, 70, 71, 72, 73, 74, 75, 76, 77, 78, 79, 80, 81, 82, 83, 84, 85, 86, 87, 88, 89, 90]) 1355), de P (sx [100, 105, 103, 105, 116, 115]) 1358 (.str (sx [48, 49, 50, 51, 52, 53, 54, 55, 56, 57]) 1357), de P (sx [104, 101, 120, 100, 105, 103, 105, 116, 115]) 1363 (.str (sx [48, 49, 50, 51, 52, 53, 54, 55, 56, 57, 97, 98, 99, 100, 101, 102, 65, 66, 67, 68, 69, 70]) 1362), de P (sx [99]) 1374 (.int 57 1571)]⟩ 22, ⟨[]⟩⟩
noncomputable def o44_1 (_ : Params) : Obj := lst 0 (h44 67)
noncomputable def o47 (_ : Params) : Obj := ⟨.type "bytes_iterator", none, .fields ⟨[.none, .int 67 0]⟩, ⟨[]⟩⟩
noncomputable def o48 (_ : Params) : Obj := ⟨.type "tuple", none, .seq ⟨[]⟩ 0, ⟨[]⟩⟩
noncomputable def o49 (_ : Params) : Obj := ⟨.type "StopIteration", none, .fields ⟨[.ref 48, .none, .none, .none, .bool false, .none]⟩, ⟨[]⟩⟩
noncomputable def o44_2 (_ : Params) : Obj := lst 0 ((h44 67).set 32 (.str (sx [95]) 1574))
noncomputable def o3_5 (P : Params) : Obj := ⟨.type "dict", none, .dict ⟨[de P (sx [95, 95, 110, 97, 109, 101, 95, 95]) 165 (.str (sx [99, 112, 121, 51, 49, 51, 46, 101, 109, 97, 105, 108, 46, 113, 117, 111, 112, 114, 105, 109, 105, 109, 101]) 1364), de P (sx [95, 95, 100, 111, 99, 95, 95]) 166 (.none), de P (sx [95, 95, 112, 97, 99, 107, 97, 103, 101, 95, 95]) 167 (.none), de P (sx [95, 95, 108, 111, 97, 100, 101, 114, 95, 95]) 168 (.builtin "__main__.__loader__#opaque"), de P (sx [95, 95, 115, 112, 101, 99, 95, 95]) 169 (.none), de P (sx [95, 95, 97, 110, 110, 111, 116, 97, 116, 105, 111, 110, 115, 95, 95]) 170 (.ref 6), de P (sx [95, 95, 98, 117, 105, 108, 116, 105, 110, 115, 95, 95]) 171 (.ref 4), de P (sx [95, 95, 102, 105, 108, 101, 95, 95]) 173 (.str (sx [47, 99, 108, 97, 105, 109, 47, 99, 117, 116, 46, 112, 121]) 172), de P (sx [95, 95, 99, 97, 99, 104, 101, 100, 95, 95]) 174 (.none), de P (sx [95, 115, 114, 101]) 275 (.ref 12), de P (sx [95, 116, 119, 105, 110, 95, 114, 101, 95, 49]) 316 (.ref 36), de P (sx [67, 82, 76, 70]) 318 (.str (sx [13, 10]) 317), de P (sx [78, 76]) 320 (.str (sx [10]) 319), de P (sx [95, 81, 85, 79, 80, 82, 73, 95, 77, 65, 80]) 1348 (.ref 39), de P (sx [95, 81, 85, 79, 80, 82, 73, 95, 72, 69, 65, 68, 69, 82, 95, 77, 65, 80]) 1349 (.ref 44), de P (sx [95, 81, 85, 79, 80, 82, 73, 95, 66, 79, 68, 89, 95, 77, 65, 80]) 1350 (.ref 46), de P (sx [97, 115, 99, 105, 105, 95, 108, 111, 119, 101, 114, 99, 97, 115, 101]) 1352 (.str (sx [97, 98, 99, 100, 101, 102, 103, 104, 105, 106, 107, 108, 109, 110, 111, 112, 113, 114, 115, 116, 117, 118, 119, 120, 121, 122]) 1351), de P (sx [97, 115, 99, 105, 105, 95, 117, 112, 112, 101, 114, 99, 97, 115, 101]) 1354 (.str (sx [65, 66, 67, 68, 69, 70, 71, 72, 73, 74, 75, 76, 77, 78, 79, 80, 81, 82, 83, 84, 85, 86, 87, 88, 89, 90]) 1353), de P (sx [97, 115, 99, 105, 105, 95, 108, 101, 116, 116, 101, 114, 115]) 1356 (.str (sx [97, 98, 99, 100, 101, 102, 103, 104, 105, 106, 107, 108, 109, 110, 111, 112, 113, 114, 115, 116, 117, 118, 119, 120, 121, 122, 65, 66, 67, 68, 69, 70, 71, 72, 73, 74, 75, 76, 77, 78, 79, 80, 81, 82, 83, 84, 85, 86, 87, 88, 89, 90]) 1355), de P (sx [100, 105, 103, 105, 116, 115]) 1358 (.str (sx [48, 49, 50, 51, 52, 53, 54, 55, 56, 57]) 1357), de P (sx [104, 101, 120, 100, 105, 103, 105, 116, 115]) 1363 (.str (sx [48, 49, 50, 51, 52, 53, 54, 55, 56, 57, 97, 98, 99, 100, 101, 102, 65, 66, 67, 68, 69, 70]) 1362), de P (sx [99]) 1374 (.int 9 1860)]⟩ 22, ⟨[]⟩⟩
noncomputable def o46_1 (_ : Params) : Obj := lst 0 (h46 95)
noncomputable def o50 (_ : Params) : Obj := ⟨.type "bytes_iterator", none, .fields ⟨[.none, .int 95 0]⟩, ⟨[]⟩⟩
noncomputable def o51 (_ : Params) : Obj := ⟨.type "tuple", none, .seq ⟨[]⟩ 0, ⟨[]⟩⟩
noncomputable def o52 (_ : Params) : Obj := ⟨.type "StopIteration", none, .fields ⟨[.ref 51, .none, .none, .none, .bool false, .none]⟩, ⟨[]⟩⟩
noncomputable def o3_6 (P : Params) : Obj := ⟨.type "dict", none, .dict ⟨[de P (sx [95, 95, 110, 97, 109, 101, 95, 95]) 165 (.str (sx [108, 97, 119, 95, 100, 112, 48, 48, 50, 50, 95, 48, 49]) 1943), de P (sx [95, 95, 100, 111, 99, 95, 95]) 166 (.none), de P (sx [95, 95, 112, 97, 99, 107, 97, 103, 101, 95, 95]) 167 (.none), de P (sx [95, 95, 108, 111, 97, 100, 101, 114, 95, 95]) 168 (.builtin "__main__.__loader__#opaque"), de P (sx [95, 95, 115, 112, 101, 99, 95, 95]) 169 (.none), de P (sx [95, 95, 97, 110, 110, 111, 116, 97, 116, 105, 111, 110, 115, 95, 95]) 170 (.ref 6), de P (sx [95, 95, 98, 117, 105, 108, 116, 105, 110, 115, 95, 95]) 171 (.ref 4), de P (sx [95, 95, 102, 105, 108, 101, 95, 95]) 173 (.str (sx [47, 99, 108, 97, 105, 109, 47, 99, 117, 116, 46, 112, 121]) 172), de P (sx [95, 95, 99, 97, 99, 104, 101, 100, 95, 95]) 174 (.none), de P (sx [95, 115, 114, 101]) 275 (.ref 12), de P (sx [95, 116, 119, 105, 110, 95, 114, 101, 95, 49]) 316 (.ref 36), de P (sx [67, 82, 76, 70]) 318 (.str (sx [13, 10]) 317), de P (sx [78, 76]) 320 (.str (sx [10]) 319), de P (sx [95, 81, 85, 79, 80, 82, 73, 95, 77, 65, 80]) 1348 (.ref 39), de P (sx [95, 81, 85, 79, 80, 82, 73, 95, 72, 69, 65, 68, 69, 82, 95, 77, 65, 80]) 1349 (.ref 44), de P (sx [95, 81, 85, 79, 80, 82, 73, 95, 66, 79, 68, 89, 95, 77, 65, 80]) 1350 (.ref 46), de P (sx [97, 115, 99, 105, 105, 95, 108, 111, 119, 101, 114, 99, 97, 115, 101]) 1352 (.str (sx [97, 98, 99, 100, 101, 102, 103, 104, 105, 106, 107, 108, 109, 110, 111, 112, 113, 114, 115, 116, 117, 118, 119, 120, 121, 122]) 1351), de P (sx [97, 115, 99, 105, 105, 95, 117, 112, 112, 101, 114, 99, 97, 115, 101]) 1354 (.str (sx [65, 66, 67, 68, 69, 70, 71, 72, 73, 74, 75, 76, 77, 78, 79, 80, 81, 82, 83, 84, 85, 86, 87, 88, 89, 90]) 1353), de P (sx [97, 115, 99, 105, 105, 95, 108, 101, 116, 116, 101, 114, 115]) 1356 (.str (sx [97, 98, 99, 100, 101, 102, 103, 104, 105, 106, 107, 108, 109, 110, 111, 112, 113, 114, 115, 116, 117, 118, 119, 120, 121, 122, 65, 66, 67, 68, 69, 70, 71, 72, 73, 74, 75, 76, 77, 78, 79, 80, 81, 82, 83, 84, 85, 86, 87, 88, 89, 90]) 1355), de P (sx [100, 105, 103, 105, 116, 115]) 1358 (.str (sx [48, 49, 50, 51, 52, 53, 54, 55, 56, 57]) 1357), de P (sx [104, 101, 120, 100, 105, 103, 105, 116, 115]) 1363 (.str (sx [48, 49, 50, 51, 52, 53, 54, 55, 56, 57, 97, 98, 99, 100, 101, 102, 65, 66, 67, 68, 69, 70]) 1362), de P (sx [117, 110, 113, 117, 111, 116, 101]) 1869 (.ref 59), de P (sx [113, 117, 111, 116, 101]) 1876 (.ref 66), de P (sx [104, 101, 97, 100, 101, 114, 95, 101, 110, 99, 111, 100, 101]) 1886 (.ref 74), de P (sx [95, 81, 85, 79, 80, 82, 73, 95, 66, 79, 68, 89, 95, 69, 78, 67, 79, 68, 69, 95, 77, 65, 80]) 1887 (.ref 76), de P (sx [98, 111, 100, 121, 95, 101, 110, 99, 111, 100, 101]) 1914 (.ref 87), de P (sx [100, 101, 99, 111, 100, 101]) 1927 (.ref 95), de P (sx [95, 117, 110, 113, 117, 111, 116, 101, 95, 109, 97, 116, 99, 104]) 1935 (.ref 102), de P (sx [104, 101, 97, 100, 101, 114, 95, 100, 101, 99, 111, 100, 101]) 1942 (.ref 109), de P (sx [95, 108, 97, 119, 95, 116, 101, 120, 116]) 1955 (.ref 116), de P (sx [108, 97, 119]) 1961 (.ref 121)]⟩ 33, ⟨[]⟩⟩
noncomputable def o29_1 (_ : Params) : Obj := ⟨.none, none, .fields ⟨[.int 19 0, .int 0 0, .ref 58, .int 21 0, .int 0 0, .ref 65, .int 23 0, .int 0 0, .ref 73, .int 32 0, .int 0 0, .ref 86, .int 70 0, .int 0 0, .ref 94, .int 100 0, .int 0 0, .ref 101, .int 103 0, .int 0 0, .ref 108, .int 107 0, .int 0 0, .ref 115, .int 115 0, .int 0 0, .ref 120]⟩, ⟨[]⟩⟩
noncomputable def o53 (_ : Params) : Obj := ⟨.type "tuple", none, .seq ⟨[]⟩ 0, ⟨[]⟩⟩
noncomputable def o54 (_ : Params) : Obj := ⟨.none, none, .fields ⟨[]⟩, ⟨[]⟩⟩
noncomputable def o55 (_ : Params) : Obj := ⟨.type "tuple", none, .seq ⟨[.str (sx [115]) 1866]⟩ 0, ⟨[]⟩⟩
noncomputable def o56 (_ : Params) : Obj := ⟨.type "tuple", none, .seq ⟨[]⟩ 0, ⟨[]⟩⟩
noncomputable def o57 (_ : Params) : Obj := ⟨.none, none, .func (fnL fp15.1 0 .none .none .none), ⟨[]⟩⟩
noncomputable def o58 (_ : Params) : Obj := ⟨.type "code", none, .fields ⟨[.str (sx [117, 110, 113, 117, 111, 116, 101]) 1863, .str (sx [117, 110, 113, 117, 111, 116, 101]) 1864, .str (sx [47, 99, 108, 97, 105, 109, 47, 99, 117, 116, 46, 112, 121]) 1865, .int 19 0, .int 1 0, .int 0 0, .int 0 0, .int 3 0, .ref 53, .bool true, .int 276 0, .ref 54, .none, .ref 55, .ref 56, .ref 57, .int 1867 0, .int 19 0, .str (sx [47, 99, 108, 97, 105, 109, 47, 99, 117, 116, 46, 112, 121]) 1868]⟩, ⟨[]⟩⟩
noncomputable def fd59 : FuncData := fnL fp15.1 3 (.none) (.str (sx [99, 112, 121, 51, 49, 51, 46, 101, 109, 97, 105, 108, 46, 113, 117, 111, 112, 114, 105, 109, 105, 109, 101]) 1364) (.ref 58)
noncomputable def o59 (_ : Params) : Obj := ⟨.type "function", none, .func fd59, ⟨[]⟩⟩
noncomputable def o60 (_ : Params) : Obj := ⟨.type "tuple", none, .seq ⟨[]⟩ 0, ⟨[]⟩⟩
noncomputable def o61 (_ : Params) : Obj := ⟨.none, none, .fields ⟨[]⟩, ⟨[]⟩⟩
noncomputable def o62 (_ : Params) : Obj := ⟨.type "tuple", none, .seq ⟨[.str (sx [99]) 1873]⟩ 0, ⟨[]⟩⟩
noncomputable def o63 (_ : Params) : Obj := ⟨.type "tuple", none, .seq ⟨[]⟩ 0, ⟨[]⟩⟩
noncomputable def o64 (_ : Params) : Obj := ⟨.none, none, .func (fnL fp16.1 0 .none .none .none), ⟨[]⟩⟩
noncomputable def o65 (_ : Params) : Obj := ⟨.type "code", none, .fields ⟨[.str (sx [113, 117, 111, 116, 101]) 1870, .str (sx [113, 117, 111, 116, 101]) 1871, .str (sx [47, 99, 108, 97, 105, 109, 47, 99, 117, 116, 46, 112, 121]) 1872, .int 21 0, .int 1 0, .int 0 0, .int 0 0, .int 3 0, .ref 60, .bool true, .int 276 0, .ref 61, .none, .ref 62, .ref 63, .ref 64, .int 1874 0, .int 21 0, .str (sx [47, 99, 108, 97, 105, 109, 47, 99, 117, 116, 46, 112, 121]) 1875]⟩, ⟨[]⟩⟩
noncomputable def fd66 : FuncData := fnL fp16.1 3 (.none) (.str (sx [99, 112, 121, 51, 49, 51, 46, 101, 109, 97, 105, 108, 46, 113, 117, 111, 112, 114, 105, 109, 105, 109, 101]) 1364) (.ref 65)
noncomputable def o66 (_ : Params) : Obj := ⟨.type "function", none, .func fd66, ⟨[]⟩⟩
noncomputable def o67 (_ : Params) : Obj := ⟨.type "tuple", none, .seq ⟨[.str (sx [105, 115, 111, 45, 56, 56, 53, 57, 45, 49]) 1877]⟩ 0, ⟨[]⟩⟩
noncomputable def o68 (_ : Params) : Obj := ⟨.type "tuple", none, .seq ⟨[]⟩ 0, ⟨[]⟩⟩
noncomputable def o69 (_ : Params) : Obj := ⟨.none, none, .fields ⟨[]⟩, ⟨[]⟩⟩
noncomputable def o70 (_ : Params) : Obj := ⟨.type "tuple", none, .seq ⟨[.str (sx [104, 101, 97, 100, 101, 114, 95, 98, 121, 116, 101, 115]) 1881, .str (sx [99, 104, 97, 114, 115, 101, 116]) 1882, .str (sx [101, 110, 99, 111, 100, 101, 100]) 1883]⟩ 0, ⟨[]⟩⟩
noncomputable def o71 (_ : Params) : Obj := ⟨.type "tuple", none, .seq ⟨[]⟩ 0, ⟨[]⟩⟩
noncomputable def o72 (_ : Params) : Obj := ⟨.none, none, .func (fnL fp17.1 0 .none .none .none), ⟨[]⟩⟩
noncomputable def o73 (_ : Params) : Obj := ⟨.type "code", none, .fields ⟨[.str (sx [104, 101, 97, 100, 101, 114, 95, 101, 110, 99, 111, 100, 101]) 1878, .str (sx [104, 101, 97, 100, 101, 114, 95, 101, 110, 99, 111, 100, 101]) 1879, .str (sx [47, 99, 108, 97, 105, 109, 47, 99, 117, 116, 46, 112, 121]) 1880, .int 23 0, .int 2 0, .int 0 0, .int 0 0, .int 3 0, .ref 68, .bool true, .int 276 0, .ref 69, .none, .ref 70, .ref 71, .ref 72, .int 1884 0, .int 23 0, .str (sx [47, 99, 108, 97, 105, 109, 47, 99, 117, 116, 46, 112, 121]) 1885]⟩, ⟨[]⟩⟩
noncomputable def fd74 : FuncData := fnL fp17.1 3 (.ref 67) (.str (sx [99, 112, 121, 51, 49, 51, 46, 101, 109, 97, 105, 108, 46, 113, 117, 111, 112, 114, 105, 109, 105, 109, 101]) 1364) (.ref 73)
noncomputable def o74 (_ : Params) : Obj := ⟨.type "function", none, .func fd74, ⟨[]⟩⟩
noncomputable def o75 (_ : Params) : Obj := ⟨.type "slice", none, .fields ⟨[.none, .none, .none]⟩, ⟨[]⟩⟩
noncomputable def o76 (_ : Params) : Obj := lst 0 (((h46 95).set 13 (.str (sx [13]) 1891)).set 10 (.str (sx [10]) 1894))
noncomputable def o77 (_ : Params) : Obj := ⟨.type "bytes_iterator", none, .fields ⟨[.none, .int 2 0]⟩, ⟨[]⟩⟩
noncomputable def o78 (_ : Params) : Obj := ⟨.type "tuple", none, .seq ⟨[]⟩ 0, ⟨[]⟩⟩
noncomputable def o79 (_ : Params) : Obj := ⟨.type "StopIteration", none, .fields ⟨[.ref 78, .none, .none, .none, .bool false, .none]⟩, ⟨[]⟩⟩
noncomputable def o80 (_ : Params) : Obj := ⟨.type "tuple", none, .seq ⟨[.int 76 1895, .str (sx [10]) 319]⟩ 0, ⟨[]⟩⟩
noncomputable def o81 (_ : Params) : Obj := ⟨.type "tuple", none, .seq ⟨[]⟩ 0, ⟨[]⟩⟩
noncomputable def o82 (_ : Params) : Obj := ⟨.none, none, .fields ⟨[]⟩, ⟨[]⟩⟩
noncomputable def o83 (_ : Params) : Obj := ⟨.type "tuple", none, .seq ⟨[.str (sx [98, 111, 100, 121]) 1899, .str (sx [109, 97, 120, 108, 105, 110, 101, 108, 101, 110]) 1900, .str (sx [101, 111, 108]) 1901, .str (sx [115, 111, 102, 116, 95, 98, 114, 101, 97, 107]) 1902, .str (sx [109, 97, 120, 108, 105, 110, 101, 108, 101, 110, 49]) 1903, .str (sx [101, 110, 99, 111, 100, 101, 100, 95, 98, 111, 100, 121]) 1904, .str (sx [97, 112, 112, 101, 110, 100]) 1905, .str (sx [108, 105, 110, 101]) 1906, .str (sx [115, 116, 97, 114, 116]) 1907, .str (sx [108, 97, 115, 116, 115, 116, 97, 114, 116]) 1908, .str (sx [115, 116, 111, 112]) 1909, .str (sx [114, 111, 111, 109]) 1910, .str (sx [113]) 1911]⟩ 0, ⟨[]⟩⟩
noncomputable def o84 (_ : Params) : Obj := ⟨.type "tuple", none, .seq ⟨[]⟩ 0, ⟨[]⟩⟩
noncomputable def o85 (_ : Params) : Obj := ⟨.none, none, .func (fnL fp21.1 0 .none .none .none), ⟨[]⟩⟩
noncomputable def o86 (_ : Params) : Obj := ⟨.type "code", none, .fields ⟨[.str (sx [98, 111, 100, 121, 95, 101, 110, 99, 111, 100, 101]) 1896, .str (sx [98, 111, 100, 121, 95, 101, 110, 99, 111, 100, 101]) 1897, .str (sx [47, 99, 108, 97, 105, 109, 47, 99, 117, 116, 46, 112, 121]) 1898, .int 32 0, .int 3 0, .int 0 0, .int 0 0, .int 3 0, .ref 81, .bool true, .int 276 0, .ref 82, .none, .ref 83, .ref 84, .ref 85, .int 1912 0, .int 32 0, .str (sx [47, 99, 108, 97, 105, 109, 47, 99, 117, 116, 46, 112, 121]) 1913]⟩, ⟨[]⟩⟩
noncomputable def fd87 : FuncData := fnL fp21.1 3 (.ref 80) (.str (sx [99, 112, 121, 51, 49, 51, 46, 101, 109, 97, 105, 108, 46, 113, 117, 111, 112, 114, 105, 109, 105, 109, 101]) 1364) (.ref 86)
noncomputable def o87 (_ : Params) : Obj := ⟨.type "function", none, .func fd87, ⟨[]⟩⟩
noncomputable def o88 (_ : Params) : Obj := ⟨.type "tuple", none, .seq ⟨[.str (sx [10]) 319]⟩ 0, ⟨[]⟩⟩
noncomputable def o89 (_ : Params) : Obj := ⟨.type "tuple", none, .seq ⟨[]⟩ 0, ⟨[]⟩⟩
noncomputable def o90 (_ : Params) : Obj := ⟨.none, none, .fields ⟨[]⟩, ⟨[]⟩⟩
noncomputable def o91 (_ : Params) : Obj := ⟨.type "tuple", none, .seq ⟨[.str (sx [101, 110, 99, 111, 100, 101, 100]) 1918, .str (sx [101, 111, 108]) 1919, .str (sx [100, 101, 99, 111, 100, 101, 100]) 1920, .str (sx [108, 105, 110, 101]) 1921, .str (sx [105]) 1922, .str (sx [110]) 1923, .str (sx [99]) 1924]⟩ 0, ⟨[]⟩⟩
noncomputable def o92 (_ : Params) : Obj := ⟨.type "tuple", none, .seq ⟨[]⟩ 0, ⟨[]⟩⟩
noncomputable def o93 (_ : Params) : Obj := ⟨.none, none, .func (fnL fp22.1 0 .none .none .none), ⟨[]⟩⟩
noncomputable def o94 (_ : Params) : Obj := ⟨.type "code", none, .fields ⟨[.str (sx [100, 101, 99, 111, 100, 101]) 1915, .str (sx [100, 101, 99, 111, 100, 101]) 1916, .str (sx [47, 99, 108, 97, 105, 109, 47, 99, 117, 116, 46, 112, 121]) 1917, .int 70 0, .int 2 0, .int 0 0, .int 0 0, .int 3 0, .ref 89, .bool true, .int 276 0, .ref 90, .none, .ref 91, .ref 92, .ref 93, .int 1925 0, .int 70 0, .str (sx [47, 99, 108, 97, 105, 109, 47, 99, 117, 116, 46, 112, 121]) 1926]⟩, ⟨[]⟩⟩
noncomputable def fd95 : FuncData := fnL fp22.1 3 (.ref 88) (.str (sx [99, 112, 121, 51, 49, 51, 46, 101, 109, 97, 105, 108, 46, 113, 117, 111, 112, 114, 105, 109, 105, 109, 101]) 1364) (.ref 94)
noncomputable def o95 (_ : Params) : Obj := ⟨.type "function", none, .func fd95, ⟨[]⟩⟩
noncomputable def o96 (_ : Params) : Obj := ⟨.type "tuple", none, .seq ⟨[]⟩ 0, ⟨[]⟩⟩
noncomputable def o97 (_ : Params) : Obj := ⟨.none, none, .fields ⟨[]⟩, ⟨[]⟩⟩
noncomputable def o98 (_ : Params) : Obj := ⟨.type "tuple", none, .seq ⟨[.str (sx [109, 97, 116, 99, 104]) 1931, .str (sx [115]) 1932]⟩ 0, ⟨[]⟩⟩
noncomputable def o99 (_ : Params) : Obj := ⟨.type "tuple", none, .seq ⟨[]⟩ 0, ⟨[]⟩⟩
noncomputable def o100 (_ : Params) : Obj := ⟨.none, none, .func (fnL fp23.1 0 .none .none .none), ⟨[]⟩⟩
noncomputable def o101 (_ : Params) : Obj := ⟨.type "code", none, .fields ⟨[.str (sx [95, 117, 110, 113, 117, 111, 116, 101, 95, 109, 97, 116, 99, 104]) 1928, .str (sx [95, 117, 110, 113, 117, 111, 116, 101, 95, 109, 97, 116, 99, 104]) 1929, .str (sx [47, 99, 108, 97, 105, 109, 47, 99, 117, 116, 46, 112, 121]) 1930, .int 100 0, .int 1 0, .int 0 0, .int 0 0, .int 3 0, .ref 96, .bool true, .int 276 0, .ref 97, .none, .ref 98, .ref 99, .ref 100, .int 1933 0, .int 100 0, .str (sx [47, 99, 108, 97, 105, 109, 47, 99, 117, 116, 46, 112, 121]) 1934]⟩, ⟨[]⟩⟩
noncomputable def fd102 : FuncData := fnL fp23.1 3 (.none) (.str (sx [99, 112, 121, 51, 49, 51, 46, 101, 109, 97, 105, 108, 46, 113, 117, 111, 112, 114, 105, 109, 105, 109, 101]) 1364) (.ref 101)
noncomputable def o102 (_ : Params) : Obj := ⟨.type "function", none, .func fd102, ⟨[]⟩⟩
noncomputable def o103 (_ : Params) : Obj := ⟨.type "tuple", none, .seq ⟨[]⟩ 0, ⟨[]⟩⟩
noncomputable def o104 (_ : Params) : Obj := ⟨.none, none, .fields ⟨[]⟩, ⟨[]⟩⟩
noncomputable def o105 (_ : Params) : Obj := ⟨.type "tuple", none, .seq ⟨[.str (sx [115]) 1939]⟩ 0, ⟨[]⟩⟩
noncomputable def o106 (_ : Params) : Obj := ⟨.type "tuple", none, .seq ⟨[]⟩ 0, ⟨[]⟩⟩
noncomputable def o107 (_ : Params) : Obj := ⟨.none, none, .func (fnL fp24.1 0 .none .none .none), ⟨[]⟩⟩
noncomputable def o108 (_ : Params) : Obj := ⟨.type "code", none, .fields ⟨[.str (sx [104, 101, 97, 100, 101, 114, 95, 100, 101, 99, 111, 100, 101]) 1936, .str (sx [104, 101, 97, 100, 101, 114, 95, 100, 101, 99, 111, 100, 101]) 1937, .str (sx [47, 99, 108, 97, 105, 109, 47, 99, 117, 116, 46, 112, 121]) 1938, .int 103 0, .int 1 0, .int 0 0, .int 0 0, .int 3 0, .ref 103, .bool true, .int 276 0, .ref 104, .none, .ref 105, .ref 106, .ref 107, .int 1940 0, .int 103 0, .str (sx [47, 99, 108, 97, 105, 109, 47, 99, 117, 116, 46, 112, 121]) 1941]⟩, ⟨[]⟩⟩
noncomputable def fd109 : FuncData := fnL fp24.1 3 (.none) (.str (sx [99, 112, 121, 51, 49, 51, 46, 101, 109, 97, 105, 108, 46, 113, 117, 111, 112, 114, 105, 109, 105, 109, 101]) 1364) (.ref 108)
noncomputable def o109 (_ : Params) : Obj := ⟨.type "function", none, .func fd109, ⟨[]⟩⟩
noncomputable def o110 (_ : Params) : Obj := ⟨.type "tuple", none, .seq ⟨[]⟩ 0, ⟨[]⟩⟩
noncomputable def o111 (_ : Params) : Obj := ⟨.none, none, .fields ⟨[]⟩, ⟨[]⟩⟩
noncomputable def o112 (_ : Params) : Obj := ⟨.type "tuple", none, .seq ⟨[.str (sx [110, 117, 109, 98, 101, 114, 115]) 1948, .str (sx [115, 105, 103, 110, 115]) 1949, .str (sx [110, 117, 109, 98, 101, 114]) 1950, .str (sx [114, 101, 115, 116]) 1951, .str (sx [102, 105, 103, 117, 114, 101]) 1952]⟩ 0, ⟨[]⟩⟩
noncomputable def o113 (_ : Params) : Obj := ⟨.type "tuple", none, .seq ⟨[]⟩ 0, ⟨[]⟩⟩
noncomputable def o114 (_ : Params) : Obj := ⟨.none, none, .func (fnL fp26.1 0 .none .none .none), ⟨[]⟩⟩
noncomputable def o115 (_ : Params) : Obj := ⟨.type "code", none, .fields ⟨[.str (sx [95, 108, 97, 119, 95, 116, 101, 120, 116]) 1945, .str (sx [95, 108, 97, 119, 95, 116, 101, 120, 116]) 1946, .str (sx [47, 99, 108, 97, 105, 109, 47, 99, 117, 116, 46, 112, 121]) 1947, .int 107 0, .int 1 0, .int 0 0, .int 0 0, .int 3 0, .ref 110, .bool true, .int 276 0, .ref 111, .none, .ref 112, .ref 113, .ref 114, .int 1953 0, .int 107 0, .str (sx [47, 99, 108, 97, 105, 109, 47, 99, 117, 116, 46, 112, 121]) 1954]⟩, ⟨[]⟩⟩
noncomputable def fd116 : FuncData := fnL fp26.1 3 (.none) (.str (sx [108, 97, 119, 95, 100, 112, 48, 48, 50, 50, 95, 48, 49]) 1943) (.ref 115)
noncomputable def o116 (_ : Params) : Obj := ⟨.type "function", none, .func fd116, ⟨[]⟩⟩
noncomputable def o117 (_ : Params) : Obj := ⟨.type "tuple", none, .seq ⟨[]⟩ 0, ⟨[]⟩⟩
noncomputable def o118 (_ : Params) : Obj := ⟨.none, none, .fields ⟨[]⟩, ⟨[]⟩⟩
noncomputable def o119 (_ : Params) : Obj := ⟨.none, none, .func (fnL fp27.1 0 .none .none .none), ⟨[]⟩⟩
noncomputable def o120 (_ : Params) : Obj := ⟨.type "code", none, .fields ⟨[.str (sx [108, 97, 119]) 1956, .str (sx [108, 97, 119]) 1957, .str (sx [47, 99, 108, 97, 105, 109, 47, 99, 117, 116, 46, 112, 121]) 1958, .int 115 0, .int 1 0, .int 0 0, .int 0 0, .int 3 0, .ref 117, .bool true, .int 276 0, .ref 118, .none, .none, .none, .ref 119, .int 1959 0, .int 115 0, .str (sx [47, 99, 108, 97, 105, 109, 47, 99, 117, 116, 46, 112, 121]) 1960]⟩, ⟨[]⟩⟩
noncomputable def fd121 : FuncData := fnL fp27.1 3 (.none) (.str (sx [108, 97, 119, 95, 100, 112, 48, 48, 50, 50, 95, 48, 49]) 1943) (.ref 120)
noncomputable def o121 (_ : Params) : Obj := ⟨.type "function", none, .func fd121, ⟨[]⟩⟩
noncomputable def hps0 (P : Params) : Heap := ⟨⟨[boot_o_0 P, o1 P, o2 P, o3 P, boot_o_4 P, boot_o_5 P, boot_o_6 P, boot_o_7 P, boot_o_8 P, boot_o_9 P, boot_o_10 P, o11 P, o12 P, o13 P, o14 P, o15 P, o16 P, o17 P, o18 P, o19 P, o20 P, o21 P, o22 P, o23 P, o24 P, o25 P, o26 P, o27 P]⟩, {}⟩
noncomputable def trPre (P : Params) : BT := .node (boot_o_0 P) (.node (o1 P) (.node (o3 P) (.node (boot_o_7 P) (.node (o15 P) (lf (o31 P)) (.nil)) (lf (o23 P))) (.node (o11 P) (lf (o19 P)) (lf (o27 P)))) (.node (boot_o_5 P) (.node (boot_o_9 P) (lf (o17 P)) (lf (o25 P))) (.node (o13 P) (lf (o21 P)) (lf (o29 P))))) (.node (o2 P) (.node (boot_o_4 P) (.node (boot_o_8 P) (lf (o16 P)) (lf (o24 P))) (.node (o12 P) (lf (o20 P)) (lf (o28 P)))) (.node (boot_o_6 P) (.node (boot_o_10 P) (lf (o18 P)) (lf (o26 P))) (.node (o14 P) (lf (o22 P)) (lf (o30 P)))))
noncomputable def shPre (w : World) (os : OsState) : SharedT := ⟨trPre w.params, 32, {}, ⟨[]⟩, {}, 282, os⟩
noncomputable def psPre : Pos := ⟨0, 0, 0, 0⟩
noncomputable def trA (P : Params) : BT := .node (boot_o_0 P) (.node (o1 P) (.node (o3_1 P) (.node (boot_o_7 P) (.node (o15 P) (lf (o31 P)) (.nil)) (lf (o23 P))) (.node (o11 P) (.node (o19 P) (lf (o35 P)) (.nil)) (lf (o27 P)))) (.node (boot_o_5 P) (.node (boot_o_9 P) (.node (o17 P) (lf (o33 P)) (.nil)) (lf (o25 P))) (.node (o13 P) (lf (o21 P)) (lf (o29 P))))) (.node (o2 P) (.node (boot_o_4 P) (.node (boot_o_8 P) (.node (o16 P) (lf (o32 P)) (.nil)) (lf (o24 P))) (.node (o12 P) (.node (o20 P) (lf (o36 P)) (.nil)) (lf (o28 P)))) (.node (boot_o_6 P) (.node (boot_o_10 P) (.node (o18 P) (lf (o34 P)) (.nil)) (lf (o26 P))) (.node (o14 P) (lf (o22 P)) (lf (o30 P)))))
noncomputable def shA (w : World) (os : OsState) : SharedT := ⟨trA w.params, 37, {}, ⟨[]⟩, {}, 321, os⟩
noncomputable def psA : Pos := ⟨4, 0, 4, 2⟩
noncomputable def trB0 (P : Params) : BT := .node (boot_o_0 P) (.node (o1 P) (.node (o3_2 P) (.node (boot_o_7 P) (.node (o15 P) (lf (o31 P)) (.nil)) (.node (o23 P) (lf (o39 P)) (.nil))) (.node (o11 P) (.node (o19 P) (lf (o35 P)) (.nil)) (lf (o27 P)))) (.node (boot_o_5 P) (.node (boot_o_9 P) (.node (o17 P) (lf (o33 P)) (.nil)) (.node (o25 P) (lf (o41 P)) (.nil))) (.node (o13 P) (.node (o21 P) (lf (o37 P)) (.nil)) (lf (o29 P))))) (.node (o2 P) (.node (boot_o_4 P) (.node (boot_o_8 P) (.node (o16 P) (lf (o32 P)) (.nil)) (.node (o24 P) (lf (o40 P)) (.nil))) (.node (o12 P) (.node (o20 P) (lf (o36 P)) (.nil)) (lf (o28 P)))) (.node (boot_o_6 P) (.node (boot_o_10 P) (.node (o18 P) (lf (o34 P)) (.nil)) (.node (o26 P) (lf (o42 P)) (.nil))) (.node (o14 P) (.node (o22 P) (lf (o38 P)) (.nil)) (lf (o30 P)))))
noncomputable def shB0 (w : World) (os : OsState) : SharedT := ⟨trB0 w.params, 43, {}, ⟨[]⟩, {}, 1349, os⟩
noncomputable def psB0 : Pos := ⟨5, 0, 5, 11⟩
noncomputable def trB (P : Params) : BT := .node (boot_o_0 P) (.node (o1 P) (.node (o3_3 P) (.node (boot_o_7 P) (.node (o15 P) (lf (o31 P)) (.nil)) (.node (o23 P) (lf (o39 P)) (.nil))) (.node (o11 P) (.node (o19 P) (lf (o35 P)) (.nil)) (.node (o27 P) (lf (o43 P)) (.nil)))) (.node (boot_o_5 P) (.node (boot_o_9 P) (.node (o17 P) (lf (o33 P)) (.nil)) (.node (o25 P) (lf (o41 P)) (.nil))) (.node (o13 P) (.node (o21 P) (lf (o37 P)) (.nil)) (.node (o29 P) (lf (o45 P)) (.nil))))) (.node (o2 P) (.node (boot_o_4 P) (.node (boot_o_8 P) (.node (o16 P) (lf (o32 P)) (.nil)) (.node (o24 P) (lf (o40 P)) (.nil))) (.node (o12 P) (.node (o20 P) (lf (o36 P)) (.nil)) (.node (o28 P) (lf (o44 P)) (.nil)))) (.node (boot_o_6 P) (.node (boot_o_10 P) (.node (o18 P) (lf (o34 P)) (.nil)) (.node (o26 P) (lf (o42 P)) (.nil))) (.node (o14 P) (.node (o22 P) (lf (o38 P)) (.nil)) (.node (o30 P) (lf (o46 P)) (.nil)))))
noncomputable def shB (w : World) (os : OsState) : SharedT := ⟨trB w.params, 47, {}, ⟨[]⟩, {}, 1366, os⟩
noncomputable def psB : Pos := ⟨13, 0, 13, 8⟩
noncomputable def trC0 (P : Params) : BT := .node (boot_o_0 P) (.node (o1 P) (.node (o3_4 P) (.node (boot_o_7 P) (.node (o15 P) (lf (o31 P)) (lf (o47 P))) (.node (o23 P) (lf (o39 P)) (.nil))) (.node (o11 P) (.node (o19 P) (lf (o35 P)) (.nil)) (.node (o27 P) (lf (o43 P)) (.nil)))) (.node (boot_o_5 P) (.node (boot_o_9 P) (.node (o17 P) (lf (o33 P)) (lf (o49 P))) (.node (o25 P) (lf (o41 P)) (.nil))) (.node (o13 P) (.node (o21 P) (lf (o37 P)) (.nil)) (.node (o29 P) (lf (o45 P)) (.nil))))) (.node (o2 P) (.node (boot_o_4 P) (.node (boot_o_8 P) (.node (o16 P) (lf (o32 P)) (lf (o48 P))) (.node (o24 P) (lf (o40 P)) (.nil))) (.node (o12 P) (.node (o20 P) (lf (o36 P)) (.nil)) (.node (o28 P) (lf (o44_1 P)) (.nil)))) (.node (boot_o_6 P) (.node (boot_o_10 P) (.node (o18 P) (lf (o34 P)) (.nil)) (.node (o26 P) (lf (o42 P)) (.nil))) (.node (o14 P) (.node (o22 P) (lf (o38 P)) (.nil)) (.node (o30 P) (lf (o46 P)) (.nil)))))
noncomputable def shC0 (w : World) (os : OsState) : SharedT := ⟨trC0 w.params, 50, {}, ⟨[]⟩, {}, 1574, os⟩
noncomputable def psC0 : Pos := ⟨14, 9, 14, 74⟩
noncomputable def trC (P : Params) : BT := .node (boot_o_0 P) (.node (o1 P) (.node (o3_4 P) (.node (boot_o_7 P) (.node (o15 P) (lf (o31 P)) (lf (o47 P))) (.node (o23 P) (lf (o39 P)) (.nil))) (.node (o11 P) (.node (o19 P) (lf (o35 P)) (.nil)) (.node (o27 P) (lf (o43 P)) (.nil)))) (.node (boot_o_5 P) (.node (boot_o_9 P) (.node (o17 P) (lf (o33 P)) (lf (o49 P))) (.node (o25 P) (lf (o41 P)) (.nil))) (.node (o13 P) (.node (o21 P) (lf (o37 P)) (.nil)) (.node (o29 P) (lf (o45 P)) (.nil))))) (.node (o2 P) (.node (boot_o_4 P) (.node (boot_o_8 P) (.node (o16 P) (lf (o32 P)) (lf (o48 P))) (.node (o24 P) (lf (o40 P)) (.nil))) (.node (o12 P) (.node (o20 P) (lf (o36 P)) (.nil)) (.node (o28 P) (lf (o44_2 P)) (.nil)))) (.node (boot_o_6 P) (.node (boot_o_10 P) (.node (o18 P) (lf (o34 P)) (.nil)) (.node (o26 P) (lf (o42 P)) (.nil))) (.node (o14 P) (.node (o22 P) (lf (o38 P)) (.nil)) (.node (o30 P) (lf (o46 P)) (.nil)))))
noncomputable def shC (w : World) (os : OsState) : SharedT := ⟨trC w.params, 50, {}, ⟨[]⟩, {}, 1577, os⟩
noncomputable def psC : Pos := ⟨16, 0, 16, 28⟩
noncomputable def trD0 (P : Params) : BT := .node (boot_o_0 P) (.node (o1 P) (.node (o3_5 P) (.node (boot_o_7 P) (.node (o15 P) (lf (o31 P)) (lf (o47 P))) (.node (o23 P) (lf (o39 P)) (.nil))) (.node (o11 P) (.node (o19 P) (lf (o35 P)) (lf (o51 P))) (.node (o27 P) (lf (o43 P)) (.nil)))) (.node (boot_o_5 P) (.node (boot_o_9 P) (.node (o17 P) (lf (o33 P)) (lf (o49 P))) (.node (o25 P) (lf (o41 P)) (.nil))) (.node (o13 P) (.node (o21 P) (lf (o37 P)) (.nil)) (.node (o29 P) (lf (o45 P)) (.nil))))) (.node (o2 P) (.node (boot_o_4 P) (.node (boot_o_8 P) (.node (o16 P) (lf (o32 P)) (lf (o48 P))) (.node (o24 P) (lf (o40 P)) (.nil))) (.node (o12 P) (.node (o20 P) (lf (o36 P)) (lf (o52 P))) (.node (o28 P) (lf (o44_2 P)) (.nil)))) (.node (boot_o_6 P) (.node (boot_o_10 P) (.node (o18 P) (lf (o34 P)) (lf (o50 P))) (.node (o26 P) (lf (o42 P)) (.nil))) (.node (o14 P) (.node (o22 P) (lf (o38 P)) (.nil)) (.node (o30 P) (lf (o46_1 P)) (.nil)))))
noncomputable def shD0 (w : World) (os : OsState) : SharedT := ⟨trD0 w.params, 53, {}, ⟨[]⟩, {}, 1863, os⟩
noncomputable def psD0 : Pos := ⟨17, 9, 17, 110⟩
noncomputable def hpF (P : Params) : Heap := ⟨⟨[boot_o_0 P, o1 P, o2 P, o3_6 P, boot_o_4 P, boot_o_5 P, boot_o_6 P, boot_o_7 P, boot_o_8 P, boot_o_9 P, boot_o_10 P, o11 P, o12 P, o13 P, o14 P, o15 P, o16 P, o17 P, o18 P, o19 P, o20 P, o21 P, o22 P, o23 P, o24 P, o25 P, o26 P, o27 P, o28 P, o29_1 P, o30 P, o31 P, o32 P, o33 P, o34 P, o35 P, o36 P, o37 P, o38 P, o39 P, o40 P, o41 P, o42 P, o43 P, o44_2 P, o45 P, o46_1 P, o47 P, o48 P, o49 P, o50 P, o51 P, o52 P, o53 P, o54 P, o55 P, o56 P, o57 P, o58 P, o59 P, o60 P, o61 P, o62 P, o63 P, o64 P, o65 P, o66 P, o67 P, o68 P, o69 P, o70 P, o71 P, o72 P, o73 P, o74 P, o75 P, o76 P, o77 P, o78 P, o79 P, o80 P, o81 P, o82 P, o83 P, o84 P, o85 P, o86 P, o87 P, o88 P, o89 P, o90 P, o91 P, o92 P, o93 P, o94 P, o95 P, o96 P, o97 P, o98 P, o99 P, o100 P, o101 P, o102 P, o103 P, o104 P, o105 P, o106 P, o107 P, o108 P, o109 P, o110 P, o111 P, o112 P, o113 P, o114 P, o115 P, o116 P, o117 P, o118 P, o119 P, o120 P, o121 P]⟩, {}⟩
noncomputable def trF (P : Params) : BT := .node (boot_o_0 P) (.node (o1 P) (.node (o3_6 P) (.node (boot_o_7 P) (.node (o15 P) (.node (o31 P) (lf (o63 P)) (lf (o95 P))) (.node (o47 P) (lf (o79 P)) (lf (o111 P)))) (.node (o23 P) (.node (o39 P) (lf (o71 P)) (lf (o103 P))) (.node (o55 P) (lf (o87 P)) (lf (o119 P))))) (.node (o11 P) (.node (o19 P) (.node (o35 P) (lf (o67 P)) (lf (o99 P))) (.node (o51 P) (lf (o83 P)) (lf (o115 P)))) (.node (o27 P) (.node (o43 P) (lf (o75 P)) (lf (o107 P))) (.node (o59 P) (lf (o91 P)) (.nil))))) (.node (boot_o_5 P) (.node (boot_o_9 P) (.node (o17 P) (.node (o33 P) (lf (o65 P)) (lf (o97 P))) (.node (o49 P) (lf (o81 P)) (lf (o113 P)))) (.node (o25 P) (.node (o41 P) (lf (o73 P)) (lf (o105 P))) (.node (o57 P) (lf (o89 P)) (lf (o121 P))))) (.node (o13 P) (.node (o21 P) (.node (o37 P) (lf (o69 P)) (lf (o101 P))) (.node (o53 P) (lf (o85 P)) (lf (o117 P)))) (.node (o29_1 P) (.node (o45 P) (lf (o77 P)) (lf (o109 P))) (.node (o61 P) (lf (o93 P)) (.nil)))))) (.node (o2 P) (.node (boot_o_4 P) (.node (boot_o_8 P) (.node (o16 P) (.node (o32 P) (lf (o64 P)) (lf (o96 P))) (.node (o48 P) (lf (o80 P)) (lf (o112 P)))) (.node (o24 P) (.node (o40 P) (lf (o72 P)) (lf (o104 P))) (.node (o56 P) (lf (o88 P)) (lf (o120 P))))) (.node (o12 P) (.node (o20 P) (.node (o36 P) (lf (o68 P)) (lf (o100 P))) (.node (o52 P) (lf (o84 P)) (lf (o116 P)))) (.node (o28 P) (.node (o44_2 P) (lf (o76 P)) (lf (o108 P))) (.node (o60 P) (lf (o92 P)) (.nil))))) (.node (boot_o_6 P) (.node (boot_o_10 P) (.node (o18 P) (.node (o34 P) (lf (o66 P)) (lf (o98 P))) (.node (o50 P) (lf (o82 P)) (lf (o114 P)))) (.node (o26 P) (.node (o42 P) (lf (o74 P)) (lf (o106 P))) (.node (o58 P) (lf (o90 P)) (.nil)))) (.node (o14 P) (.node (o22 P) (.node (o38 P) (lf (o70 P)) (lf (o102 P))) (.node (o54 P) (lf (o86 P)) (lf (o118 P)))) (.node (o30 P) (.node (o46_1 P) (lf (o78 P)) (lf (o110 P))) (.node (o62 P) (lf (o94 P)) (.nil))))))
noncomputable def shF (w : World) (os : OsState) : SharedT := ⟨trF w.params, 122, {}, ⟨[]⟩, {}, 1962, os⟩
noncomputable def psF : Pos := ⟨115, 0, 137, 57⟩
noncomputable def i38 (i : Nat) : Obj := ⟨.type "range_iterator", none, .fields ⟨[.int i 0, .int (256 - i : Nat) 0, .int 1 0]⟩, ⟨[]⟩⟩
noncomputable def d40 (P : Params) (i : Nat) : Obj := ⟨.type "dict", none, .dict ⟨[de P (sx [99]) 325 (.int (i - 1 : Nat) (4 * i + 320))]⟩ 1, ⟨[]⟩⟩
noncomputable def trL3 (P : Params) (i : Nat) : BT := .node (boot_o_0 P) (.node (o1 P) (.node (o3_1 P) (.node (boot_o_7 P) (.node (o15 P) (lf (o31 P)) (.nil)) (.node (o23 P) (lf (lst i (qm i))) (.nil))) (.node (o11 P) (.node (o19 P) (lf (o35 P)) (.nil)) (lf (o27 P)))) (.node (boot_o_5 P) (.node (boot_o_9 P) (.node (o17 P) (lf (o33 P)) (.nil)) (lf (o25 P))) (.node (o13 P) (.node (o21 P) (lf (o37 P)) (.nil)) (lf (o29 P))))) (.node (o2 P) (.node (boot_o_4 P) (.node (boot_o_8 P) (.node (o16 P) (lf (o32 P)) (.nil)) (.node (o24 P) (lf (d40 P i)) (.nil))) (.node (o12 P) (.node (o20 P) (lf (o36 P)) (.nil)) (lf (o28 P)))) (.node (boot_o_6 P) (.node (boot_o_10 P) (.node (o18 P) (lf (o34 P)) (.nil)) (lf (o26 P))) (.node (o14 P) (.node (o22 P) (lf (i38 i)) (.nil)) (lf (o30 P)))))
noncomputable def shL3 (i : Nat) (w : World) (os : OsState) : SharedT := ⟨trL3 w.params i, 41, {}, ⟨[]⟩, {}, 4 * i + 324, os⟩
noncomputable def m3 (P : Params) (v : Value) : Obj := ⟨.type "dict", none, .dict ⟨[de P (sx [95, 95, 110, 97, 109, 101, 95, 95]) 165 (.str (sx [99, 112, 121, 51, 49, 51, 46, 101, 109, 97, 105, 108, 46, 113, 117, 111, 112, 114, 105, 109, 105, 109, 101]) 1364), de P (sx [95, 95, 100, 111, 99, 95, 95]) 166 (.none), de P (sx [95, 95, 112, 97, 99, 107, 97, 103, 101, 95, 95]) 167 (.none), de P (sx [95, 95, 108, 111, 97, 100, 101, 114, 95, 95]) 168 (.builtin "__main__.__loader__#opaque"), de P (sx [95, 95, 115, 112, 101, 99, 95, 95]) 169 (.none), de P (sx [95, 95, 97, 110, 110, 111, 116, 97, 116, 105, 111, 110, 115, 95, 95]) 170 (.ref 6), de P (sx [95, 95, 98, 117, 105, 108, 116, 105, 110, 115, 95, 95]) 171 (.ref 4), de P (sx [95, 95, 102, 105, 108, 101, 95, 95]) 173 (.str (sx [47, 99, 108, 97, 105, 109, 47, 99, 117, 116, 46, 112, 121]) 172), de P (sx [95, 95, 99, 97, 99, 104, 101, 100, 95, 95]) 174 (.none), de P (sx [95, 115, 114, 101]) 275 (.ref 12), de P (sx [95, 116, 119, 105, 110, 95, 114, 101, 95, 49]) 316 (.ref 36), de P (sx [67, 82, 76, 70]) 318 (.str (sx [13, 10]) 317), de P (sx [78, 76]) 320 (.str (sx [10]) 319), de P (sx [95, 81, 85, 79, 80, 82, 73, 95, 77, 65, 80]) 1348 (.ref 39), de P (sx [95, 81, 85, 79, 80, 82, 73, 95, 72, 69, 65, 68, 69, 82, 95, 77, 65, 80]) 1349 (.ref 44), de P (sx [95, 81, 85, 79, 80, 82, 73, 95, 66, 79, 68, 89, 95, 77, 65, 80]) 1350 (.ref 46), de P (sx [97, 115, 99, 105, 105, 95, 108, 111, 119, 101, 114, 99, 97, 115, 101]) 1352 (.str (sx [97, 98, 99, 100, 101, 102, 103, 104, 105, 106, 107, 108, 109, 110, 111, 112, 113, 114, 115, 116, 117, 118, 119, 120, 121, 122]) 1351), de P (sx [97, 115, 99, 105, 105, 95, 117, 112, 112, 101, 114, 99, 97, 115, 101]) 1354 (.str (sx [65, 66, 67, 68, 69, 70, 71, 72, 73, 74, 75, 76, 77, 78, 79, 80, 81, 82, 83, 84, 85, 86, 87, 88, 89, 90]) 1353), de P (sx [97, 115, 99, 105, 105, 95, 108, 101, 116, 116, 101, 114, 115]) 1356 (.str (sx [97, 98, 99, 100, 101, 102, 103, 104, 105, 106, 107, 108, 109, 110, 111, 112, 113, 114, 115, 116, 117, 118, 119, 120, 121, 122, 65, 66, 67, 68, 69, 70, 71, 72, 73, 74, 75, 76, 77, 78, 79, 80, 81, 82, 83, 84, 85, 86, 87, 88, 89, 90]) 1355), de P (sx [100, 105, 103, 105, 116, 115]) 1358 (.str (sx [48, 49, 50, 51, 52, 53, 54, 55, 56, 57]) 1357), de P (sx [104, 101, 120, 100, 105, 103, 105, 116, 115]) 1363 (.str (sx [48, 49, 50, 51, 52, 53, 54, 55, 56, 57, 97, 98, 99, 100, 101, 102, 65, 66, 67, 68, 69, 70]) 1362), de P (sx [99]) 1374 v]⟩ 22, ⟨[]⟩⟩
noncomputable def it (l : List Nat) (t i : Nat) : Obj := ⟨.type "bytes_iterator", none, .fields ⟨[.bytes (bx l) t, .int i 0]⟩, ⟨[]⟩⟩
noncomputable def cAt (l : List Nat) (i : Nat) : Int := (l.getD (i - 1) 0 : Nat)
noncomputable def trL12 (P : Params) (i : Nat) : BT := .node (boot_o_0 P) (.node (o1 P) (.node (m3 P (.int (cAt bs12 i) (3 * i + 1370))) (.node (boot_o_7 P) (.node (o15 P) (lf (o31 P)) (lf (it bs12 1372 i))) (.node (o23 P) (lf (o39 P)) (.nil))) (.node (o11 P) (.node (o19 P) (lf (o35 P)) (.nil)) (.node (o27 P) (lf (o43 P)) (.nil)))) (.node (boot_o_5 P) (.node (boot_o_9 P) (.node (o17 P) (lf (o33 P)) (.nil)) (.node (o25 P) (lf (o41 P)) (.nil))) (.node (o13 P) (.node (o21 P) (lf (o37 P)) (.nil)) (.node (o29 P) (lf (o45 P)) (.nil))))) (.node (o2 P) (.node (boot_o_4 P) (.node (boot_o_8 P) (.node (o16 P) (lf (o32 P)) (.nil)) (.node (o24 P) (lf (o40 P)) (.nil))) (.node (o12 P) (.node (o20 P) (lf (o36 P)) (.nil)) (.node (o28 P) (lf (lst 0 (h44 i))) (.nil)))) (.node (boot_o_6 P) (.node (boot_o_10 P) (.node (o18 P) (lf (o34 P)) (.nil)) (.node (o26 P) (lf (o42 P)) (.nil))) (.node (o14 P) (.node (o22 P) (lf (o38 P)) (.nil)) (.node (o30 P) (lf (o46 P)) (.nil)))))
noncomputable def shL12 (i : Nat) (w : World) (os : OsState) : SharedT := ⟨trL12 w.params i, 48, {}, ⟨[]⟩, {}, 3 * i + 1373, os⟩
noncomputable def trL14 (P : Params) (i : Nat) : BT := .node (boot_o_0 P) (.node (o1 P) (.node (m3 P (.int (cAt bs14 i) (3 * i + 1575))) (.node (boot_o_7 P) (.node (o15 P) (lf (o31 P)) (lf (o47 P))) (.node (o23 P) (lf (o39 P)) (.nil))) (.node (o11 P) (.node (o19 P) (lf (o35 P)) (.nil)) (.node (o27 P) (lf (o43 P)) (.nil)))) (.node (boot_o_5 P) (.node (boot_o_9 P) (.node (o17 P) (lf (o33 P)) (lf (o49 P))) (.node (o25 P) (lf (o41 P)) (.nil))) (.node (o13 P) (.node (o21 P) (lf (o37 P)) (.nil)) (.node (o29 P) (lf (o45 P)) (.nil))))) (.node (o2 P) (.node (boot_o_4 P) (.node (boot_o_8 P) (.node (o16 P) (lf (o32 P)) (lf (o48 P))) (.node (o24 P) (lf (o40 P)) (.nil))) (.node (o12 P) (.node (o20 P) (lf (o36 P)) (.nil)) (.node (o28 P) (lf (o44_2 P)) (.nil)))) (.node (boot_o_6 P) (.node (boot_o_10 P) (.node (o18 P) (lf (o34 P)) (lf (it bs14 1577 i))) (.node (o26 P) (lf (o42 P)) (.nil))) (.node (o14 P) (.node (o22 P) (lf (o38 P)) (.nil)) (.node (o30 P) (lf (lst 0 (h46 i))) (.nil)))))
noncomputable def shL14 (i : Nat) (w : World) (os : OsState) : SharedT := ⟨trL14 w.params i, 51, {}, ⟨[]⟩, {}, 3 * i + 1578, os⟩
noncomputable def KK (P : Params) : Frag := [(2, o2 P), (3, o3_6 P), (6, boot_o_6 P), (11, o11 P), (12, o12 P), (35, o35 P), (36, o36 P), (39, o39 P), (44, o44_2 P), (46, o46_1 P), (53, o53 P), (55, o55 P), (56, o56 P), (58, o58 P), (59, o59 P), (60, o60 P), (62, o62 P), (63, o63 P), (65, o65 P), (66, o66 P), (67, o67 P), (68, o68 P), (70, o70 P), (71, o71 P), (73, o73 P), (74, o74 P), (76, o76 P), (80, o80 P), (81, o81 P), (83, o83 P), (84, o84 P), (86, o86 P), (87, o87 P), (88, o88 P), (89, o89 P), (91, o91 P), (92, o92 P), (94, o94 P), (95, o95 P), (96, o96 P), (98, o98 P), (99, o99 P), (101, o101 P), (102, o102 P), (103, o103 P), (105, o105 P), (106, o106 P), (108, o108 P), (109, o109 P), (110, o110 P), (112, o112 P), (113, o113 P), (115, o115 P), (116, o116 P), (117, o117 P), (120, o120 P), (121, o121 P)]
noncomputable def kA : List Addr := [2, 3, 6, 11, 12, 35, 36, 39, 44, 46, 53, 55, 56, 58, 59, 60, 62, 63, 65, 66, 67, 68, 70, 71, 73, 74, 76, 80, 81, 83, 84, 86, 87, 88, 89, 91, 92, 94, 95, 96, 98, 99, 101, 102, 103, 105, 106, 108, 109, 110, 112, 113, 115, 116, 117, 120, 121]
end Mine
end

section
open PySem PySem.W PyProof.Rows PySem.Calls
set_option Elab.async false
set_option maxRecDepth 100000
namespace Mine
noncomputable abbrev qGo := PySem.W.Fast.tw10295753902157049106
noncomputable abbrev qRun := PySem.W.Fast.tw10110043849684766642
noncomputable abbrev qTb := PySem.W.Fast.tw14364793385576792824
noncomputable abbrev qDen := PySem.W.Fast.tw11892475500146522536
noncomputable abbrev qExecs := PySem.W.Fast.tw12563942051412417395
theorem eGo : @segGoT = @qGo := PySem.W.Fast.te10295753902157049106
theorem eRun : @segRunT = @qRun := PySem.W.Fast.te10110043849684766642
theorem eTb : treeTable = qTb := PySem.W.Fast.te14364793385576792824
theorem eDen : @denote = @qDen := PySem.W.Fast.te11892475500146522536
theorem eExecs : @execs = @qExecs := PySem.W.Fast.te12563942051412417395

/-- a for loop's code, as its statement says -/
noncomputable def cFor (i a : Nat) : Code := match stAt i with
  | .For t _ b o _ => .forLoop t (.ref a) b o env
  | _ => default
noncomputable def c12 : Code := cFor 12 47
noncomputable def p12 : Pos := ⟨15, 4, 15, 25⟩
noncomputable def c14 : Code := cFor 14 50
noncomputable def p14 : Pos := ⟨18, 4, 18, 23⟩
noncomputable def c3 : Code := match stAt 3 with
  | .Assign _ e _ => match e with
    | .ListComp _ _ sc _ => .compLoop e 0 (.ref 38) (.ref 39) { env with scope := sc, locals := 40 }
    | _ => default
  | _ => default
noncomputable def p3 : Pos := ⟨5, 15, 5, 26⟩
abbrev GoT := (String → Option Builtin) → Program → World → Nat → Option Value → Nat → Nat → SharedT → Thread → Option (SharedT × Thread)
abbrev DenT := (String → Option Builtin) → Code → Sem Fin
abbrev an : Option Value := some (.ref 6)
/-- the turns of a loop from a to b, in n steps -/
def Turns (go : GoT) (den : DenT) (tb : String → Option Builtin) (c : Code) (p : Pos) (S : Nat → World → OsState → SharedT) (a b n : Nat) : Prop :=
  ∀ (w : World) (os : OsState) (k : Result → Sem Fin) (h : Option Value) (g : Bool) (l : List Value) (cd : Code) (q : Pos) (kept : List Value),
    go tb PG w 28 an 1 n (S a w os) ⟨den tb c, c, p, .ret k h g l cd q kept :: fB⟩ = some (S b w os, ⟨den tb c, c, p, .ret k h g l cd q kept :: fB⟩)
abbrev sRun (w : World) (n : Nat) (s : Shared) (t : Thread) := segRun treeTable PG w 28 an 1 n s t
/-- what runs on from the turn b runs on from the turn a -/
def Chain (c : Code) (p : Pos) (S : Nat → World → OsState → SharedT) (a b n : Nat) : Prop :=
  ∀ (w : World) (os : OsState) (k : Result → Sem Fin) (h : Option Value) (g : Bool) (l : List Value) (cd : Code) (q : Pos) (kept : List Value) (N : Nat) (r : Flow × Shared × Code × Pos),
    sRun w N (S b w os).abs ⟨denote treeTable c, c, p, .ret k h g l cd q kept :: fB⟩ = some r → sRun w (n + N) (S a w os).abs ⟨denote treeTable c, c, p, .ret k h g l cd q kept :: fB⟩ = some r
section
variable {c : Code} {p : Pos} {S : Nat → World → OsState → SharedT}
theorem Turns.back {a b n : Nat} (T : Turns qGo qDen qTb c p S a b n) : Turns segGoT denote treeTable c p S a b n := by
  rw [eGo, eDen, eTb]; exact T
theorem Chain.of {a b n : Nat} (T : Turns qGo qDen qTb c p S a b n) : Chain c p S a b n :=
  fun w os k h g l cd q kept _ _ x => seg_go (segGo_of (T.back w os k h g l cd q kept)) x
theorem Chain.trans {a b e n m : Nat} (x : Chain c p S a b n) (y : Chain c p S b e m) : Chain c p S a e (n + m) :=
  fun w os k h g l cd q kept N r z => by rw [Nat.add_assoc]; exact x w os k h g l cd q kept _ r (y w os k h g l cd q kept N r z)
end
noncomputable abbrev qTh (l : List Stmt) (p : Pos) : Thread := ⟨(qExecs l env).wrap doneF deadEnd id id, cE, p, fB⟩
def isRet : Frame → Bool
  | .ret .. => true
  | _ => false
noncomputable def below (r : Option (SharedT × Thread)) : Frame := match r with
  | some (_, ⟨_, _, _, f :: _⟩) => f
  | _ => topFrame p0
theorem piece_of {w : World} {n : Nat} {s s' : SharedT} {l : List Stmt} {p p' : Pos} (h : qRun qTb PG w 28 an 1 n s (qTh l p) = some (.next, s', cE, p')) :
    sRun w n s.abs (piecesOf l env cE p fB) = some (.next, s'.abs, cE, p') := by
  have h : segRunT treeTable PG w 28 an 1 n s ⟨(execs l env).wrap doneF deadEnd id id, cE, p, fB⟩ = some (.next, s', cE, p') := by rw [eRun, eTb, eExecs]; exact h
  exact segRun_of h
theorem loop_piece {w : World} {os : OsState} {s s' : SharedT} {S : Nat → World → OsState → SharedT} {l : List Stmt} {p p' q : Pos} {c : Code} {a b n₀ n n₁ : Nat} {F : Frame}
    (ent : qGo qTb PG w 28 an 1 n₀ s (qTh l p) = some (S a w os, ⟨qDen qTb c, c, q, F :: fB⟩)) (ret : isRet F = true) (T : Chain c q S a b n)
    (ex : qRun qTb PG w 28 an 1 n₁ (S b w os) ⟨qDen qTb c, c, q, F :: fB⟩ = some (.next, s', cE, p')) :
    sRun w (n₀ + (n + n₁)) s.abs (piecesOf l env cE p fB) = some (.next, s'.abs, cE, p') := by
  have ent : segGoT treeTable PG w 28 an 1 n₀ s ⟨(execs l env).wrap doneF deadEnd id id, cE, p, fB⟩ = some (S a w os, ⟨denote treeTable c, c, q, F :: fB⟩) := by rw [eGo, eTb, eExecs, eDen]; exact ent
  have ex : segRunT treeTable PG w 28 an 1 n₁ (S b w os) ⟨denote treeTable c, c, q, F :: fB⟩ = some (.next, s', cE, p') := by rw [eRun, eTb, eDen]; exact ex
  cases F with
  | gen => cases ret
  | ret k h g l cd q' kept => exact seg_go (segGo_of ent) (T w os k h g l cd q' kept _ _ (segRun_of ex))
end Mine
end

section
open PySem PySem.W PyProof.Rows PySem.Calls
set_option Elab.async false
set_option maxRecDepth 100000
namespace Mine
theorem tn3_0 : Turns qGo qDen qTb c3 p3 shL3 1 16 555 := fun w os k h g l cd q kept => by kernel_rfl
theorem tn3_1 : Turns qGo qDen qTb c3 p3 shL3 16 31 555 := fun w os k h g l cd q kept => by kernel_rfl
theorem tn3_2 : Turns qGo qDen qTb c3 p3 shL3 31 46 555 := fun w os k h g l cd q kept => by kernel_rfl
theorem tn3_3 : Turns qGo qDen qTb c3 p3 shL3 46 61 555 := fun w os k h g l cd q kept => by kernel_rfl
theorem tn3_4 : Turns qGo qDen qTb c3 p3 shL3 61 76 555 := fun w os k h g l cd q kept => by kernel_rfl
theorem tn3_5 : Turns qGo qDen qTb c3 p3 shL3 76 91 555 := fun w os k h g l cd q kept => by kernel_rfl
theorem tn3_6 : Turns qGo qDen qTb c3 p3 shL3 91 106 555 := fun w os k h g l cd q kept => by kernel_rfl
theorem tn3_7 : Turns qGo qDen qTb c3 p3 shL3 106 121 555 := fun w os k h g l cd q kept => by kernel_rfl
theorem tn3_8 : Turns qGo qDen qTb c3 p3 shL3 121 136 555 := fun w os k h g l cd q kept => by kernel_rfl
theorem tn3_9 : Turns qGo qDen qTb c3 p3 shL3 136 151 555 := fun w os k h g l cd q kept => by kernel_rfl
theorem tn3_10 : Turns qGo qDen qTb c3 p3 shL3 151 166 555 := fun w os k h g l cd q kept => by kernel_rfl
theorem tn3_11 : Turns qGo qDen qTb c3 p3 shL3 166 181 555 := fun w os k h g l cd q kept => by kernel_rfl
theorem tn3_12 : Turns qGo qDen qTb c3 p3 shL3 181 196 555 := fun w os k h g l cd q kept => by kernel_rfl
theorem tn3_13 : Turns qGo qDen qTb c3 p3 shL3 196 211 555 := fun w os k h g l cd q kept => by kernel_rfl
theorem tn3_14 : Turns qGo qDen qTb c3 p3 shL3 211 226 555 := fun w os k h g l cd q kept => by kernel_rfl
theorem tn3_15 : Turns qGo qDen qTb c3 p3 shL3 226 241 555 := fun w os k h g l cd q kept => by kernel_rfl
theorem tn3_16 : Turns qGo qDen qTb c3 p3 shL3 241 256 555 := fun w os k h g l cd q kept => by kernel_rfl
theorem tn3 : Chain c3 p3 shL3 1 256 9435 := ((((((((((((((((Chain.of tn3_0).trans (Chain.of tn3_1)).trans (Chain.of tn3_2)).trans (Chain.of tn3_3)).trans (Chain.of tn3_4)).trans (Chain.of tn3_5)).trans (Chain.of tn3_6)).trans (Chain.of tn3_7)).trans (Chain.of tn3_8)).trans (Chain.of tn3_9)).trans (Chain.of tn3_10)).trans (Chain.of tn3_11)).trans (Chain.of tn3_12)).trans (Chain.of tn3_13)).trans (Chain.of tn3_14)).trans (Chain.of tn3_15)).trans (Chain.of tn3_16)
theorem tn12_0 : Turns qGo qDen qTb c12 p12 shL12 1 23 990 := fun w os k h g l cd q kept => by kernel_rfl
theorem tn12_1 : Turns qGo qDen qTb c12 p12 shL12 23 45 990 := fun w os k h g l cd q kept => by kernel_rfl
theorem tn12_2 : Turns qGo qDen qTb c12 p12 shL12 45 67 990 := fun w os k h g l cd q kept => by kernel_rfl
theorem tn12 : Chain c12 p12 shL12 1 67 2970 := ((Chain.of tn12_0).trans (Chain.of tn12_1)).trans (Chain.of tn12_2)
theorem tn14_0 : Turns qGo qDen qTb c14 p14 shL14 1 25 1080 := fun w os k h g l cd q kept => by kernel_rfl
theorem tn14_1 : Turns qGo qDen qTb c14 p14 shL14 25 48 1035 := fun w os k h g l cd q kept => by kernel_rfl
theorem tn14_2 : Turns qGo qDen qTb c14 p14 shL14 48 72 1080 := fun w os k h g l cd q kept => by kernel_rfl
theorem tn14_3 : Turns qGo qDen qTb c14 p14 shL14 72 95 1035 := fun w os k h g l cd q kept => by kernel_rfl
theorem tn14 : Chain c14 p14 shL14 1 95 4230 := (((Chain.of tn14_0).trans (Chain.of tn14_1)).trans (Chain.of tn14_2)).trans (Chain.of tn14_3)
end Mine
end

section
open PySem PySem.W PyProof.Rows PySem.Calls
set_option Elab.async false
set_option maxRecDepth 100000
namespace Mine
noncomputable abbrev qTopGo := PySem.W.Fast.tw15667345088766844465
noncomputable abbrev qTopRun := PySem.W.Fast.tw14082659384304107361
theorem eTopGo : @topGo = @qTopGo := PySem.W.Fast.te15667345088766844465
theorem eTopRun : @topRun = @qTopRun := PySem.W.Fast.te14082659384304107361
noncomputable abbrev part (a n : Nat) : List Stmt := (bd.drop a).take n
abbrev r1 : String := "special-get-raises"
abbrev r2 : String := "comprehension-iter-twice"

theorem run_pre (w : World) (os : OsState) : topGo treeTable PG w 28 an 12 ⟨hps0 w.params, ⟨[]⟩, {}, 276, os⟩ (topStub PG) = some ((shPre w os).abs, ⟨denote treeTable cE, cE, p0, fB⟩) := by
  rw [eTopGo, eTb, eDen]; kernel_rfl
theorem run_block (w : World) (os : OsState) : sRun w 1 (shPre w os).abs (blockOf bd env cE p0 fB) = some (.next, (shPre w os).abs, cE, p0) := by kernel_rfl
theorem run_A (w : World) (os : OsState) : sRun w 97 (shPre w os).abs (piecesOf (part 0 3) env cE p0 fB) = some (.next, (shA w os).abs, cE, psA) := piece_of (by kernel_rfl)
theorem run_B (w : World) (os : OsState) : sRun w 133 (shB0 w os).abs (piecesOf (part 4 8) env cE psB0 fB) = some (.next, (shB w os).abs, cE, psB) := piece_of (by kernel_rfl)
theorem run_C (w : World) (os : OsState) : sRun w 25 (shC0 w os).abs (piecesOf (part 13 1) env cE psC0 fB) = some (.next, (shC w os).abs, cE, psC) := piece_of (by kernel_rfl)
theorem run_D (w : World) : ∀ os : OsState, sRun w 452 (shD0 w os).abs (piecesOf (part 15 13) env cE psD0 fB) = some (.next, (shF w os).abs, cE, psF) :=
  byRow2 r1 (P := fun w => ∀ os : OsState, sRun w 452 (shD0 w os).abs (piecesOf (part 15 13) env cE psD0 fB) = some (.next, (shF w os).abs, cE, psF)) (fun w os => piece_of (by kernel_rfl)) (fun w os => piece_of (by kernel_rfl)) w
theorem run_fin (w : World) (os : OsState) : topRun treeTable PG w 28 an 2 (shF w os).abs ⟨doneF .next, cE, psF, fB⟩ = some ⟨hpF w.params, ⟨[]⟩, {}, 1962, os⟩ := by
  rw [eTopRun, eTb]; kernel_rfl
end Mine
end

section
open PySem PySem.W PyProof.Rows PySem.Calls
set_option Elab.async false
set_option maxRecDepth 100000
namespace Mine
noncomputable def f12 (w : World) (os : OsState) : Frame := below (qGo qTb PG w 28 an 1 89 (shB w os) (qTh (part 12 1) psB))
noncomputable def f14 (w : World) (os : OsState) : Frame := below (qGo qTb PG w 28 an 1 55 (shC w os) (qTh (part 14 1) psC))
noncomputable def f3 (n : Nat) (w : World) (os : OsState) : Frame := below (qGo qTb PG w 28 an 1 n (shA w os) (qTh (part 3 1) psA))
theorem run_12 (w : World) (os : OsState) : sRun w 3077 (shB w os).abs (piecesOf (part 12 1) env cE psB fB) = some (.next, (shC0 w os).abs, cE, psC0) := by
  refine loop_piece (os := os) (S := shL12) (a := 1) (b := 67) (n₀ := 89) (n := 2970) (n₁ := 18) (c := c12) (q := p12) (F := f12 w os) ?_ ?_ tn12 ?_
  · exact byRow2 r1 (P := fun w => qGo qTb PG w 28 an 1 89 (shB w os) (qTh (part 12 1) psB) = some (shL12 1 w os, ⟨qDen qTb c12, c12, p12, f12 w os :: fB⟩)) (fun w => by kernel_rfl) (fun w => by kernel_rfl) w
  · exact byRow2 r1 (P := fun w => isRet (f12 w os) = true) (fun w => by kernel_rfl) (fun w => by kernel_rfl) w
  · exact byRow2 r1 (P := fun w => qRun qTb PG w 28 an 1 18 (shL12 67 w os) ⟨qDen qTb c12, c12, p12, f12 w os :: fB⟩ = some (.next, shC0 w os, cE, psC0)) (fun w => by kernel_rfl) (fun w => by kernel_rfl) w
theorem run_14 (w : World) (os : OsState) : sRun w 4303 (shC w os).abs (piecesOf (part 14 1) env cE psC fB) = some (.next, (shD0 w os).abs, cE, psD0) := by
  refine loop_piece (os := os) (S := shL14) (a := 1) (b := 95) (n₀ := 55) (n := 4230) (n₁ := 18) (c := c14) (q := p14) (F := f14 w os) ?_ ?_ tn14 ?_
  · exact byRow2 r1 (P := fun w => qGo qTb PG w 28 an 1 55 (shC w os) (qTh (part 14 1) psC) = some (shL14 1 w os, ⟨qDen qTb c14, c14, p14, f14 w os :: fB⟩)) (fun w => by kernel_rfl) (fun w => by kernel_rfl) w
  · exact byRow2 r1 (P := fun w => isRet (f14 w os) = true) (fun w => by kernel_rfl) (fun w => by kernel_rfl) w
  · exact byRow2 r1 (P := fun w => qRun qTb PG w 28 an 1 18 (shL14 95 w os) ⟨qDen qTb c14, c14, p14, f14 w os :: fB⟩ = some (.next, shD0 w os, cE, psD0)) (fun w => by kernel_rfl) (fun w => by kernel_rfl) w
theorem run_3true (w : World) (os : OsState) : sRun (w.withFollow r2 true) 9552 (shA (w.withFollow r2 true) os).abs (piecesOf (part 3 1) env cE psA fB) = some (.next, (shB0 (w.withFollow r2 true) os).abs, cE, psB0) := by
  refine loop_piece (os := os) (S := shL3) (a := 1) (b := 256) (n₀ := 79) (n := 9435) (n₁ := 38) (c := c3) (q := p3) (F := f3 79 (w.withFollow r2 true) os) ?_ ?_ tn3 ?_
  · exact byRow2 r1 (P := fun w => qGo qTb PG (w.withFollow r2 true) 28 an 1 79 (shA (w.withFollow r2 true) os) (qTh (part 3 1) psA) = some (shL3 1 (w.withFollow r2 true) os, ⟨qDen qTb c3, c3, p3, f3 79 (w.withFollow r2 true) os :: fB⟩)) (fun w => by kernel_rfl) (fun w => by kernel_rfl) w
  · exact byRow2 r1 (P := fun w => isRet (f3 79 (w.withFollow r2 true) os) = true) (fun w => by kernel_rfl) (fun w => by kernel_rfl) w
  · exact byRow2 r1 (P := fun w => qRun qTb PG (w.withFollow r2 true) 28 an 1 38 (shL3 256 (w.withFollow r2 true) os) ⟨qDen qTb c3, c3, p3, f3 79 (w.withFollow r2 true) os :: fB⟩ = some (.next, shB0 (w.withFollow r2 true) os, cE, psB0)) (fun w => by kernel_rfl) (fun w => by kernel_rfl) w
theorem run_3false (w : World) (os : OsState) : sRun (w.withFollow r2 false) 9552 (shA (w.withFollow r2 false) os).abs (piecesOf (part 3 1) env cE psA fB) = some (.next, (shB0 (w.withFollow r2 false) os).abs, cE, psB0) := by
  refine loop_piece (os := os) (S := shL3) (a := 1) (b := 256) (n₀ := 89) (n := 9435) (n₁ := 28) (c := c3) (q := p3) (F := f3 89 (w.withFollow r2 false) os) ?_ ?_ tn3 ?_
  · exact byRow2 r1 (P := fun w => qGo qTb PG (w.withFollow r2 false) 28 an 1 89 (shA (w.withFollow r2 false) os) (qTh (part 3 1) psA) = some (shL3 1 (w.withFollow r2 false) os, ⟨qDen qTb c3, c3, p3, f3 89 (w.withFollow r2 false) os :: fB⟩)) (fun w => by kernel_rfl) (fun w => by kernel_rfl) w
  · exact byRow2 r1 (P := fun w => isRet (f3 89 (w.withFollow r2 false) os) = true) (fun w => by kernel_rfl) (fun w => by kernel_rfl) w
  · exact byRow2 r1 (P := fun w => qRun qTb PG (w.withFollow r2 false) 28 an 1 28 (shL3 256 (w.withFollow r2 false) os) ⟨qDen qTb c3, c3, p3, f3 89 (w.withFollow r2 false) os :: fB⟩ = some (.next, shB0 (w.withFollow r2 false) os, cE, psB0)) (fun w => by kernel_rfl) (fun w => by kernel_rfl) w
theorem run_3 (w : World) (os : OsState) : sRun w 9552 (shA w os).abs (piecesOf (part 3 1) env cE psA fB) = some (.next, (shB0 w os).abs, cE, psB0) :=
  byRow2 r2 (P := fun w => sRun w 9552 (shA w os).abs (piecesOf (part 3 1) env cE psA fB) = some (.next, (shB0 w os).abs, cE, psB0)) (fun w => run_3false w os) (fun w => run_3true w os) w
theorem seg_app {w : World} {n N a k : Nat} {s s' r : Shared} {p p' : Pos} (h : sRun w n s (piecesOf (part a k) env cE p fB) = some (.next, s', cE, p'))
    (x : topRun treeTable PG w 28 an N s' (restOf (bd.drop (a + k)) env cE p' fB) = some r) : topRun treeTable PG w 28 an (n + N) s (restOf (bd.drop a) env cE p fB) = some r := by
  have e : bd.drop a = part a k ++ bd.drop (a + k) := by rw [← List.drop_drop]; exact (List.take_append_drop k (bd.drop a)).symm
  rw [e]
  exact piece_app h x
theorem run_top (w : World) (os : OsState) : topRun treeTable PG w 28 an (12 + (1 + (97 + (9552 + (133 + (3077 + (25 + (4303 + (452 + 2))))))))) ⟨hps0 w.params, ⟨[]⟩, {}, 276, os⟩ (topStub PG) = some ⟨hpF w.params, ⟨[]⟩, {}, 1962, os⟩ := by
  refine go_top (run_pre w os) (piece_block (run_block w os) ?_)
  refine seg_app (a := 0) (k := 3) (run_A w os) ?_
  refine seg_app (run_3 w os) ?_
  refine seg_app (run_B w os) ?_
  refine seg_app (run_12 w os) ?_
  refine seg_app (run_C w os) ?_
  refine seg_app (run_14 w os) ?_
  refine seg_app (run_D w os) ?_
  have e : bd.drop (15 + 13) = [] := by kernel_rfl
  rw [e]
  exact piece_nil (run_fin w os)
end Mine
end

section
open PySem PySem.W PyProof.Rows PySem.Calls
set_option Elab.async false
set_option maxRecDepth 100000
namespace Mine
theorem h_size (w : World) : ((hps0 w.params).isNs mainGlobals && (⟨[]⟩ : Array GenState).size == 0, (hps0 w.params).objs.size, (hps0 w.params).nsMap mainGlobals "__annotations__") = (true, 28, an) := by kernel_rfl
theorem h_open (w : World) : (fencedOpening treeTable PG w 35390).map (fun s => (s.heap, s.gens, s.drawn, s.toks)) = some (hps0 w.params, ⟨[]⟩, {}, 276) := by
  unfold fencedOpening
  rw [eTb, show @importEnds = _ from PySem.W.Fast.te10274390034422433532, show @fenceModules? = _ from PySem.W.Fast.te14289696077712309145, show @start = _ from PySem.W.Fast.te1435165496053646825]
  kernel_rfl
noncomputable def vw : Program := { PG with main := { PG.main with body := [0, 1, 2, 3, 4, 5, 6, 7, 8, 9, 10, 11, 16, 17, 19, 24, 25, 27, 28].map fun i => PG.main.body.getD i (.Pass p0) } }
noncomputable def loo : List Str := ["_twin_re_1", "_QUOPRI_MAP", "_QUOPRI_HEADER_MAP", "_QUOPRI_BODY_MAP", "ascii_letters", "hexdigits", "header_encode", "_QUOPRI_BODY_ENCODE_MAP", "body_encode", "decode"].map Str.ofString
noncomputable def lvv : List (Str × WData) := [("ascii_letters", .str (sx (List.range' 97 26 ++ List.range' 65 26))), ("hexdigits", .str (sx (List.range' 48 10 ++ List.range' 97 6 ++ List.range' 65 6)))]
theorem kA_eq (P : Params) : kA = (KK P).map (·.1) := by kernel_rfl
noncomputable abbrev HK : Hook := kHook KK kA kA_eq
noncomputable abbrev qSeen := PySem.W.Fast.tw4187177175401517315
theorem eSeen : @openSeen = @qSeen := PySem.W.Fast.te4187177175401517315
noncomputable abbrev sF (w : World) (os : OsState) : Shared := ⟨hpF w.params, ⟨[]⟩, {}, 1962, os⟩
noncomputable abbrev xt (s : Shared) : Bool := xlAt vw lvv s && recOk [] s
theorem l_tests (w : World) (os : OsState) : (staticsOk (importedModules PG.main.body) (hps0 w.params) (hpF w.params) && namesBound PG (hpF w.params) && gensDone (sF w os) && laidKept (hps0 w.params) (hpF w.params)) = true := by kernel_rfl
theorem l_obs (w : World) (os : OsState) : HK.obs (sF w os) = HK.val w := by kernel_rfl
theorem l_seen (w : World) (os : OsState) : openSeen vw loo (importedModules PG.main.body) xt true (sF w os) = openGood vw loo := by
  rw [eSeen]
  kernel_rfl
end Mine
end

section
open PySem PySem.W PyProof.Rows PySem.Calls
set_option Elab.async false
set_option maxRecDepth 100000
namespace Mine
noncomputable def lawD : DefRec × List (Str × Expr) := (defOf vw (Str.ofString "law")).getD ({ name := sx [], params := ⟨[], [], none, [], [], none, []⟩, body := [], scope := default, pos := p0 }, [])
theorem left : LeftO PG vw loo xt HK.obs HK.val 35390 :=
  LeftO.of_pieces h_open h_size run_top (by decide) fun w => funext fun os => Prod.ext (l_tests w os) (Prod.ext (l_seen w os) (l_obs w os))
theorem said : PySem.Challenge.rw_dp0022_01.wellSaid = true := by
  unfold OpenLaw.wellSaid OpenRow.wellSaid OpenRow.partSaid looksOpen
  repeat' with_reducible refine look_both ?_ ?_
  all_goals decide +kernel
set_option maxHeartbeats 0 in
theorem hd (walk : WalkO vw loo (XL vw lvv) HK.says PySem.Challenge.rw_dp0022_01.row.toRowW lawD.1 lawD.2 fun f vs => PySem.call f vs) : PySem.Challenge.rw_dp0022_01.Holds := by
  refine holds_law said fun said' => ?_
  refine PySem.W.holds_open (r := PySem.Challenge.rw_dp0022_01.row) (q := vw) (loose := loo) (Xt := xt) (XP := XL vw lvv) (Yf := HK.obs) (Ya := HK.val) (YP := HK.says) (N := 35390) left HK.of HK.keeps (fun s e => xl_of s (Bool.and_eq_true_iff.mp e).1) XL.keeps
    (by kernel_rfl) (by kernel_rfl) (by kernel_rfl) (fun s e => recFacts_of (Bool.and_eq_true_iff.mp e).2) (by rfl) said' (by decide +kernel) ⟨rfl, rfl, rfl, rfl, rfl, by decide +kernel⟩ ?_ walk
  exact ⟨[.list []], by decide +kernel, by decide +kernel⟩
end Mine
end

section
open PySem PySem.W PyProof.Rows PySem.Calls
set_option Elab.async false
set_option maxRecDepth 100000
namespace Mine

abbrev Binds := List (Str × Value)

def frFd : Option Obj → FuncData
  | some ⟨_, _, .func f, _⟩ => f
  | _ => default
noncomputable def fdOf (P : Params) (a : Addr) : FuncData := frFd ((KK P).lookup a)

/-- what the call knows of one frame: the state it began in, its locals, the objects made -/
structure St (s₀ : Shared) (L : Addr) (bs : Binds) (N : List (Addr × Obj)) (s : Shared) : Prop where
  eqv : ∃ h tk, s = { s₀ with heap := h, toks := tk }
  fr : Fr s₀.heap L s.heap (fun y => bs.lookup y)
  nw : News s₀.heap L s.heap N
  nd : (N.map (·.1)).Nodup
  tk : s₀.toks < s.toks

section
variable {s₀ s s' : Shared} {L : Addr} {bs : Binds} {N N' : List (Addr × Obj)}

theorem keeps_refl (s : Shared) : Keeps s s := ⟨s.heap, s.toks, rfl, fun _ _ e => e⟩
theorem keeps_trans {a b c : Shared} (x : Keeps a b) (y : Keeps b c) : Keeps a c := by
  obtain ⟨h1, t1, rfl, k1⟩ := x
  obtain ⟨h2, t2, rfl, k2⟩ := y
  exact ⟨h2, t2, rfl, fun b o e => k2 b o (k1 b o e)⟩
theorem keeps_toks {s : Shared} {tk : Nat} : Keeps s { s with toks := tk } := ⟨s.heap, tk, rfl, fun _ _ e => e⟩

theorem St.keeps (S : St s₀ L bs N s) (k : Keeps s s') (t : s.toks ≤ s'.toks) : St s₀ L bs N s' := by
  obtain ⟨h, tk, rfl⟩ := S.eqv
  obtain ⟨h', tk', rfl, k⟩ := k
  exact ⟨⟨h', tk', rfl⟩, ⟨S.fr.ns.keeps k, fun b o e => k b o (S.fr.keep b o e), S.fr.above⟩, fun p hp => ⟨k _ _ (S.nw p hp).1, (S.nw p hp).2⟩, S.nd, Nat.lt_of_lt_of_le S.tk t⟩
theorem St.toks (S : St s₀ L bs N s) {tk : Nat} (t : s.toks ≤ tk) : St s₀ L bs N { s with toks := tk } := S.keeps keeps_toks t
theorem St.done (S : St s₀ L bs N s) : Keeps s₀ s := by
  obtain ⟨h, tk, rfl⟩ := S.eqv
  exact ⟨h, tk, rfl, S.fr.keep⟩
theorem St.le (S : St s₀ L bs N s) : s₀.toks ≤ s.toks := Nat.le_of_lt S.tk
theorem St.pos (S : St s₀ L bs N s) : 0 < s.toks := Nat.lt_of_le_of_lt (Nat.zero_le _) S.tk
theorem St.sub (S : St s₀ L bs N s) (h : N'.Sublist N) : St s₀ L bs N' s :=
  ⟨S.eqv, S.fr, fun p hp => S.nw p (h.subset hp), (h.map _).nodup S.nd, S.tk⟩
theorem St.nil (S : St s₀ L bs N s) : St s₀ L bs [] s := S.sub (List.nil_sublist _)
theorem lookup_front {bs : Binds} {x : Str} {v : Value} (h : bs.lookup x = some v) : (fun y => ((x, v) :: bs).lookup y) = fun y => bs.lookup y := by
  funext y
  simp only [List.lookup_cons]
  cases hy : y == x with
  | false => rfl
  | true => rw [beq_iff_eq.mp hy]; exact h.symm
theorem St.front (S : St s₀ L bs N s) {x : Str} {v : Value} (h : bs.lookup x = some v) : St s₀ L ((x, v) :: bs) N s :=
  ⟨S.eqv, by rw [lookup_front h]; exact S.fr, S.nw, S.nd, S.tk⟩
theorem lookup_store {bs : Binds} {x : Str} {v : Value} : (fun y => if y = x then some v else bs.lookup y) = fun y => ((x, v) :: bs).lookup y := by
  funext y
  simp only [List.lookup_cons]
  by_cases hy : y = x
  · subst hy; simp
  · rw [if_neg hy, beq_eq_false_iff_ne.mpr hy]
theorem St.alloc (S : St s₀ L bs N s) (o : Obj) (hf : o.isFreed = false) : St s₀ L bs ((s.heap.objs.size, o) :: N) { s with heap := s.heap.push o } := by
  obtain ⟨h, tk, rfl⟩ := S.eqv
  refine ⟨⟨_, _, rfl⟩, S.fr.push o, S.nw.push S.fr o hf, ?_, S.tk⟩
  rw [List.map_cons, List.nodup_cons]
  refine ⟨fun hm => ?_, S.nd⟩
  obtain ⟨p, hp, e⟩ := List.mem_map.mp hm
  have q : p.1 < h.objs.size := Heap.lt_size (S.nw p hp).1
  exact absurd q (by rw [show p.1 = h.objs.size from e]; exact Nat.lt_irrefl _)
theorem St.get (S : St s₀ L bs N s) {a : Addr} {o : Obj} (h : (a, o) ∈ N) : s.heap.get? a = some o := (S.nw _ h).1
theorem St.store (S : St s₀ L bs N s) {x : Str} {v : Value} {h' : Heap} {tk : Nat} (t : s.toks ≤ tk) (hn : h'.Ns L (fun y => if y = x then some v else bs.lookup y)) (hs : Heap.SameBut L s.heap h') :
    St s₀ L ((x, v) :: bs) N { s with heap := h', toks := tk } := by
  obtain ⟨h, tk, rfl⟩ := S.eqv
  refine ⟨⟨_, _, rfl⟩, ?_, S.nw.set hs, S.nd, Nat.lt_of_lt_of_le S.tk t⟩
  rw [← lookup_store]
  exact S.fr.set hn hs
/-- one object of the ledger written anew -/
theorem St.upd {N₁ N₂ : List (Addr × Obj)} {a : Addr} {o o' : Obj} {h' : Heap} (S : St s₀ L bs (N₁ ++ (a, o) :: N₂) s) (hg : h'.get? a = some o') (hs : Heap.SameBut a s.heap h') :
    St s₀ L bs (N₁ ++ (a, o') :: N₂) { s with heap := h' } := by
  have hm : (a, o) ∈ N₁ ++ (a, o) :: N₂ := List.mem_append.mpr (.inr (.head _))
  have ha := S.nw _ hm
  have hnd := S.nd
  rw [List.map_append, List.map_cons, List.nodup_append] at hnd
  obtain ⟨n1, n2, n3⟩ := hnd
  rw [List.nodup_cons] at n2
  obtain ⟨h, tk, rfl⟩ := S.eqv
  have keep : ∀ b o, b ≠ a → h.get? b = some o → h'.get? b = some o := fun b o hb e => (hs.2 b hb).trans e
  have new : ∀ p ∈ N₁ ++ (a, o') :: N₂, h'.get? p.1 = some p.2 ∧ p.1 ≠ L ∧ s₀.heap.get? p.1 = none := by
    intro p hp
    rcases List.mem_append.mp hp with h1 | h1
    · have q := S.nw p (List.mem_append.mpr (.inl h1))
      refine ⟨keep _ _ (fun e => n3 p.1 (List.mem_map.mpr ⟨p, h1, rfl⟩) a (.head _) e) q.1, q.2⟩
    · rcases List.mem_cons.mp h1 with rfl | h1
      · exact ⟨hg, ha.2⟩
      · have q := S.nw p (List.mem_append.mpr (.inr (.tail _ h1)))
        refine ⟨keep _ _ (fun e => n2.1 (List.mem_map.mpr ⟨p, h1, e⟩)) q.1, q.2⟩
  refine ⟨⟨h', tk, rfl⟩, ⟨?_, ?_, S.fr.above⟩, new, ?_, S.tk⟩
  · exact S.fr.ns.at' fun o e => keep L o (fun e' => ha.2.1 e'.symm) e
  · intro b o e
    refine keep b o ?_ (S.fr.keep b o e)
    rintro rfl
    rw [ha.2.2] at e; cases e
  · have := S.nd
    simpa [List.map_append, List.map_cons] using this
end

/-- room around: k levels more may be entered -/
structure AOk (A : Around) (k : Nat) : Prop where
  handled : A.handled = none
  depth : A.depth + k < recursionLimit
  units : A.units + 8 * k < cLine
theorem AOk.deeper {A : Around} {k : Nat} {env : Env} (h : AOk A (k + 1)) : AOk (A.deeper env) k :=
  ⟨h.handled, by have := h.depth; simp only [Around.deeper]; omega, by have := h.units; simp only [Around.deeper]; omega⟩
theorem AOk.in1 {A : Around} {k : Nat} (h : AOk A (k + 1)) : AOk A.in1 k :=
  ⟨h.handled, by have := h.depth; show A.depth + k < _; omega, by have := h.units; show A.units + 1 + 8 * k < _; omega⟩
theorem AOk.le {A : Around} {k k' : Nat} (h : AOk A k) (l : k' ≤ k) : AOk A k' := ⟨h.handled, by have := h.depth; omega, by have := h.units; omega⟩

/-- the ground under every call -/
structure Gnd (w : World) (h : Heap) : Prop where
  X : (KK w.params).In h
  g : ∃ mg, h.Ns mainGlobals mg
  b : ∃ mb, h.Ns builtinsNs mb ∧ ∀ x : Str, x ≠ "__name__" → mb x = bootBuiltins x
  lim : h.NoLimit
theorem Gnd.keeps {w : World} {h h' : Heap} (G : Gnd w h) (k : ∀ b o, h.get? b = some o → h'.get? b = some o) : Gnd w h' :=
  ⟨G.X.keeps k, let ⟨mg, a⟩ := G.g; ⟨mg, a.keeps k⟩, let ⟨mb, a, b⟩ := G.b; ⟨mb, a.keeps k, b⟩, G.lim.keeps k⟩
theorem Gnd.st {w : World} {s₀ s : Shared} {L : Addr} {bs : Binds} {N : List (Addr × Obj)} (G : Gnd w s₀.heap) (S : St s₀ L bs N s) : Gnd w s.heap := G.keeps S.fr.keep

section
variable {w : World} {A : Around} {s : Shared}

theorem mono_toks {α : Type} {M : Model} {E : Value → Shared → Prop} {t : Sem α} {Q : α → Shared → Prop} (h : wpAny M A t (fun v s' => s.toks ≤ s'.toks → Q v s') E s) : wpAny M A t Q E s :=
  wpAny_mono (wpAny_toks_of (Nat.le_refl _) h) (fun _ _ q => q.2 q.1) fun _ _ q => q.2

def flowVal : Flow → Value
  | .ret v => v
  | _ => .none

def isFnB : Option Obj → Bool
  | some ⟨_, _, .func _, _⟩ => true
  | _ => false
theorem isFnB_get {o : Option Obj} (h : isFnB o = true) : ∃ x, o = some x ∧ x.data = .func (frFd o) := by
  unfold isFnB at h
  split at h
  · exact ⟨_, rfl, rfl⟩
  · cases h
/-- the arguments bind; a structure, so that no unifier looks inside -/
structure Bd (s : Shared) (fd : FuncData) (args : Args) (binds : List (Str × Value)) : Prop where
  b : BindsTo s fd args binds
theorem Bd.of_eq {fd : FuncData} {args : Args} {binds : List (Str × Value)} {s : Shared} (h : bindArgs fd args = pure binds) : Bd s fd args binds := ⟨BindsTo.of_eq h⟩
theorem enter {k : Nat} {a : Addr} {fd : FuncData} {R : Result → Shared → Prop} {body : List Stmt} {args : List Value} {binds : Binds} (hA : AOk A (k + 1)) (G : Gnd w s.heap)
    (ho : isFnB ((KK w.params).lookup a) = true) (hcd : codeIn (KK w.params) fd.code fd.qualname = true)
    (hbody : fd.body = .stmts body) (hbind : Bd s fd ⟨args, []⟩ binds)
    (hcell : (fd.scope.names.all fun x => x.2 != .cell) = true) (hloc : (binds.all fun x => fd.scope.names.lookup x.1 == some .local) = true) (hne : binds ≠ [])
    (h : ∀ L s', L = s.heap.objs.size → St s L binds.reverse [] s' → AOk (A.deeper (callEnv fd L a)) k →
      wpAny (model PG w) (A.deeper (callEnv fd L a)) (execs body (callEnv fd L a)) (fun f s'' => R (.ok (.ret (flowVal f))) s'') (fun _ _ => False) s')
    (hco : fd.scope.isCoroutine = false := by rfl) (hgen : fd.scope.isGenerator = false := by rfl) (hk : fd.scope.kind = .function := by rfl) (hfd : fdOf w.params a = fd := by kernel_rfl) :
    codeAny (model PG w) A (.call (.ref a) ⟨args, []⟩) R s := by
  subst hfd
  obtain ⟨o, ho, hd⟩ := isFnB_get ho
  have hd : o.data = .func (fdOf w.params a) := hd
  refine codeAny_call_def (by have := hA.depth; omega) (G.X _ _ ho) hd G.lim (codeRec_of G.X hcd) hbody hbind.b (fun x hx => by have := List.all_eq_true.mp hcell x hx; simpa using this) (fun x hx => by have := List.all_eq_true.mp hloc x hx; simpa using this) (fun h₀ hns hkeep => ?_) hco hgen hk
  refine wpAny_mono (h _ _ rfl ?_ hA.deeper) (fun f s'' q => ?_) fun _ _ x => x.elim
  · refine ⟨⟨_, _, rfl⟩, ⟨hns, hkeep, Nat.le_refl _⟩, News.nil, List.nodup_nil, ?_⟩
    have : 0 < binds.length := List.length_pos_iff.mpr hne
    show s.toks < s.toks + binds.length
    omega
  · cases f <;> exact q

end
end Mine
end

section
open PySem PySem.W PyProof.Rows PySem.Calls
set_option Elab.async false
set_option maxRecDepth 100000
namespace Mine
theorem boot_chr : bootBuiltins "chr" = some (.builtin "chr") := by decide +kernel
theorem boot_ord : bootBuiltins "ord" = some (.builtin "ord") := by decide +kernel
theorem boot_len : bootBuiltins "len" = some (.builtin "len") := by decide +kernel
theorem boot_abs : bootBuiltins "abs" = some (.builtin "abs") := by decide +kernel
theorem boot_divmod : bootBuiltins "divmod" = some (.builtin "divmod") := by decide +kernel
theorem boot_int : bootBuiltins "int" = some (.type "int") := by decide +kernel
theorem boot_bytes : bootBuiltins "bytes" = some (.type "bytes") := by decide +kernel
theorem gl_unquote_match (P : Params) : nsIn (KK P) mainGlobals "_unquote_match" = some (some (.ref 102)) := by kernel_rfl
theorem gl_unquote (P : Params) : nsIn (KK P) mainGlobals "unquote" = some (some (.ref 59)) := by kernel_rfl
theorem gl_quote (P : Params) : nsIn (KK P) mainGlobals "quote" = some (some (.ref 66)) := by kernel_rfl
theorem gl_header_encode (P : Params) : nsIn (KK P) mainGlobals "header_encode" = some (some (.ref 74)) := by kernel_rfl
theorem gl_body_encode (P : Params) : nsIn (KK P) mainGlobals "body_encode" = some (some (.ref 87)) := by kernel_rfl
theorem gl_decode (P : Params) : nsIn (KK P) mainGlobals "decode" = some (some (.ref 95)) := by kernel_rfl
theorem gl_header_decode (P : Params) : nsIn (KK P) mainGlobals "header_decode" = some (some (.ref 109)) := by kernel_rfl
theorem gl_law_text (P : Params) : nsIn (KK P) mainGlobals "_law_text" = some (some (.ref 116)) := by kernel_rfl
theorem gl_twin_re_1 (P : Params) : nsIn (KK P) mainGlobals "_twin_re_1" = some (some (.ref 36)) := by kernel_rfl
theorem gl_QUOPRI_MAP (P : Params) : nsIn (KK P) mainGlobals "_QUOPRI_MAP" = some (some (.ref 39)) := by kernel_rfl
theorem gl_QUOPRI_HEADER_MAP (P : Params) : nsIn (KK P) mainGlobals "_QUOPRI_HEADER_MAP" = some (some (.ref 44)) := by kernel_rfl
theorem gl_QUOPRI_BODY_ENCODE_MAP (P : Params) : nsIn (KK P) mainGlobals "_QUOPRI_BODY_ENCODE_MAP" = some (some (.ref 76)) := by kernel_rfl
theorem gl_hexdigits (P : Params) : nsIn (KK P) mainGlobals "hexdigits" = some (some (.str "0123456789abcdefABCDEF" 1362)) := by kernel_rfl
theorem gl_CRLF (P : Params) : nsIn (KK P) mainGlobals "CRLF" = some (some (.str "\r\n" 317)) := by kernel_rfl
theorem gn_chr (P : Params) : nsIn (KK P) mainGlobals "chr" = some none := by kernel_rfl
theorem gn_ord (P : Params) : nsIn (KK P) mainGlobals "ord" = some none := by kernel_rfl
theorem gn_len (P : Params) : nsIn (KK P) mainGlobals "len" = some none := by kernel_rfl
theorem gn_abs (P : Params) : nsIn (KK P) mainGlobals "abs" = some none := by kernel_rfl
theorem gn_divmod (P : Params) : nsIn (KK P) mainGlobals "divmod" = some none := by kernel_rfl
theorem gn_int (P : Params) : nsIn (KK P) mainGlobals "int" = some none := by kernel_rfl
theorem gn_bytes (P : Params) : nsIn (KK P) mainGlobals "bytes" = some none := by kernel_rfl
section
variable {w : World} {A : Around} {E : Value → Shared → Prop} {s₀ s : Shared} {L : Addr} {bs : Binds} {N : List (Addr × Obj)} {env : Env}

theorem ev_loc {x : Str} {pos : Pos} {v : Value} {Q : Value → Shared → Prop} (S : St s₀ L bs N s) (hv : bs.lookup x = some v) (h : Q v s)
    (hk : env.scope.kind = .function := by rfl) (hl : env.kindOf x = some .local := by rfl) (hL : env.locals = L := by rfl) (hd : (x == ("__debug__" : Str)) = false := by decide) :
    wpAny (model PG w) A (eval (.Name x pos) env) Q E s := by
  subst hL
  exact wpAny_Name (wpAny_loadName_local hk hl S.fr.ns hv h) hd
theorem ev_locn {x : Str} {v : Value} {Q : Value → Shared → Prop} (S : St s₀ L bs N s) (hv : bs.lookup x = some v) (h : Q v s)
    (hk : env.scope.kind = .function := by rfl) (hl : env.kindOf x = some .local := by rfl) (hL : env.locals = L := by rfl) :
    wpAny (model PG w) A (loadName env x) Q E s := by
  subst hL
  exact wpAny_loadName_local hk hl S.fr.ns hv h
theorem ev_glob {x : Str} {pos : Pos} {v : Value} {Q : Value → Shared → Prop} (G : Gnd w s.heap) (e : nsIn (KK w.params) mainGlobals x = some (some v)) (h : Q v s)
    (hk : env.scope.kind = .function := by rfl) (hl : env.kindOf x = some .globalImplicit := by rfl) (hg : env.globals = mainGlobals := by rfl) (hd : (x == ("__debug__" : Str)) = false := by decide) :
    wpAny (model PG w) A (eval (.Name x pos) env) Q E s := by
  refine Name_function_global hk hl ?_ hd
  unfold loadGlobal
  rw [hg]
  obtain ⟨mg, hm⟩ := G.g
  refine wpAny_bind (wpAny_nsGet hm ?_)
  rw [mg_of G.X hm e]
  exact wpAny_pure h
theorem ev_built {x : Str} {pos : Pos} {v : Value} {Q : Value → Shared → Prop} (G : Gnd w s.heap) (e : nsIn (KK w.params) mainGlobals x = some none) (hv : bootBuiltins x = some v) (h : Q v s)
    (hk : env.scope.kind = .function := by rfl) (hl : env.kindOf x = some .globalImplicit := by rfl) (hg : env.globals = mainGlobals := by rfl) (hb : env.builtins = builtinsNs := by rfl)
    (hn : x ≠ "__name__" := by decide) (hd : (x == ("__debug__" : Str)) = false := by decide) :
    wpAny (model PG w) A (eval (.Name x pos) env) Q E s := by
  refine Name_function_global hk hl ?_ hd
  unfold loadGlobal
  rw [hg, hb]
  obtain ⟨mg, hm⟩ := G.g
  obtain ⟨mb, hb, hbb⟩ := G.b
  refine wpAny_bind (wpAny_nsGet hm ?_)
  rw [mg_none_of G.X hm e]
  refine wpAny_bind (wpAny_nsGet hb ?_)
  rw [hbb x hn, hv]
  exact wpAny_pure h
theorem ev_int {i : Int} {k : Nat} {pos : Pos} {Q : Value → Shared → Prop} (S : St s₀ L bs N s) (h : ∀ t s', St s₀ L bs N s' → s.toks ≤ t → t < s'.toks → Q (.int i t) s') :
    wpAny (model PG w) A (eval (.Constant (.int i) k pos) env) Q E s :=
  wpAny_Constant_int (h _ _ (S.toks (Nat.le_succ _)) (Nat.le_refl _) (Nat.lt_succ_self _))
theorem ev_str {x : Str} {k : Nat} {pos : Pos} {Q : Value → Shared → Prop} (S : St s₀ L bs N s) (h : ∀ t s', St s₀ L bs N s' → s.toks ≤ t → t < s'.toks → Q (.str x t) s') :
    wpAny (model PG w) A (eval (.Constant (.str x) k pos) env) Q E s :=
  Constant_str (h _ _ (S.toks (Nat.le_succ _)) (Nat.le_refl _) (Nat.lt_succ_self _))
theorem st_name {x : Str} {v : Value} {Q : Unit → Shared → Prop} (S : St s₀ L bs N s) (h : ∀ s', St s₀ L ((x, v) :: bs) N s' → Q () s')
    (hk : env.scope.kind = .function := by rfl) (hl : env.kindOf x = some .local := by rfl) (hL : env.locals = L := by rfl) :
    wpAny (model PG w) A (storeName env x v) Q E s := by
  subst hL
  refine wpAny_storeName_local hl S.fr.ns (fun h' hn hs => h _ (S.store (Nat.le_succ _) hn hs)) ?_
  rw [hk]; rfl

theorem ItemOn_tail {value slice : Expr} {x : Str} {t : Tok} {a : Addr} {l u : Option (Int × Tok)} {Q : Value → Shared → Prop} (hs : s.heap.IsSlice a l u none) (hsz : x.length ≤ sizeLine)
    (h : ∀ t' k, Q (.str (Txt.slice x (l.map (·.1)) (u.map (·.1))) t') { s with toks := k })
    (he : subscripted slice false (.str x t) (.ref a) = operate [.ref a, .str x t] (getItem (.str x t) (.ref a)) := by with_unfolding_all rfl)
    (ht : ∀ r, letTemporaryGo value (.str x t) r = pure () := by intro _; with_unfolding_all rfl) :
    wpAny (model PG w) A (subscriptTail value slice (.str x t) (.ref a)) Q E s :=
  tail_of_ItemOn ⟨"str", _, F.slot_str_getitem.lookup, typeIs_str _ _ _, wpAny_getItem_str_slice (l := l) (u := u) (st := none) hs rfl
    (post_val_or_str ⟨Nat.le_trans (Txt.slice_le x _ _) hsz, fun t' k => h t' k⟩)⟩ he ht

/-- a text's slice -/
theorem ev_slice {value : Expr} {lower upper : Option Expr} {p : Pos} {x : List Nat} {t : Tok} {Q : Value → Shared → Prop} (hsz : x.length ≤ sizeLine)
    (h : wpAny (model PG w) A (evalPart lower env) (fun vl s₁ => wpAny (model PG w) A (evalPart upper env) (fun vu s₂ => ∃ l u bs' N', vl = partValue l ∧ vu = partValue u ∧ St s₀ L bs' N' s₂ ∧
      ∀ t' s', St s₀ L bs' N' s' → Q (.str (tx (sl x (l.map (·.1)) (u.map (·.1)))) t') s') E s₁) E s)
    (he : ∀ a, subscripted (.Slice lower upper none p) false (.str (tx x) t) (.ref a) = operate [.ref a, .str (tx x) t] (getItem (.str (tx x) t) (.ref a)) := by intro _; with_unfolding_all rfl)
    (ht : ∀ r, letTemporaryGo value (.str (tx x) t) r = pure () := by intro _; with_unfolding_all rfl) :
    wpAny (model PG w) A (eval (.Slice lower upper none p) env) (fun i s₂ => wpAny (model PG w) A (subscriptTail value (.Slice lower upper none p) (.str (tx x) t) i) Q E s₂) E s := by
  refine wpAny_Slice (wpAny_mono h (fun vl s₁ h₁ => wpAny_mono h₁ (fun vu s₂ h₂ => evalPart_none_step ?_) fun _ _ e => e) fun _ _ e => e)
  obtain ⟨l, u, bs', N', rfl, rfl, S, hQ⟩ := h₂
  have S' := S.alloc { cls := .type "slice", data := .fields #[partValue l, partValue u, .none] } rfl
  refine mono_toks (ItemOn_tail (l := l) (u := u) ⟨_, S'.get (.head _), rfl, rfl⟩ (by rw [tx_len]; exact hsz) (fun t' k => ?_) (he _) ht)
  intro hk
  rw [slice_tx]
  exact hQ t' _ ((S'.sub (List.sublist_cons_self _ _)).toks hk)
theorem cw_fn {pos : Pos} {a : Addr} {e : Expr} {rest : List Expr} {Q : Value → Shared → Prop} (hfn : isFnB ((KK w.params).lookup a) = true)
    (h : wpAny (model PG w) A (spliced (backTo pos (starEach (e :: rest) env))) (fun vs s₁ => Gnd w s₁.heap ∧ wpAny (model PG w) A (call (.ref a) vs) Q E s₁) E s)
    (he : starEach (e :: rest) env = (false, eval e env) :: starEach rest env := by rfl) :
    wpAny (model PG w) A (callWith pos (.ref a) [] (backTo pos (starEach (e :: rest) env)) []) Q E s := by
  obtain ⟨o, ho, hd⟩ := isFnB_get hfn
  exact callWith_def hd (wpAny_mono h (fun vs s₁ h₁ => ⟨h₁.1.X _ _ ho, h₁.2⟩) fun _ _ x => x) he
end

section
variable {w : World} {A : Around} {s : Shared}
/-- what a def of the text gives back: a value of which P holds, the heap kept -/
def Gives1 (s : Shared) (R : Result → Shared → Prop) (P : Value → Prop) : Prop := ∀ v s', P v → Keeps s s' → s.toks ≤ s'.toks → R (.ok (.ret v)) s'
def IsTx (l : List Nat) (v : Value) : Prop := ∃ t, v = .str (tx l) t

theorem hexVal_le {c : Nat} (h : isHex c = true) : hexVal c ≤ 15 := by
  have : ∀ c < 256, isHex c = true → hexVal c ≤ 15 := by decide +kernel
  exact this c (isHex_lt h) h
theorem fn_unquote {b c : Nat} {t : Tok} {R : Result → Shared → Prop} (hb : isHex b = true) (hc : isHex c = true) (hA : AOk A 3) (G : Gnd w s.heap) (hR : Gives1 s R (IsTx [16 * hexVal b + hexVal c])) :
    codeAny (model PG w) A (.call (.ref 59) ⟨[.str (tx [61, b, c]) t], []⟩) R s := by
  refine enter (fd := fd59) (binds := [("s", .str (tx [61, b, c]) t)]) (k := 2) hA G (by kernel_rfl) (by kernel_rfl) rfl (Bd.of_eq (by kernel_rfl)) (by kernel_rfl) (by kernel_rfl) (by simp) fun L s' hL S hA' => ?_
  refine wpAny_execs_cons (wpAny_Return_some ?_)
  refine Call_ (ev_built (G.st S) (gn_chr _) boot_chr ?_)
  refine PyProof.Rows.callWith_builtin1 (spliced_more ?_)
  refine Call_ (ev_built (G.st S) (gn_int _) boot_int ?_)
  refine PyProof.Rows.callWith_type1 (spliced_more (Subscript_ (ev_loc S rfl ?_)))
  refine ev_slice (by simp [sizeLine]) (evalPart_some_step (ev_int S fun t1 s1 S1 _ _ => evalPart_some_step (ev_int S1 fun t2 s2 S2 _ _ => ⟨some (1, t1), some (3, t2), _, _, rfl, rfl, S2, fun t3 s3 S3 => ?_⟩)))
  refine spliced_more (ev_int S3 fun t4 s4 S4 _ _ => spliced_none ?_)
  refine call_int16 hb hc (spliced_none ?_)
  have hv := hexVal_le hb
  have hv' := hexVal_le hc
  refine chr_of_range (by omega) (by omega) ?_
  exact hR _ _ ⟨_, rfl⟩ ((S4.toks (Nat.le_succ _)).toks (Nat.le_succ _)).done ((S4.toks (Nat.le_succ _)).toks (Nat.le_succ _)).le
end
end Mine
end

section
open PySem PySem.W PyProof.Rows PySem.Calls
set_option Elab.async false
set_option maxRecDepth 100000
namespace Mine
theorem plainAttrs_rePattern : PlainAttrs "re.Pattern" :=
  ⟨⟨"object.__getattribute__", by rw [typeLookup_type, builtinLookup_eq_fast]; kernel_rfl, by decide +kernel⟩, by rw [typeLookup_type, builtinLookup_eq_fast]; kernel_rfl⟩
theorem slot_rePattern_sub : Slot "re.Pattern" "sub" "re.Pattern.sub" :=
  .of (owner := "re.Pattern") (n := "sub") (by rw [typeLookup_type, builtinLookup_eq_fast]; kernel_rfl) (by decide +kernel) (by decide +kernel) (by decide +kernel)
    (by first | exact .inl (by decide +kernel) | exact .inr (by decide +kernel)) (by rw [isSubtype_type]; kernel_rfl)
theorem type_rePattern_sub : typeOf (.builtin "re.Pattern.sub") = pure (.type "method_descriptor") := by show builtinType _ = _; rw [builtinType_eq_fast]; kernel_rfl
theorem entry_rePattern_sub : entryFor table "re.Pattern.sub" = some Builtin.«re.Pattern.sub» := entryFor_of_tree (by kernel_rfl)
theorem entry_rePattern_sub_loop : entryFor table "re.Pattern.sub.loop" = some Builtin.«re.Pattern.sub.loop» := entryFor_of_tree (by kernel_rfl)
theorem args_rePattern_sub (a b c : Value) : argsOk "re.Pattern.sub" ⟨[a, b, c], []⟩ := by unfold argsOk; kernel_rfl
theorem plainAttrs_reMatch : PlainAttrs "re.Match" :=
  ⟨⟨"object.__getattribute__", by rw [typeLookup_type, builtinLookup_eq_fast]; kernel_rfl, by decide +kernel⟩, by rw [typeLookup_type, builtinLookup_eq_fast]; kernel_rfl⟩
theorem slot_reMatch_group : Slot "re.Match" "group" "re.Match.group" :=
  .of (owner := "re.Match") (n := "group") (by rw [typeLookup_type, builtinLookup_eq_fast]; kernel_rfl) (by decide +kernel) (by decide +kernel) (by decide +kernel)
    (by first | exact .inl (by decide +kernel) | exact .inr (by decide +kernel)) (by rw [isSubtype_type]; kernel_rfl)
theorem type_reMatch_group : typeOf (.builtin "re.Match.group") = pure (.type "method_descriptor") := by show builtinType _ = _; rw [builtinType_eq_fast]; kernel_rfl
theorem entry_reMatch_group : entryFor table "re.Match.group" = some Builtin.«re.Match.group» := entryFor_of_tree (by kernel_rfl)
theorem args_reMatch_group (a b : Value) : argsOk "re.Match.group" ⟨[a, b], []⟩ := by unfold argsOk; kernel_rfl

section
variable {w : World} {A : Around} {E : Value → Shared → Prop} {s : Shared}
def matchObj (x : Value) (lim tup : Nat) : Obj := { cls := .type "re.Match", data := .fields #[x, .ref 36, rawInt 0, rawInt lim, rawInt (-1), .ref tup] }
def spanObj (b e : Nat) : Obj := { cls := .type "tuple", data := .seq #[rawInt b, rawInt e] }
theorem gm_group {a : Addr} {x : Value} {lim tup : Nat} {pl : Sem Bool} {Q : Value × List Value → Shared → Prop} (ho : s.heap.get? a = some (matchObj x lim tup)) (h : Q (.builtin "re.Match.group", [.ref a]) s) :
    wpAny (model PG w) A (getMethod (.ref a) "group" pl) Q E s :=
  getMethod_builtin (T := "re.Match") ⟨_, ho, rfl⟩ plainAttrs_reMatch slot_reMatch_group type_reMatch_group (fun a' e => by cases e; exact ⟨_, ho, rfl⟩) h
theorem call_group {a : Addr} {l : List Nat} {t u : Tok} {lim tup b e : Nat} {Q : Value → Shared → Prop} (ho : s.heap.get? a = some (matchObj (.str (tx l) t) lim tup)) (ht : s.heap.get? tup = some (spanObj b e)) (hl : l.length ≤ sizeLine)
    (h : Q (.str (tx ((l.drop b).take (e - b))) s.toks) { s with toks := s.toks + 1 }) :
    wpAny (model PG w) A (call (.builtin "re.Match.group") [.ref a, .int 0 u]) Q E s := by
  refine wpAny_call_entry slot_reMatch_group ⟨_, ho, rfl⟩ entry_reMatch_group ?_ (args_reMatch_group _ _)
  obtain ⟨hp, g, d, tk, os⟩ := s
  unfold matchObj at ho
  unfold spanObj at ht
  unfold Builtin.«re.Match.group»
  repeat (any_goals (first | assumption | wp_step))
  have em : Array.map Builtin.Re.reRawOf ((some #[rawInt b, rawInt e]).getD #[]) = #[(b : Int), (e : Int)] := by simp [Builtin.Re.reRawOf, rawInt]
  rw [em]
  show wpAny _ _ (if (decide ((b : Int) < 0) || decide ((e : Int) < 0)) = true then pure Value.none else mkStr ⟨(tx l).cps.extract (b : Int).toNat (e : Int).toNat⟩) _ _ _
  rw [if_neg (by simp)]
  have ex : (⟨(tx l).cps.extract (b : Int).toNat (e : Int).toNat⟩ : Str) = tx ((l.drop b).take (e - b)) := by
    have := strSub_tx l b e
    simpa [Builtin.Str.strSub] using this
  rw [ex]
  refine wpAny_mkStr (wpAny_pure ⟨_, rfl, h⟩) ?_
  rw [tx_len]
  have : ((l.drop b).take (e - b)).length ≤ l.length := by simp; omega
  omega

/-- _unquote_match: the match's text, unquoted -/
theorem fn_unquote_match {a : Addr} {l : List Nat} {t : Tok} {lim tup j b c : Nat} {R : Result → Shared → Prop} (ho : s.heap.get? a = some (matchObj (.str (tx l) t) lim tup)) (ht : s.heap.get? tup = some (spanObj j (j + 3)))
    (hl : l.length ≤ sizeLine) (he : (l.drop j).take 3 = [61, b, c]) (hb : isHex b = true) (hc : isHex c = true) (hA : AOk A 5) (G : Gnd w s.heap) (hR : Gives1 s R (IsTx [16 * hexVal b + hexVal c])) :
    codeAny (model PG w) A (.call (.ref 102) ⟨[.ref a], []⟩) R s := by
  refine enter (fd := fd102) (binds := [("match", .ref a)]) (k := 4) hA G (by kernel_rfl) (by kernel_rfl) rfl (Bd.of_eq (by kernel_rfl)) (by kernel_rfl) (by kernel_rfl) (by simp) fun L s' hL S hA' => ?_
  refine wpAny_execs_cons (wpAny_Assign_Name ?_)
  refine MethodCall_ (ev_loc S rfl ?_)
  refine gm_group (S.fr.keep _ _ ho) (callWith_method1 (spliced_more (ev_int S fun t1 s1 S1 _ _ => spliced_none ?_)))
  refine call_group (S1.fr.keep _ _ ho) (S1.fr.keep _ _ ht) hl ?_
  rw [Nat.add_sub_cancel_left, he]
  have S2 := S1.toks (Nat.le_succ _)
  refine st_name S2 fun s3 S3 => ?_
  refine wpAny_execs_cons (wpAny_Return_some ?_)
  refine Call_ (ev_glob (G.st S3) (gl_unquote _) ?_)
  refine cw_fn (by kernel_rfl) (spliced_more (ev_loc S3 rfl (spliced_none ⟨G.st S3, wpAny_call (fn_unquote hb hc (hA'.le (by omega)) (G.st S3) fun v s4 hv hk ht => ?_)⟩)))
  exact hR _ _ hv (keeps_trans S3.done hk) (Nat.le_trans S3.le ht)
end
end Mine
end

section
open PySem PySem.W PyProof.Rows PySem.Calls
set_option Elab.async false
set_option maxRecDepth 100000
namespace Mine
open Builtin.Re
section
variable {w : World} {A : Around} {E : Value → Shared → Prop} {s : Shared}

theorem at36 (G : Gnd w s.heap) : s.heap.get? 36 = some { cls := .type "re.Pattern", data := .fields #[.str "=[a-fA-F0-9]{2}" 283, .int 256 315, .int 0 0, .none, .none, .ref 35, .int 0 0] } := G.X 36 _ (by kernel_rfl)
def codeVals : List Value := codeA.toList.map fun (n : Nat) => .int (n : Int) 0
theorem at35 (G : Gnd w s.heap) : s.heap.get? 35 = some { cls := .type "tuple", data := .seq codeVals.toArray } := G.X 35 _ (by kernel_rfl)
theorem code_eq : (Array.map reRawOf ((some codeVals.toArray).getD #[])).map (·.toNat) = codeA := by
  simp [codeVals, codeA, reRawOf]

def theTarget (l : List Nat) (t : Tok) : ReTarget := { pattern := .ref 36, string := .str (tx l) t, code := codeA, text := (tx l).cps, kind := 0, groups := 0, pos := 0, lim := (tx l).cps.size }
theorem wp_target {l : List Nat} {t : Tok} {Q : ReTarget → Shared → Prop} (G : Gnd w s.heap) (h : Q (theTarget l t) s) : wpAny (model PG w) A (reWholeTarget (.ref 36) (.str (tx l) t)) Q E s := by
  have h36 := at36 G
  have h35 := at35 G
  unfold reWholeTarget
  repeat (any_goals (first | assumption | wp_step))
  rw [code_eq]
  exact h

/-- what unq says of the places -/
def hasEsc : List Nat → Bool
  | a :: b :: c :: _ => a == 61 && isHex b && isHex c
  | _ => false
def unq : List Nat → List Nat
  | a :: b :: c :: r => if (a == 61 && isHex b && isHex c) = true then (16 * hexVal b + hexVal c) :: unq r else a :: unq (b :: c :: r)
  | l => l
theorem esc_iff (l : List Nat) (i : Nat) : escAt (tx l).cps i ↔ hasEsc (l.drop i) = true := by
  unfold escAt
  rw [getD_tx, getD_tx, getD_tx]
  have hsz : (tx l).cps.size = l.length := tx_len l
  rw [hsz]
  constructor
  · rintro ⟨h1, h2, h3, h4⟩
    have e : l.drop i = l[i] :: l[i + 1] :: l[i + 2] :: l.drop (i + 3) := by
      rw [List.drop_eq_getElem_cons (by omega), List.drop_eq_getElem_cons (by omega : i + 1 < l.length), List.drop_eq_getElem_cons (by omega : i + 1 + 1 < l.length)]
    rw [e]
    simp only [List.getD, List.getElem?_eq_getElem (show i < l.length by omega), List.getElem?_eq_getElem (show i + 1 < l.length by omega), List.getElem?_eq_getElem h1, Option.getD_some] at h2 h3 h4
    simp [hasEsc, h2, h3, h4]
  · intro h
    have h1 : i + 2 < l.length := by
      have hl : (l.drop i).length = l.length - i := by simp
      cases e : l.drop i with
      | nil => rw [e] at h; simp [hasEsc] at h
      | cons a r => cases r with
        | nil => rw [e] at h; simp [hasEsc] at h
        | cons b r => cases r with
          | nil => rw [e] at h; simp [hasEsc] at h
          | cons c r => rw [e] at hl; simp only [List.length_cons] at hl; omega
    have e : l.drop i = l[i] :: l[i + 1] :: l[i + 2] :: l.drop (i + 3) := by
      rw [List.drop_eq_getElem_cons (by omega), List.drop_eq_getElem_cons (by omega : i + 1 < l.length), List.drop_eq_getElem_cons (by omega : i + 1 + 1 < l.length)]
    rw [e] at h
    simp only [hasEsc, Bool.and_eq_true, beq_iff_eq] at h
    simp only [List.getD, List.getElem?_eq_getElem (show i < l.length by omega), List.getElem?_eq_getElem (show i + 1 < l.length by omega), List.getElem?_eq_getElem h1, Option.getD_some]
    exact ⟨h1, h.1.1, h.1.2, h.2⟩
theorem unq_skip {a : Nat} {r : List Nat} (h : hasEsc (a :: r) = false) : unq (a :: r) = a :: unq r := by
  cases r with
  | nil => rfl
  | cons b r => cases r with
    | nil => rfl
    | cons c r => rw [unq, if_neg (by rw [show (a == 61 && isHex b && isHex c) = false from h]; exact Bool.false_ne_true)]
theorem unq_hit {b c : Nat} {r : List Nat} (hb : isHex b = true) (hc : isHex c = true) : unq (61 :: b :: c :: r) = (16 * hexVal b + hexVal c) :: unq r := by
  rw [unq, if_pos (by simp [hb, hc])]
theorem unq_run (l : List Nat) : ∀ (d i j : Nat), i + d = j → j ≤ l.length → (∀ k, i ≤ k → k < j → hasEsc (l.drop k) = false) → unq (l.drop i) = (l.drop i).take d ++ unq (l.drop j) := by
  intro d
  induction d with
  | zero => intro i j hij _ _; obtain rfl : i = j := (by omega); simp
  | succ d ih =>
    intro i j hij hj hno
    have hlt : i < l.length := by omega
    have e : l.drop i = l[i] :: l.drop (i + 1) := List.drop_eq_getElem_cons hlt
    have h1 := hno i (Nat.le_refl _) (by omega)
    rw [e] at h1 ⊢
    rw [unq_skip h1, ih (i + 1) j (by omega) hj fun k h2 h3 => hno k (by omega) h3]
    rfl
/-- the first place from i on, or none -/
theorem first_esc (l : List Nat) : ∀ (d i : Nat), i + d = l.length → (∃ j, i ≤ j ∧ j < l.length ∧ hasEsc (l.drop j) = true ∧ ∀ k, i ≤ k → k < j → hasEsc (l.drop k) = false) ∨ ∀ k, i ≤ k → hasEsc (l.drop k) = false := by
  intro d
  induction d with
  | zero => intro i hi; right; intro k hk; rw [List.drop_of_length_le (by omega)]; rfl
  | succ d ih =>
    intro i hi
    cases h : hasEsc (l.drop i) with
    | true => exact .inl ⟨i, Nat.le_refl _, by omega, h, fun k h1 h2 => by omega⟩
    | false =>
      rcases ih (i + 1) (by omega) with ⟨j, h1, h2, h3, h4⟩ | h1
      · refine .inl ⟨j, by omega, h2, h3, fun k h5 h6 => ?_⟩
        by_cases hk : k = i
        · rw [hk]; exact h
        · exact h4 k (by omega) h6
      · refine .inr fun k hk => ?_
        by_cases hk' : k = i
        · rw [hk']; exact h
        · exact h1 k (by omega)


theorem wp_push {D : Addr} {items : Array Value} {v : Value} {Q : Unit → Shared → Prop} (hl : s.heap.IsList D items) (hsz : items.size ≤ sizeLine)
    (hQ : ∀ h', h'.IsList D (items.push v) → Heap.SameBut D s.heap h' → Q () { s with heap := h' }) : wpAny (model PG w) A (updateSeq D (·.push v)) Q E s := by
  obtain ⟨o, ho, hc, n, hd⟩ := id hl
  obtain ⟨n', hd'⟩ := Obj.data_mapSeq hd (·.push v)
  refine wpAny_updateSeq ho hd (hQ _ ?_ (Heap.SameBut.update ..))
  exact ⟨_, Heap.get?_update_self _ ho (Obj.isFreed_of_seq hd'), (Obj.cls_mapSeq ..).trans hc, n', hd'⟩
theorem keeps_same {s₀ s : Shared} {D : Addr} {h' : Heap} (k : Keeps s₀ s) (hD : s₀.heap.get? D = none) (hs : Heap.SameBut D s.heap h') : Keeps s₀ { s with heap := h' } := by
  obtain ⟨h1, t1, rfl, k1⟩ := k
  exact ⟨h', t1, rfl, fun b o e => (hs.2 b (by rintro rfl; rw [hD] at e; cases e)).trans (k1 b o e)⟩
theorem keeps_heap {s₀ s : Shared} (k : Keeps s₀ s) : ∀ b o, s₀.heap.get? b = some o → s.heap.get? b = some o := by
  obtain ⟨h1, t1, rfl, k1⟩ := k
  exact k1
theorem reSlice_tx {l : List Nat} {t : Tok} {b e : Nat} {Q : Value → Shared → Prop} (hl : l.length ≤ sizeLine) (h : Q (.str (tx ((l.drop b).take (e - b))) s.toks) { s with toks := s.toks + 1 }) :
    wpAny (model PG w) A (reSlice (theTarget l t).text (theTarget l t).kind b e) Q E s := by
  have ex : (⟨(tx l).cps.extract b e⟩ : Str) = tx ((l.drop b).take (e - b)) := strSub_tx l b e
  show wpAny _ _ (mkStr ⟨(tx l).cps.extract b e⟩) _ _ _
  rw [ex]
  refine wpAny_mkStr h ?_
  rw [tx_len]
  have : ((l.drop b).take (e - b)).length ≤ l.length := by simp; omega
  omega
theorem strValues_push (pcs : List (Str × Tok)) (x : Str) (t : Tok) : (strValues pcs).toArray.push (.str x t) = (strValues (pcs ++ [(x, t)])).toArray := by simp [strValues]
theorem strValues_size (pcs : List (Str × Tok)) : (strValues pcs).toArray.size = pcs.length := by simp [strValues]

def loopArgs (l : List Nat) (t : Tok) (n i : Nat) (D : Addr) : Args :=
  ⟨[.ref 36, .str (tx l) t, .ref 102, rawInt 1, rawInt 0, rawInt n, rawInt i, rawInt i, .bool false, .ref D, .bool false], []⟩

theorem next_found {l : List Nat} {t : Tok} {i j : Nat} {Q : Option Sre.M → Shared → Prop} (hl : l.length ≤ 1000000) (h1 : i ≤ j) (h3 : hasEsc (l.drop j) = true) (h4 : ∀ k, i ≤ k → k < j → hasEsc (l.drop k) = false)
    (h : ∀ f seen, Q (some (mEnd (tx l).cps j f seen)) s) : wpAny (model PG w) A (reNextFound (theTarget l t) i false) Q E s := by
  have hsl : sizeLine = 16777216 := by decide
  have hz : (tx l).cps.size = l.length := tx_len l
  exact wpAny_reRunToEnd_found (text := (tx l).cps) ((esc_iff l j).mpr h3) h1 (fun k a b c => by have := h4 k a b; rw [(esc_iff l k).mp c] at this; cases this) (by omega) h
theorem next_none {l : List Nat} {t : Tok} {i : Nat} {Q : Option Sre.M → Shared → Prop} (hl : l.length ≤ 1000000) (hi : i ≤ l.length) (h4 : ∀ k, i ≤ k → hasEsc (l.drop k) = false)
    (h : Q none s) : wpAny (model PG w) A (reNextFound (theTarget l t) i false) Q E s := by
  have hsl : sizeLine = 16777216 := by decide
  have hz : (tx l).cps.size = l.length := tx_len l
  exact wpAny_reRunToEnd_none (text := (tx l).cps) (by omega) (fun k a c => by have := h4 k a; rw [(esc_iff l k).mp c] at this; cases this) (by omega) h
theorem new_match {l : List Nat} {t : Tok} {j : Nat} {f : Bool} {seen : Sre.Seen} {Q : Value → Shared → Prop}
    (h : Q (.ref (s.heap.objs.size + 1)) { s with heap := (s.heap.push (spanObj j (j + 3))).push (matchObj (.str (tx l) t) l.length s.heap.objs.size) }) :
    wpAny (model PG w) A (reNewMatch (.ref 36) (.str (tx l) t) (theTarget l t).groups 0 (theTarget l t).lim (mEnd (tx l).cps j f seen)) Q E s := by
  have hz : (theTarget l t).lim = l.length := tx_len l
  rw [hz]
  show wpAny _ _ (newTuple [rawInt j, rawInt ((j + 3 : Nat) : Int)] >>= fun tup => newFields "re.Match" [.str (tx l) t, .ref 36, rawInt 0, rawInt l.length, rawInt (-1), tup]) _ _ _
  refine wpAny_bind (wpAny_newObj_type (wpAny_newObj_type ?_))
  have e : (s.heap.push { cls := .type "tuple", data := .seq [rawInt j, rawInt ((j + 3 : Nat) : Int)].toArray }).objs.size = s.heap.objs.size + 1 := by rw [Heap.size_push]
  rw [e]
  exact h

theorem sub_loop {l : List Nat} {t : Tok} (hl : l.length ≤ 1000000) (hA : AOk A 7) {R : Result → Shared → Prop} {D : Addr} {s₀ : Shared} (G : Gnd w s₀.heap) (hD : s₀.heap.get? D = none)
    : ∀ (d i n : Nat) (s : Shared) (pcs : List (Str × Tok)) (ps : List (List Nat)), i + d = l.length → Keeps s₀ s →
    s.heap.IsList D (strValues pcs).toArray → pcs.map (·.1) = ps.map tx → ps.length ≤ i → ps.flatten.length ≤ i →
    (∀ v s', IsTx (ps.flatten ++ unq (l.drop i)) v → Keeps s₀ s' → R (.ok (.ret v)) s') →
    codeAny (model PG w) A (.builtin "re.Pattern.sub.loop" (loopArgs l t n i D)) R s := by
  have hsl : sizeLine = 16777216 := by decide
  intro d
  induction d using Nat.strongRecOn with
  | ind d ih =>
    intro i n s pcs ps hi hk hlist hpcs hps hfl hR
    have hlen : pcs.length = ps.length := by have := congrArg List.length hpcs; simpa using this
    refine codeAny_builtin entry_rePattern_sub_loop ?_
    rw [Around.under_plainId (by decide +kernel)]
    unfold Builtin.«re.Pattern.sub.loop» loopArgs
    dsimp only [rawInt]
    refine wpAny_bind (wp_target (G.keeps (keeps_heap hk)) ?_)
    rw [if_neg (by decide)]
    refine wpAny_bind ?_
    rw [if_neg (by simp)]
    rcases first_esc l d i hi with ⟨j, h1, h2, h3, h4⟩ | hno
    · -- a match
      refine next_found (i := i) hl h1 h3 h4 fun f seen => ?_
      obtain ⟨b, c, r, hr, hb, hc⟩ : ∃ b c r, l.drop j = 61 :: b :: c :: r ∧ isHex b = true ∧ isHex c = true := by
        cases e : l.drop j with
        | nil => rw [e] at h3; cases h3
        | cons a r => cases r with
          | nil => rw [e] at h3; cases h3
          | cons b r => cases r with
            | nil => rw [e] at h3; cases h3
            | cons c r =>
              rw [e] at h3
              simp only [hasEsc, Bool.and_eq_true, beq_iff_eq] at h3
              exact ⟨b, c, r, by rw [h3.1.1], h3.1.2, h3.2⟩
      have hjl : j + 3 ≤ l.length := by
        have := congrArg List.length hr
        simp only [List.length_drop, List.length_cons] at this
        omega
      have hr3 : l.drop (j + 3) = r := by rw [← List.drop_drop, hr]; rfl
      have hun : unq (l.drop i) = (l.drop i).take (j - i) ++ (16 * hexVal b + hexVal c) :: unq (l.drop (j + 3)) := by
        rw [unq_run l (j - i) i j (by omega) (by omega) h4, hr, unq_hit hb hc, hr3]
      -- behind the piece ahead of the match
      have tail : ∀ (s1 : Shared) (pcs1 : List (Str × Tok)) (ps1 : List (List Nat)), Keeps s₀ s1 → s1.heap.IsList D (strValues pcs1).toArray → pcs1.map (·.1) = ps1.map tx → ps1.length ≤ i + 1 → ps1.flatten.length ≤ j →
          ps1.flatten = ps.flatten ++ (l.drop i).take (j - i) →
          wpAny (model PG w) A.in1 (do
              let found ← reNewMatch (Value.ref 36) (Value.str (tx l) t) (theTarget l t).groups 0 (theTarget l t).lim (mEnd (tx l).cps j f seen)
              let item ← holding [found] (call (Value.ref 102) [found])
              if (item != Value.none) = true then do
                  updateSeq D fun x => x.push item
                  again (Code.builtin "re.Pattern.sub.loop" { pos := [Value.ref 36, Value.str (tx l) t, Value.ref 102, Value.int 1 0, Value.int 0 0, Value.int (↑n + 1) 0, Value.int ((j + 3 : Nat) : Int) 0, Value.int ((j + 3 : Nat) : Int) 0, Value.bool (j + 3 == j), Value.ref D, Value.bool false] })
                else again (Code.builtin "re.Pattern.sub.loop" { pos := [Value.ref 36, Value.str (tx l) t, Value.ref 102, Value.int 1 0, Value.int 0 0, Value.int (↑n + 1) 0, Value.int ((j + 3 : Nat) : Int) 0, Value.int ((j + 3 : Nat) : Int) 0, Value.bool (j + 3 == j), Value.ref D, Value.bool false] }))
            (fun fin s' => match fin with | .done f => R (.ok f) s' | .again c' => c'.quiet = true ∧ codeAny (model PG w) A c' R s') (fun e s' => R (.error e) s') s1 := by
        intro s1 pcs1 ps1 hk1 hlist1 hpcs1 hps1 hfl1 hcat
        refine wpAny_bind (new_match ?_)
        refine wpAny_bind (wpAny_holding (wpAny_call ?_))
        have hbf : (j + 3 == j) = false := by simp
        rw [hbf]
        generalize hs2 : ({ s1 with heap := (s1.heap.push (spanObj j (j + 3))).push (matchObj (.str (tx l) t) l.length s1.heap.objs.size) } : Shared) = s2
        have kk : ∀ b o, s1.heap.get? b = some o → s2.heap.get? b = some o := fun b o e => by subst hs2; exact Heap.get?_push_of_some _ (Heap.get?_push_of_some _ e)
        have hk2 : Keeps s₀ s2 := keeps_trans hk1 (by subst hs2; exact ⟨_, _, rfl, kk⟩)
        have m1 : s2.heap.get? (s1.heap.objs.size + 1) = some (matchObj (.str (tx l) t) l.length s1.heap.objs.size) := by
          subst hs2
          have e : (s1.heap.push (spanObj j (j + 3))).objs.size = s1.heap.objs.size + 1 := by rw [Heap.size_push]
          rw [← e]; exact Heap.get?_push_size _ rfl
        have m2 : s2.heap.get? s1.heap.objs.size = some (spanObj j (j + 3)) := by subst hs2; exact Heap.get?_push_of_some _ (Heap.get?_push_size _ rfl)
        refine fn_unquote_match m1 m2 (by omega) (by rw [hr]; rfl) hb hc (hA.in1.le (by omega)) (G.keeps (keeps_heap hk2)) fun v s3 hv hk3 _ => ?_
        obtain ⟨tv, rfl⟩ := hv
        show wpAny _ _ (if (Value.str _ tv != Value.none) = true then _ else _) _ _ _
        rw [if_pos (by simp [bne])]
        have hlist3 : s3.heap.IsList D (strValues pcs1).toArray := hlist1.at fun o e => keeps_heap hk3 _ _ (kk _ _ e)
        have hl1 : pcs1.length = ps1.length := by have := congrArg List.length hpcs1; simpa using this
        refine wpAny_bind (wp_push hlist3 (by rw [strValues_size]; omega) fun h' hl' hs' => ?_)
        rw [strValues_push] at hl'
        refine wpAny_pure ⟨Code.quiet_builtin _ (by decide +kernel), ?_⟩
        refine ih (d - (j + 3 - i)) (by omega) (j + 3) (n + 1) _ _ (ps1 ++ [[16 * hexVal b + hexVal c]]) (by omega) (keeps_same (keeps_trans hk2 hk3) hD hs') hl' (by simp [hpcs1]) (by simp; omega) ?_ ?_
        · simp only [List.flatten_append, List.flatten_cons, List.flatten_nil, List.append_nil, List.length_append, List.length_cons, List.length_nil]; omega
        · intro v' s' hv' hk'
          refine hR v' s' ?_ hk'
          have e : (ps1 ++ [[16 * hexVal b + hexVal c]]).flatten ++ unq (l.drop (j + 3)) = ps.flatten ++ unq (l.drop i) := by
            rw [hun]; simp [hcat]
          rw [← e]; exact hv'
      show wpAny _ _ (if i < j then _ else _) _ _ _
      by_cases hij : i < j
      · rw [if_pos hij]
        refine wpAny_bind (reSlice_tx (by omega) ?_)
        refine wpAny_bind (wp_push (v := .str (tx ((l.drop i).take (j - i))) s.toks) hlist (by rw [strValues_size]; omega) fun h' hl' hs' => ?_)
        rw [strValues_push] at hl'
        refine tail _ (pcs ++ [(tx ((l.drop i).take (j - i)), s.toks)]) (ps ++ [(l.drop i).take (j - i)]) (keeps_same (keeps_trans hk keeps_toks) hD hs') hl' (by simp [hpcs]) (by simp; omega) (by simp only [List.flatten_append, List.flatten_cons, List.flatten_nil, List.append_nil, List.length_append, List.length_take, List.length_drop]; omega) (by simp)
      · rw [if_neg hij]
        have : j - i = 0 := by omega
        exact tail s pcs ps hk hlist hpcs (by omega) (by omega) (by rw [this]; simp)
    · refine next_none hl (by omega) hno ?_
      have hun : unq (l.drop i) = l.drop i := by
        have := unq_run l (l.length - i) i l.length (by omega) (Nat.le_refl _) fun k a _ => hno k a
        rw [this, List.take_of_length_le (by simp)]; simp [unq]
      have hz : (theTarget l t).lim = l.length := tx_len l
      -- behind the last piece
      have tail : ∀ (s1 : Shared) (pcs1 : List (Str × Tok)) (ps1 : List (List Nat)), Keeps s₀ s1 → s1.heap.IsList D (strValues pcs1).toArray → pcs1.map (·.1) = ps1.map tx → ps1.length ≤ l.length + 1 → ps1.flatten.length ≤ l.length →
          ps1.flatten = ps.flatten ++ l.drop i →
          wpAny (model PG w) A.in1 (do
            let joiner ← reSlice (theTarget l t).text (theTarget l t).kind 0 0
            let __do_lift ← seqItems? (Value.ref D)
            if (__do_lift.getD #[]).isEmpty = true then do
                let text ← pure joiner
                if false = true then do
                    let __do_lift ←
                      holding [text] do
                          let __do_lift ← mkInt ↑n
                          newTuple [text, __do_lift]
                    ret __do_lift
                  else ret text
              else do
                let text ←
                  call (Value.builtin (if ((theTarget l t).kind == 0) = true then "str.join" else "bytes.join"))
                      [joiner, Value.ref D]
                if false = true then do
                    let __do_lift ←
                      holding [text] do
                          let __do_lift ← mkInt ↑n
                          newTuple [text, __do_lift]
                    ret __do_lift
                  else ret text)
            (fun fin s' => match fin with | .done f => R (.ok f) s' | .again c' => c'.quiet = true ∧ codeAny (model PG w) A c' R s') (fun e s' => R (.error e) s') s1 := by
        intro s1 pcs1 ps1 hk1 hlist1 hpcs1 hps1 hfl1 hcat
        refine wpAny_bind (reSlice_tx (by omega) ?_)
        have ej : ((l.drop 0).take (0 - 0)) = [] := by simp
        rw [ej]
        obtain ⟨o, ho, hc, k, hd⟩ := id hlist1
        refine wpAny_bind (wpAny_seqItems ho hd ?_)
        have fin : ∀ v s', IsTx ps1.flatten v → Keeps s₀ s' → R (.ok (.ret v)) s' := fun v s' hv hk' => hR v s' (by rw [hun, ← hcat]; exact hv) hk'
        show wpAny _ _ (if ((strValues pcs1).toArray).isEmpty = true then _ else _) _ _ _
        have hl1 : pcs1.length = ps1.length := by have := congrArg List.length hpcs1; simpa using this
        by_cases hem : ((strValues pcs1).toArray).isEmpty = true
        · rw [if_pos hem]
          have : ps1 = [] := by
            have e : (strValues pcs1).toArray.size = 0 := by simpa [Array.isEmpty_iff_size_eq_zero] using hem
            rw [strValues_size] at e
            exact List.length_eq_zero_iff.mp (by omega)
          subst this
          exact wpAny_bind (wpAny_pure (wpAny_pure (fin _ _ ⟨_, rfl⟩ (keeps_trans hk1 keeps_toks))))
        · rw [if_neg hem]
          have hjo : JoinOk (tx []) (ps1.map tx) = true := by
            unfold JoinOk Builtin.Str.tooLong
            rw [StrLaws.joinTotal]
            have e1 : ((ps1.map tx).map (·.length)).sum = ps1.flatten.length := by
              rw [List.length_flatten, List.map_map]; congr 1
            rw [e1, tx_len]
            have : ¬ (ps1.flatten.length + (ps1.map tx).length * ([] : List Nat).length > sizeLine) := by
              rw [List.length_nil, Nat.mul_zero]; omega
            rw [decide_eq_false this]; rfl
          refine wpAny_bind (SC.join (D := D) (l := pcs1) hlist1 hpcs1 hjo ?_)
          intro t' k'
          have ej : Txt.join (tx []) (ps1.map tx) = tx ps1.flatten := by
            show Builtin.Str.glued _ _ = _
            rw [glued_tx, jn_nil]
          rw [ej]
          exact wpAny_pure (fin _ _ ⟨_, rfl⟩ (keeps_trans (keeps_trans hk1 (keeps_toks (tk := s1.toks + 1))) (keeps_toks (tk := k'))))
      show wpAny _ _ (if i < (theTarget l t).lim then _ else _) _ _ _
      rw [hz]
      by_cases hij : i < l.length
      · rw [if_pos hij]
        refine wpAny_bind (reSlice_tx (by omega) ?_)
        refine wpAny_bind (wp_push (v := .str (tx ((l.drop i).take (l.length - i))) s.toks) hlist (by rw [strValues_size]; omega) fun h' hl' hs' => ?_)
        rw [strValues_push] at hl'
        have et : (l.drop i).take (l.length - i) = l.drop i := List.take_of_length_le (by simp)
        rw [et] at hl'
        refine tail _ (pcs ++ [(tx (l.drop i), s.toks)]) (ps ++ [l.drop i]) (keeps_same (keeps_trans hk keeps_toks) hD hs') hl' (by simp [hpcs]) (by simp; omega) (by simp only [List.flatten_append, List.flatten_cons, List.flatten_nil, List.append_nil, List.length_append, List.length_drop]; omega) (by simp)
      · rw [if_neg hij]
        have : l.drop i = [] := List.drop_of_length_le (by omega)
        exact tail s pcs ps hk hlist hpcs (by omega) (by omega) (by rw [this]; simp)
end
end Mine
end

section
open PySem PySem.W PyProof.Rows PySem.Calls
set_option Elab.async false
set_option maxRecDepth 100000
namespace Mine
open Builtin.Re
theorem look_fn_call : typeLookup (.type "function") "__call__" = pure (some (.builtin "function.__call__")) := by rw [typeLookup_type, builtinLookup_eq_fast]; kernel_rfl
theorem named_sub (a b : Value) : reNamed "re.Pattern.sub" "sub" ["repl", "string", "count"] 2 [a, b] [] = pure [some a, some b, none] := by kernel_rfl
section
variable {w : World} {A : Around} {E : Value → Shared → Prop} {s : Shared}
def isFnObj : Option Obj → Bool
  | some ⟨.type "function", _, .func _, _⟩ => true
  | _ => false
theorem fn_type {a : Addr} (G : Gnd w s.heap) (h : (match (KK w.params).lookup a with | some o => o.cls == .type "function" | none => false) = true) : s.TypeIs (.ref a) "function" := by
  split at h
  · rename_i o ho
    exact ⟨o, G.X _ _ ho, eq_of_beq h⟩
  · cases h
theorem not_ba_str : isSubtype (.type "str") (.type "bytearray") = pure false := by rw [isSubtype_type]; kernel_rfl
theorem call_sub {l : List Nat} {t : Tok} {Q : Value → Shared → Prop} (hl : l.length ≤ 1000000) (hA : AOk A 8) (G : Gnd w s.heap) (h : ∀ v s', IsTx (unq l) v → Keeps s s' → Q v s') :
    wpAny (model PG w) A (call (.builtin "re.Pattern.sub") [.ref 36, .ref 102, .str (tx l) t]) Q E s := by
  have h36 := at36 G
  refine wpAny_call (codeAny_call_builtin slot_rePattern_sub.plain entry_rePattern_sub (slot_rePattern_sub.check _ _ _ _ _ _ _ _ ⟨_, h36, rfl⟩ (args_rePattern_sub _ _ _) ?_))
  have hf : s.TypeIs (.ref 102) "function" := fn_type G (by kernel_rfl)
  have f1 := look_fn_call
  have f2 := named_sub (.ref 102) (.str (tx l) t)
  have f3 := not_ba_str
  have f4 := typeIs_str s (tx l) t
  unfold Builtin.«re.Pattern.sub» reSubstitute
  repeat (any_goals (first | assumption | (with_reducible refine wp_target G ?_) | wp_step))
  refine ⟨Code.quiet_builtin _ (by decide +kernel), ?_⟩
  refine sub_loop hl (hA.le (by omega)) G (D := s.heap.objs.size) (s₀ := s) ?_ l.length 0 0 _ [] [] (by omega) ⟨_, _, rfl, fun b o e => Heap.get?_push_of_some _ e⟩ ⟨_, Heap.get?_push_size _ rfl, rfl, _, rfl⟩ rfl (by simp) (by simp) fun v s' hv hk => h v s' hv hk
  cases e : s.heap.get? s.heap.objs.size with
  | none => rfl
  | some o => exact absurd (Heap.lt_size e) (Nat.lt_irrefl _)
theorem gm_sub {pl : Sem Bool} {Q : Value × List Value → Shared → Prop} (G : Gnd w s.heap) (h : Q (.builtin "re.Pattern.sub", [.ref 36]) s) :
    wpAny (model PG w) A (getMethod (.ref 36) "sub" pl) Q E s :=
  getMethod_builtin (T := "re.Pattern") ⟨_, at36 G, rfl⟩ plainAttrs_rePattern slot_rePattern_sub type_rePattern_sub (fun a' e => by cases e; exact ⟨_, at36 G, rfl⟩) h

/-- one sign replaced by a text -/
def rep1 (c : Nat) (z : List Nat) (l : List Nat) : List Nat := l.flatMap fun x => if x = c then z else [x]
theorem rep1_eq (c : Nat) (z : List Nat) : ∀ l : List Nat, jn z (spl [c] l) = rep1 c z l
  | [] => by rw [spl_nil]; rfl
  | a :: r => by
    have ih := rep1_eq c z r
    by_cases h : a = c
    · subst h
      rw [spl_hit (y := [a]) (l := a :: r) (List.cons_ne_nil _ _) (by simp [List.isPrefixOf])]
      rw [jn_cons _ _ _ (spl_ne _ _)]
      show [] ++ z ++ jn z (spl [a] r) = _
      rw [ih]; simp [rep1]
    · rw [spl_miss (y := [c]) (r := r) (c := a) (by simp [List.isPrefixOf, Ne.symm h])]
      have e : jn z (consHead a (spl [c] r)) = a :: jn z (spl [c] r) := by
        have hne := spl_ne [c] r
        cases hs : spl [c] r with
        | nil => exact absurd hs hne
        | cons p ps => cases ps <;> rfl
      rw [e, ih]; simp [rep1, h]
theorem replace1_tx (l : List Nat) (c : Nat) (z : List Nat) : Txt.replace (tx l) (tx [c]) (tx z) = tx (rep1 c z l) := by rw [replace_tx _ _ _ (by simp), rep1_eq]
theorem rep1_len (c d : Nat) (l : List Nat) : (rep1 c [d] l).length = l.length := by
  induction l with
  | nil => rfl
  | cons a r ih =>
    rw [show rep1 c [d] (a :: r) = (if a = c then [d] else [a]) ++ rep1 c [d] r from rfl, List.length_append, ih, List.length_cons]
    split <;> simp <;> omega

theorem fn_header_decode {l : List Nat} {t : Tok} {R : Result → Shared → Prop} (hl : l.length ≤ 1000000) (hA : AOk A 10) (G : Gnd w s.heap) (hR : Gives1 s R (IsTx (unq (rep1 95 [32] l)))) :
    codeAny (model PG w) A (.call (.ref 109) ⟨[.str (tx l) t], []⟩) R s := by
  refine enter (fd := fd109) (binds := [("s", .str (tx l) t)]) (k := 9) hA G (by kernel_rfl) (by kernel_rfl) rfl (Bd.of_eq (by kernel_rfl)) (by kernel_rfl) (by kernel_rfl) (by simp) fun L s' hL S hA' => ?_
  refine wpAny_execs_cons (wpAny_Assign_Name ?_)
  refine MethodCall_ (ev_loc S rfl ?_)
  refine GM.replace (callWith_method1 (spliced_more (ev_str S fun t1 s1 S1 a1 b1 => spliced_more (ev_str S1 fun t2 s2 S2 a2 b2 => spliced_none ?_))))
  rw [show Str.ofString "_" = tx [95] from by decide +kernel, show Str.ofString " " = tx [32] from by decide +kernel]
  have hp := S.pos
  refine mono_toks (SC.replace (show (t1 : Nat) ≠ 0 by omega) (show (t2 : Nat) ≠ 0 by omega) (show (t1 : Nat) ≠ t2 by omega) (by decide +kernel) (by rw [tx_len, tx_len]; simp; omega) fun t3 k3 hk3 => ?_)
  rw [replace1_tx]
  refine st_name (S2.toks hk3) fun s3 S3 => ?_
  refine wpAny_execs_cons (wpAny_Return_some ?_)
  refine MethodCall_ (ev_glob (G.st S3) (gl_twin_re_1 _) ?_)
  refine gm_sub (G.st S3) (callWith_method1 (spliced_more (ev_glob (G.st S3) (gl_unquote_match _) (spliced_more (ev_loc S3 rfl (spliced_none ?_))))))
  refine mono_toks (call_sub (by rw [rep1_len]; exact hl) (hA'.le (by omega)) (G.st S3) fun v s4 hv hk4 ht4 => ?_)
  exact hR _ _ hv (keeps_trans S3.done hk4) (Nat.le_trans S3.le ht4)
end
end Mine
end

section
open PySem PySem.W PyProof.Rows PySem.Calls
set_option Elab.async false
set_option maxRecDepth 100000
namespace Mine
section
variable {s₀ s : Shared} {L : Addr} {bs : Binds} {N N₁ N₂ : List (Addr × Obj)} {h' : Heap} {a : Addr} {o : Obj}
theorem St.drop (S : St s₀ L bs ((a, o) :: N) s) (he : Heap.ExtBut a s.heap h') : St s₀ L bs N { s with heap := h' } := by
  have ha := S.nw _ (.head _)
  have hnd := S.nd
  rw [List.map_cons, List.nodup_cons] at hnd
  obtain ⟨h, tk, rfl⟩ := S.eqv
  refine ⟨⟨h', tk, rfl⟩, ⟨?_, ?_, S.fr.above⟩, fun p hp => ?_, hnd.2, S.tk⟩
  · exact S.fr.ns.at' fun o e => he L o (fun e' => ha.2.1 e'.symm) e
  · intro b o e
    refine he b o ?_ (S.fr.keep b o e)
    rintro rfl
    rw [ha.2.2] at e; cases e
  · have q := S.nw p (.tail _ hp)
    refine ⟨he _ _ (fun e => hnd.1 (List.mem_map.mpr ⟨p, hp, e⟩)) q.1, q.2⟩
end

def listObj (vs : List Value) : Obj := { cls := .type "list", data := .seq vs.toArray }
/-- the list stands among what stays, or among what stood before the call -/
def ListAt (s₀ : Shared) (fixed : List (Addr × Obj)) (D : Addr) (vs : List Value) : Prop :=
  s₀.heap.IsList D vs.toArray ∨ ∃ o n, (D, o) ∈ fixed ∧ o.cls = .type "list" ∧ o.data = .seq vs.toArray n
theorem ListAt.is {s₀ s : Shared} {L : Addr} {bs : Binds} {N fixed : List (Addr × Obj)} {D : Addr} {vs : List Value} (h : ListAt s₀ fixed D vs) (S : St s₀ L bs N s) (hs : ∀ p ∈ fixed, p ∈ N) : s.heap.IsList D vs.toArray := by
  rcases h with h | ⟨o, n, hm, hc, hd⟩
  · exact h.at fun o e => S.fr.keep _ _ e
  · exact ⟨o, S.get (hs _ hm), hc, n, hd⟩

section
variable {w : World} {A : Around} {E : Value → Shared → Prop} {s₀ s : Shared} {L : Addr} {bs : Binds} {N : List (Addr × Obj)} {env : Env}

theorem for_list {x : Str} {px pos : Pos} {iter : Expr} {body : List Stmt} {Q : Flow → Shared → Prop} (hh : A.handled = none) (Inv : Nat → Binds → List (Addr × Obj) → Prop)
    (h : wpAny (model PG w) A (eval iter env) (fun v s₁ => ∃ D vs bs N fixed, v = .ref D ∧ St s₀ L bs (fixed ++ N) s₁ ∧ ListAt s₀ fixed D vs ∧ Inv 0 bs N ∧
      (∀ i v bs N it oi s, vs[i]? = some v → Inv i bs N → St s₀ L ((x, v) :: bs) ((it, oi) :: fixed ++ N) s →
        wpAny (model PG w) A (execs body env) (fun f s' => (f = .next ∨ f = .cont) ∧ ∃ bs' N', St s₀ L bs' ((it, oi) :: fixed ++ N') s' ∧ Inv (i + 1) bs' N') (fun _ _ => False) s) ∧
      (∀ bs N s, Inv vs.length bs N → St s₀ L bs (fixed ++ N) s → Q .next s)) E s)
    (hk : env.scope.kind = .function := by rfl) (hl : env.kindOf x = some .local := by rfl) (hL : env.locals = L := by rfl)
    (hs : ∀ x, foldedSetIterable iter env x = pure x := by intro _; rfl) :
    wpAny (model PG w) A (exec (.For (.Name x px) iter body [] pos) env) Q E s := by
  refine wpAny_For (wpAny_mono h (fun v s₁ h₁ => ?_) fun _ _ e => e) hs
  obtain ⟨D, vs, bs, N, fixed, rfl, S, hla, h0, turn, done⟩ := h₁
  refine wpAny_pyIter_list (hla.is S fun p hp => List.mem_append.mpr (.inl hp)) ?_
  have S' := S.alloc { cls := .type "list_iterator", data := .fields #[.ref D, .int 0 0] } rfl
  refine codeAny_forLoop (fun k s' => ∃ i bs N oi, k + i = vs.length ∧ Inv i bs N ∧ St s₀ L bs ((s₁.heap.objs.size, oi) :: fixed ++ N) s' ∧ oi.cls = .type "list_iterator" ∧ oi.data = .fields #[.ref D, .int i 0]) ?_ vs.length ⟨0, bs, N, _, by omega, h0, S', rfl, rfl⟩
  rintro k s' ⟨i, bs', N', oi, hki, hI, Si, hc, hd⟩
  have hls : s'.heap.IsList D vs.toArray := hla.is Si fun p hp => List.mem_append.mpr (.inl (.tail _ hp))
  have hit : s'.heap.IsListIter s₁.heap.objs.size D i := ⟨oi, Si.get (.head _), hc, hd⟩
  cases hv : vs[i]? with
  | none =>
    refine wpAny_pyNext_list_end hh hit hls (by simpa using hv) fun h₂ he => wpAny_execs_nil ?_
    have hi : i = vs.length := by have := List.getElem?_eq_none_iff.mp hv; omega
    subst hi
    exact done _ _ _ hI (Si.drop he)
  | some v =>
    refine wpAny_pyNext_list_item hit hls (by simpa using hv) fun h₂ hit₂ hs₂ => ?_
    obtain ⟨o₂, ho₂, hc₂, hd₂⟩ := hit₂
    have S₂ := Si.upd (N₁ := []) ho₂ hs₂
    refine wpAny_assign_Name (st_name S₂ (fun s₃ S₃ => ?_) hk hl hL)
    refine wpAny_noRaise (wpAny_mono (turn i v bs' N' _ o₂ s₃ hv hI S₃) (fun f s₄ h₄ => ?_) fun _ _ e => e)
    obtain ⟨hf, bs'', N'', S₄, hI'⟩ := h₄
    have hlt : i < vs.length := (List.getElem?_eq_some_iff.mp hv).1
    rcases hf with rfl | rfl <;> exact ⟨k - 1, by omega, i + 1, bs'', N'', o₂, by omega, hI', S₄, hc₂, hd₂⟩

theorem whl {test : Expr} {body : List Stmt} {pos : Pos} {Q : Flow → Shared → Prop} (I : Nat → Shared → Prop)
    (turn : ∀ n s, I n s → wpAny (model PG w) A (isTrue test env (eval test env)) (fun b s₂ => if b = true then wpAny (model PG w) A (execs body env) (fun f s₃ => match f with | .next | .cont => ∃ m, m < n ∧ I m s₃ | .brk => Q .next s₃ | .ret v => Q (.ret v) s₃) (fun _ _ => False) s₂ else Q .next s₂) (fun _ _ => False) s)
    (n : Nat) (h : I n s) : wpAny (model PG w) A (exec (.While test body [] pos) env) Q E s := by
  refine wpAny_While (codeAny_whileLoop I (fun n s hI => ?_) n h)
  refine wpAny_noRaise (wpAny_mono (turn n s hI) (fun b s₂ h₂ => ?_) fun _ _ e => e)
  cases b with
  | true => rw [if_pos rfl] at h₂ ⊢; exact wpAny_noRaise h₂
  | false => rw [if_neg Bool.false_ne_true] at h₂ ⊢; exact wpAny_execs_nil h₂

/-! texts -/
theorem truthy_tx {l : List Nat} {t : Tok} {Q : Bool → Shared → Prop} (S : St s₀ L bs N s) (hl : l.length ≤ 1000000) (h : ∀ s', St s₀ L bs N s' → Q (!l.isEmpty) s') : wpAny (model PG w) A (truthy (.str (tx l) t)) Q E s := by
  refine P.truthy_str (by rw [tx_len]; omega) ?_
  have e : (((tx l).length : Int) != 0) = !l.isEmpty := by rw [tx_len]; cases l <;> simp <;> omega
  rw [e]
  exact h _ ((S.toks (Nat.le_succ _)).toks (Nat.le_succ _))
theorem len_tx {l : List Nat} {t : Tok} {Q : Value → Shared → Prop} (S : St s₀ L bs N s) (hl : l.length ≤ 1000000) (h : ∀ t' s', St s₀ L bs N s' → Q (.int (l.length : Int) t') s') : wpAny (model PG w) A (call (.builtin "len") [.str (tx l) t]) Q E s := by
  refine len_str (by rw [tx_len]; omega) ?_
  rw [tx_len]
  exact h _ _ ((S.toks (Nat.le_succ _)).toks (Nat.le_succ _))
theorem item_tx {value slice : Expr} {l : List Nat} {t u : Tok} {i : Int} {c : Nat} {Q : Value → Shared → Prop} (S : St s₀ L bs N s) (hl : l.length ≤ 1000000) (h0 : 0 ≤ i) (hc : l[i.toNat]? = some c)
    (h : ∀ t' s', St s₀ L bs N s' → Q (.str (tx [c]) t') s')
    (hs : subscripted slice false (.str (tx l) t) (.int i u) = operate [.str (tx l) t, .int i u] (getItem (.str (tx l) t) (.int i u)) := by with_unfolding_all rfl)
    (ht : ∀ r, letTemporaryGo value (.str (tx l) t) r = pure () := by intro _; with_unfolding_all rfl) :
    wpAny (model PG w) A (subscriptTail value slice (.str (tx l) t) (.int i u)) Q E s := by
  have hlt : i.toNat < l.length := (List.getElem?_eq_some_iff.mp hc).1
  have e : Txt.charAt (tx l) i = some c := StrLaws.at_nonneg h0 (by rw [get_tx]; exact hc)
  refine item_str (by unfold fitsSsize; simp; omega) (by rw [tx_len]; omega) (by rw [tx_len]; omega) (fun _ => ?_) hs ht
  have e2 : Txt.item (tx l) i = tx [c] := by unfold Txt.item; rw [e]; rfl
  rw [e2]
  exact h _ _ (S.toks (Nat.le_succ _))
theorem item_tx_last {value slice : Expr} {l : List Nat} {t u : Tok} {c : Nat} {Q : Value → Shared → Prop} (S : St s₀ L bs N s) (hl : l.length ≤ 1000000) (hc : l.getLast? = some c)
    (h : ∀ t' s', St s₀ L bs N s' → Q (.str (tx [c]) t') s')
    (hs : subscripted slice false (.str (tx l) t) (.int (-1) u) = operate [.str (tx l) t, .int (-1) u] (getItem (.str (tx l) t) (.int (-1) u)) := by with_unfolding_all rfl)
    (ht : ∀ r, letTemporaryGo value (.str (tx l) t) r = pure () := by intro _; with_unfolding_all rfl) :
    wpAny (model PG w) A (subscriptTail value slice (.str (tx l) t) (.int (-1) u)) Q E s := by
  rw [List.getLast?_eq_getElem?] at hc
  have hlt : l.length - 1 < l.length := (List.getElem?_eq_some_iff.mp hc).1
  have e : Txt.charAt (tx l) (-1) = some c := StrLaws.at_neg (by omega) (by rw [tx_len]; omega) (by rw [tx_len, get_tx, show (-1 + (l.length : Int)).toNat = l.length - 1 by omega]; exact hc)
  refine item_str (by decide) (by rw [tx_len]; omega) (by rw [tx_len]; omega) (fun _ => ?_) hs ht
  have e2 : Txt.item (tx l) (-1) = tx [c] := by unfold Txt.item; rw [e]; rfl
  rw [e2]
  exact h _ _ (S.toks (Nat.le_succ _))
theorem iadd_tx {a b : List Nat} {t u : Tok} {Q : Value → Shared → Prop} (S : St s₀ L bs N s) (hl : a.length + b.length ≤ 1000000) (h : ∀ t' s', St s₀ L bs N s' → Q (.str (tx (a ++ b)) t') s') :
    wpAny (model PG w) A (inplaceOp .Add (.str (tx a) t) (.str (tx b) u)) Q E s := by
  refine mono_toks (iadd_str (fun t' k hk => ?_) (by rw [tx_len, tx_len, show sizeLine = 16777216 by decide]; omega))
  rw [tx_app]
  exact h _ _ (S.toks hk)
theorem add_tx {a b : List Nat} {t u : Tok} {Q : Value → Shared → Prop} (S : St s₀ L bs N s) (hl : a.length + b.length ≤ 1000000) (h : ∀ t' s', St s₀ L bs N s' → Q (.str (tx (a ++ b)) t') s') :
    wpAny (model PG w) A (binaryOp .Add (.str (tx a) t) (.str (tx b) u)) Q E s := by
  refine mono_toks (add_str (fun t' k hk => ?_) (by rw [tx_len, tx_len, show sizeLine = 16777216 by decide]; omega))
  rw [tx_app]
  exact h _ _ (S.toks hk)
theorem eq_tx {a b : List Nat} {t u : Tok} {Q : Value → Shared → Prop} (h : Q (.bool (a == b)) s) : wpAny (model PG w) A (compareOp .Eq (.str (tx a) t) (.str (tx b) u)) Q E s := by
  refine eq_str ?_; rw [tx_beq]; exact h
theorem ne_tx {a b : List Nat} {t u : Tok} {Q : Value → Shared → Prop} (h : Q (.bool (a != b)) s) : wpAny (model PG w) A (compareOp .NotEq (.str (tx a) t) (.str (tx b) u)) Q E s := by
  refine ne_str ?_; rw [tx_bne]; exact h
theorem in_tx {c : Nat} {l : List Nat} {t u : Tok} {Q : Value → Shared → Prop} (h : Q (.bool (decide (c ∈ l))) s) : wpAny (model PG w) A (compareOp .In (.str (tx [c]) t) (.str (tx l) u)) Q E s := by
  refine in_str ?_; rw [in_one_tx]; exact h
theorem notIn_tx {c : Nat} {l : List Nat} {t u : Tok} {Q : Value → Shared → Prop} (h : Q (.bool (!decide (c ∈ l))) s) : wpAny (model PG w) A (compareOp .NotIn (.str (tx [c]) t) (.str (tx l) u)) Q E s := by
  refine notIn_str ?_; rw [in_one_tx]; exact h
end
end Mine
end

section
open PySem PySem.W PyProof.Rows PySem.Calls
set_option Elab.async false
set_option maxRecDepth 100000
namespace Mine
abbrev lk (bs : Binds) (x : Str) : Option Value := bs.lookup x
theorem binds_peek {K : Frag} {s : Shared} {fd : FuncData} {args : Args} {binds : Binds} (X : K.In s.heap) (e : ∀ S : Setting, peek K S (bindArgs fd args) = some binds) : Bd s fd args binds :=
  ⟨fun _ _ _ _ hq _ _ _ => wp_of_peek X hq _ (e _)⟩
section
variable {w : World} {A : Around} {E : Value → Shared → Prop} {s₀ s : Shared} {L : Addr} {bs : Binds} {N : List (Addr × Obj)} {env : Env} {Q : Value → Shared → Prop}

theorem St.of_new {h' : Heap} {k : Nat} {o : Obj} (S : St s₀ L bs N s) (F : Fr s₀.heap L h' (fun y => bs.lookup y)) (Nw : News s₀.heap L h' ((s.heap.objs.size, o) :: N)) (hk : s.toks ≤ k) : St s₀ L bs ((s.heap.objs.size, o) :: N) { s with heap := h', toks := k } := by
  obtain ⟨h, tk, rfl⟩ := S.eqv
  refine ⟨⟨_, _, rfl⟩, F, Nw, ?_, Nat.lt_of_lt_of_le S.tk hk⟩
  rw [List.map_cons, List.nodup_cons]
  refine ⟨fun hm => ?_, S.nd⟩
  obtain ⟨p, hp, e⟩ := List.mem_map.mp hm
  have q : p.1 < h.objs.size := Heap.lt_size (S.nw p hp).1
  exact absurd q (by rw [show p.1 = h.objs.size from e]; exact Nat.lt_irrefl _)

theorem int_add {a b : Int} {t u : Tok} (S : St s₀ L bs N s) (h : ∀ t' s', St s₀ L bs N s' → Q (.int (a + b) t') s') : wpAny (model PG w) A (binaryOp .Add (.int a t) (.int b u)) Q E s := add_int (h _ _ (S.toks (Nat.le_succ _)))
theorem int_sub {a b : Int} {t u : Tok} (S : St s₀ L bs N s) (h : ∀ t' s', St s₀ L bs N s' → Q (.int (a - b) t') s') : wpAny (model PG w) A (binaryOp .Sub (.int a t) (.int b u)) Q E s := sub_int (h _ _ (S.toks (Nat.le_succ _)))
theorem int_iadd {a b : Int} {t u : Tok} (S : St s₀ L bs N s) (h : ∀ t' s', St s₀ L bs N s' → Q (.int (a + b) t') s') : wpAny (model PG w) A (inplaceOp .Add (.int a t) (.int b u)) Q E s := iadd_int (h _ _ (S.toks (Nat.le_succ _)))
theorem int_neg {a : Int} {t : Tok} (S : St s₀ L bs N s) (h : ∀ t' s', St s₀ L bs N s' → Q (.int (-a) t') s') : wpAny (model PG w) A (unaryOp .USub (.int a t)) Q E s := neg_int (h _ _ (S.toks (Nat.le_succ _)))

/-- a list of texts -/
def txs (ps : List (List Nat)) (vs : List Value) : Prop := ∃ pcs : List (Str × Tok), vs = strValues pcs ∧ pcs.map (·.1) = ps.map tx
theorem txs_len {ps : List (List Nat)} {vs : List Value} (h : txs ps vs) : vs.length = ps.length := by
  obtain ⟨pcs, rfl, e⟩ := h
  have := congrArg List.length e
  simpa [strValues] using this
theorem txs_get {ps : List (List Nat)} {vs : List Value} (h : txs ps vs) {i : Nat} {v : Value} (hv : vs[i]? = some v) : ∃ p t, ps[i]? = some p ∧ v = .str (tx p) t := by
  obtain ⟨pcs, rfl, e⟩ := h
  simp only [strValues, List.getElem?_map, Option.map_eq_some_iff] at hv
  obtain ⟨⟨x, t⟩, hx, rfl⟩ := hv
  have := congrArg (fun l => l[i]?) e
  simp only [List.getElem?_map, hx, Option.map_some] at this
  cases hp : ps[i]? with
  | none => rw [hp] at this; cases this
  | some p => rw [hp] at this; simp only [Option.map_some, Option.some.injEq] at this; exact ⟨p, t, rfl, by rw [this]⟩
theorem txs_snoc {ps : List (List Nat)} {vs : List Value} (h : txs ps vs) (p : List Nat) (t : Tok) : txs (ps ++ [p]) (vs ++ [.str (tx p) t]) := by
  obtain ⟨pcs, rfl, e⟩ := h
  exact ⟨pcs ++ [(tx p, t)], by simp [strValues], by simp [e]⟩
theorem txs_nil : txs [] [] := ⟨[], rfl, rfl⟩

theorem lns_len (l : List Nat) : (lns l).length ≤ l.length := by
  have h : ∀ n l, List.length l ≤ n → (lns l).length ≤ l.length := by
    intro n
    induction n with
    | zero => intro l hl; obtain rfl : l = [] := List.length_eq_zero_iff.mp (by omega); rw [lns_nil]; exact Nat.le_refl _
    | succ n ih =>
      intro l hl
      cases l with
      | nil => rw [lns_nil]; exact Nat.le_refl _
      | cons c r =>
        simp only [List.length_cons] at hl
        cases hc : isLB c with
        | true =>
          rw [lns_brk hc]
          have : ∀ r', r'.length ≤ r.length → (lns r').length ≤ r.length := fun r' h' => Nat.le_trans (ih r' (by omega)) h'
          simp only [List.length_cons]
          split
          · exact Nat.succ_le_succ (this _ (by simp))
          · exact Nat.succ_le_succ (this _ (Nat.le_refl _))
        | false =>
          rw [lns_go hc]
          have := ih r (by omega)
          cases e : lns r with
          | nil => simp [consHead]
          | cons p ps => rw [e] at this; simp only [consHead, List.length_cons] at this ⊢; omega
  exact h _ l (Nat.le_refl _)
theorem cuts_len (l : List Nat) : (lineCuts (tx l)).length ≤ l.length := by
  have := congrArg List.length (linesOf_tx l)
  rw [List.length_map] at this
  unfold linesOf at this
  rw [List.length_map] at this
  rw [this]; exact lns_len l

theorem call_splitlines {l : List Nat} {t : Tok} (S : St s₀ L bs N s) (hl : l.length ≤ 1000000) (h : ∀ D vs s', txs (lns l) vs → St s₀ L bs ((D, listObj vs) :: N) s' → Q (.ref D) s') :
    wpAny (model PG w) A (call (.builtin "str.splitlines") [.str (tx l) t]) Q E s := by
  have hsl : sizeLine = 16777216 := by decide
  refine mono_toks (splitlinesN S.fr S.nw (fun pcs h' k he F Nw hk => ?_) (by rw [tx_len]; omega) (by have := cuts_len l; omega))
  rw [lines_tx] at he
  exact h _ _ _ ⟨pcs, rfl, he⟩ (S.of_new F Nw hk)
theorem call_split {l y : List Nat} {t u : Tok} (S : St s₀ L bs N s) (hl : l.length ≤ 1000000) (hy : y ≠ []) (h : ∀ D vs s', txs (spl y l) vs → St s₀ L bs ((D, listObj vs) :: N) s' → Q (.ref D) s') :
    wpAny (model PG w) A (call (.builtin "str.split") [.str (tx l) t, .str (tx y) u]) Q E s := by
  have hsl : sizeLine = 16777216 := by decide
  refine mono_toks (splitN1 S.fr S.nw (by rw [tx_len]; cases y with | nil => exact absurd rfl hy | cons a b => rfl) (fun pcs h' k he F Nw hk => ?_) (by rw [tx_len]; omega))
  rw [split_tx l y hy] at he
  exact h _ _ _ ⟨pcs, rfl, he⟩ (S.of_new F Nw hk)
theorem call_rstrip {l : List Nat} {t : Tok} (S : St s₀ L bs N s) (hl : l.length ≤ 1000000) (h : ∀ t' s', St s₀ L bs N s' → Q (.str (tx (rst l)) t') s') :
    wpAny (model PG w) A (call (.builtin "str.rstrip") [.str (tx l) t]) Q E s := by
  have hsl : sizeLine = 16777216 := by decide
  refine mono_toks (SC.rstrip (fun t' k hk => ?_) (by rw [tx_len]; omega))
  rw [rstrip_tx]
  exact h _ _ (S.toks hk)
theorem call_endswith {l y : List Nat} {t u : Tok} (h : Q (.bool (decide (y.length ≤ l.length) && y.isPrefixOf (l.drop (l.length - y.length)))) s) :
    wpAny (model PG w) A (call (.builtin "str.endswith") [.str (tx l) t, .str (tx y) u]) Q E s := by
  refine SC.endswith ?_
  rw [endswith_tx]; exact h
/-- replace one sign by a text -/
theorem call_replace1 {l z : List Nat} {c : Nat} {t u v : Tok} (S : St s₀ L bs N s) (hu : 0 < u) (huv : u < v) (hz : z.length ≤ 3) (hl : l.length ≤ 1000000) (hne : ([c] == z) = false) (h : ∀ t' s', St s₀ L bs N s' → Q (.str (tx (rep1 c z l)) t') s') :
    wpAny (model PG w) A (call (.builtin "str.replace") [.str (tx l) t, .str (tx [c]) u, .str (tx z) v]) Q E s := by
  have hm : (l.length + 1) * z.length ≤ (l.length + 1) * 3 := Nat.mul_le_mul_left _ hz
  refine mono_toks (SC.replace (show (u : Nat) ≠ 0 from Nat.ne_of_gt hu) (show (v : Nat) ≠ 0 from Nat.ne_of_gt (Nat.lt_trans hu huv)) (show (u : Nat) ≠ v from Nat.ne_of_lt huv) (by rw [tx_beq]; exact hne) (by rw [tx_len, tx_len]; omega) fun t3 k3 hk3 => ?_)
  rw [replace1_tx]
  exact h _ _ (S.toks hk3)
end
end Mine
end

section
open PySem PySem.W PyProof.Rows PySem.Calls
set_option Elab.async false
set_option maxRecDepth 100000
namespace Mine
/-- what decode makes of a line that is stripped -/
def dl : List Nat → List Nat
  | [] => [10]
  | [c] => if c = 61 then [] else [c, 10]
  | [c, d] => c :: dl [d]
  | c :: a :: b :: r => if (c == 61 && isHex a && isHex b) = true then (16 * hexVal a + hexVal b) :: dl r else c :: dl (a :: b :: r)
def decAll (l : List Nat) : List Nat := (lns l).flatMap fun x => dl (rst x)
def decEnd (l d : List Nat) : List Nat := if (!decide (l.getLast? = some 13 ∨ l.getLast? = some 10) && decide (d.getLast? = some 10)) = true then d.dropLast else d
def dec (l : List Nat) : List Nat := if l = [] then [] else decEnd l (decAll l)

theorem hexdigits_tx : Str.ofString "0123456789abcdefABCDEF" = tx [48, 49, 50, 51, 52, 53, 54, 55, 56, 57, 97, 98, 99, 100, 101, 102, 65, 66, 67, 68, 69, 70] := by decide +kernel
theorem in_hexdigits (c : Nat) : decide (c ∈ [48, 49, 50, 51, 52, 53, 54, 55, 56, 57, 97, 98, 99, 100, 101, 102, 65, 66, 67, 68, 69, 70]) = isHex c := by
  by_cases h : c < 128
  · have : ∀ c < 128, decide (c ∈ [48, 49, 50, 51, 52, 53, 54, 55, 56, 57, 97, 98, 99, 100, 101, 102, 65, 66, 67, 68, 69, 70]) = isHex c := by decide +kernel
    exact this c h
  · have e : isHex c = false := by
      cases e : isHex c with
      | false => rfl
      | true => simp only [isHex, Bool.or_eq_true, Bool.and_eq_true, decide_eq_true_eq] at e; omega
    rw [e]
    simp
    omega

theorem dl_skip {c : Nat} {r : List Nat} (hr : r ≠ []) (h : hasEsc (c :: r) = false) : dl (c :: r) = c :: dl r := by
  cases r with
  | nil => exact absurd rfl hr
  | cons a r => cases r with
    | nil => rfl
    | cons b r => rw [dl, if_neg (by rw [show (c == 61 && isHex a && isHex b) = false from h]; exact Bool.false_ne_true)]
theorem dl_hit {a b : Nat} {r : List Nat} (ha : isHex a = true) (hb : isHex b = true) : dl (61 :: a :: b :: r) = (16 * hexVal a + hexVal b) :: dl r := by
  rw [dl, if_pos (by simp [ha, hb])]
theorem dl_one {c : Nat} (h : c ≠ 61) : dl [c] = [c, 10] := by rw [dl, if_neg h]
theorem dl_soft : dl [61] = [] := by rw [dl, if_pos rfl]
theorem dl_plain {c : Nat} {r : List Nat} (h : c ≠ 61) : dl (c :: r) = c :: dl r := by
  cases r with
  | nil => rw [dl_one h]; rfl
  | cons a r => exact dl_skip (by simp) (by cases r <;> simp [hasEsc, h])
theorem lns_mem_len (l : List Nat) : ∀ p ∈ lns l, p.length ≤ l.length := by
  have h : ∀ n l, List.length l ≤ n → ∀ p ∈ lns l, p.length ≤ l.length := by
    intro n
    induction n with
    | zero => intro l hl p hp; obtain rfl : l = [] := List.length_eq_zero_iff.mp (by omega); rw [lns_nil] at hp; cases hp
    | succ n ih =>
      intro l hl p hp
      cases l with
      | nil => rw [lns_nil] at hp; cases hp
      | cons c r =>
        simp only [List.length_cons] at hl ⊢
        cases hc : isLB c with
        | true =>
          rw [lns_brk hc] at hp
          rcases List.mem_cons.mp hp with rfl | hp
          · simp
          · split at hp
            · have := ih _ (by rw [List.length_drop]; omega) p hp; rw [List.length_drop] at this; omega
            · have := ih _ (by omega) p hp; omega
        | false =>
          rw [lns_go hc] at hp
          cases e : lns r with
          | nil => rw [e] at hp; simp [consHead] at hp; subst hp; simp
          | cons q qs =>
            rw [e] at hp
            simp only [consHead, List.mem_cons] at hp
            rcases hp with rfl | hp
            · have := ih r (by omega) q (by rw [e]; exact .head _); simp only [List.length_cons]; omega
            · have := ih r (by omega) p (by rw [e]; exact .tail _ hp); omega
  exact h _ l (Nat.le_refl _)

section
variable {w : World} {A : Around} {s : Shared}
def DecAt (s₀ : Shared) (L : Addr) (NN : List (Addr × Obj)) (l : List Nat) (t : Tok) (r d0 : List Nat) (i : Nat) (X : List Nat) (s' : Shared) : Prop :=
  ∃ bs ti tn td tl, St s₀ L bs NN s' ∧ lk bs "i" = some (.int (i : Int) ti) ∧ lk bs "n" = some (.int (r.length : Int) tn) ∧ lk bs "line" = some (.str (tx r) tl) ∧ lk bs "decoded" = some (.str (tx (d0 ++ X)) td) ∧
    lk bs "eol" = some (.str (tx [10]) 319) ∧ lk bs "encoded" = some (.str (tx l) t)
set_option maxHeartbeats 4000000 in
theorem fn_decode {l : List Nat} {t : Tok} {R : Result → Shared → Prop} (hl : l.length ≤ 100000) (hd : (decAll l).length ≤ 500000) (hA : AOk A 8) (G : Gnd w s.heap) (hR : Gives1 s R (IsTx (dec l))) :
    codeAny (model PG w) A (.call (.ref 95) ⟨[.str (tx l) t], []⟩) R s := by
  refine enter (fd := fd95) (binds := [("encoded", .str (tx l) t), ("eol", .str (tx [10]) 319)]) (k := 7) hA G (by kernel_rfl) (by kernel_rfl) rfl (binds_peek G.X fun _ => by kernel_rfl) (by kernel_rfl) (by kernel_rfl) (by simp) fun L s1 hL S1 hA1 => ?_
  refine wpAny_execs_cons (wpAny_If (isTrue_not (isTrue_plain (ev_loc S1 rfl (truthy_tx S1 (by omega) fun s2 S2 => ?_)))))
  by_cases hle : l = []
  · subst hle
    refine wpAny_execs_cons (wpAny_Return_some (ev_loc S2 rfl ?_))
    exact hR _ _ ⟨_, rfl⟩ S2.done S2.le
  · have e : (!(!l.isEmpty)) = false := by simpa using hle
    rw [e]
    refine wpAny_execs_nil ?_
    refine wpAny_execs_cons (wpAny_Assign_Name (ev_str S2 fun t3 s3 S3 _ _ => ?_))
    rw [show Str.ofString "" = tx [] from by decide +kernel]
    refine st_name S3 fun s4 S4 => ?_
    have hlen : ∀ k, (((lns l).take k).flatMap fun x => dl (rst x)).length ≤ 500000 := fun k => by
      have : ((lns l).take k).flatMap (fun x => dl (rst x)) <+: decAll l := by
        unfold decAll
        conv => rhs; rw [← List.take_append_drop k (lns l), List.flatMap_append]
        exact List.prefix_append _ _
      exact Nat.le_trans this.length_le hd
    refine wpAny_execs_cons (for_list (s₀ := s) (L := L) hA1.handled (fun k bs N => N = [] ∧ ∃ td, lk bs "decoded" = some (.str (tx (((lns l).take k).flatMap fun x => dl (rst x))) td) ∧ lk bs "eol" = some (.str (tx [10]) 319) ∧ lk bs "encoded" = some (.str (tx l) t)) ?_)
    refine MethodCall_ (ev_loc S4 rfl (GM.splitlines (callWith_method0 (call_splitlines S4 (by omega) fun D vs s5 hvs S5 => ?_))))
    refine ⟨D, vs, _, [], [(D, listObj vs)], rfl, S5, .inr ⟨_, 0, .head _, rfl, rfl⟩, ⟨rfl, t3, rfl, rfl, rfl⟩, ?_, ?_⟩
    · rintro k v bs N it oi s6 hv ⟨rfl, td, hdec, heol, henc⟩ S6
      obtain ⟨ln, tl, hln, rfl⟩ := txs_get hvs hv
      have hnext : (lns l).take (k + 1) = (lns l).take k ++ [ln] := by rw [List.take_add_one, hln]; rfl
      have hlnl : ln.length ≤ 100000 := Nat.le_trans (lns_mem_len l ln (List.mem_of_getElem? hln)) hl
      have hgo : ((lns l).take (k + 1)).flatMap (fun x => dl (rst x)) = ((lns l).take k).flatMap (fun x => dl (rst x)) ++ dl (rst ln) := by rw [hnext, List.flatMap_append]; simp
      have hlen1 := hlen (k + 1)
      rw [hgo, List.length_append] at hlen1
      rw [hgo]
      generalize hd0 : ((lns l).take k).flatMap (fun x => dl (rst x)) = d0 at *
      have hrl : (rst ln).length ≤ 100000 := by unfold rst; rw [List.length_take]; omega
      generalize hr : rst ln = r at *
      refine wpAny_execs_cons (wpAny_Assign_Name ?_)
      refine MethodCall_ (ev_loc S6 rfl (GM.rstrip (callWith_method0 (call_rstrip S6 (by omega) fun t7 s7 S7 => ?_))))
      rw [hr]
      refine st_name S7 fun s8 S8 => ?_
      refine wpAny_execs_cons (wpAny_If (isTrue_not (isTrue_plain (ev_loc S8 rfl (truthy_tx S8 (by omega) fun s9 S9 => ?_)))))
      by_cases hre : r = []
      · subst hre
        refine wpAny_execs_cons (wpAny_AugAssign_Name (ev_locn S9 hdec (ev_loc S9 heol (iadd_tx S9 (by simp [dl] at hlen1 ⊢; omega) fun t10 s10 S10 => st_name S10 fun s11 S11 => ?_))))
        refine wpAny_execs_cons (wpAny_Continue ?_)
        exact ⟨.inr rfl, _, [], S11, rfl, _, rfl, heol, henc⟩
      · have e : (!(!r.isEmpty)) = false := by simpa using hre
        rw [e]
        refine wpAny_execs_nil ?_
        refine wpAny_execs_cons (wpAny_Assign_Name (ev_int S9 fun t10 s10 S10 _ _ => st_name S10 fun s11 S11 => ?_))
        refine wpAny_execs_cons (wpAny_Assign_Name (Call_ (ev_built (G.st S11) (gn_len _) boot_len (PyProof.Rows.callWith_builtin1 (spliced_more (ev_loc S11 rfl (spliced_none (len_tx S11 (by omega) fun t12 s12 S12 => st_name S12 fun s13 S13 => ?_))))))))
        have fin : ∀ s', DecAt s L ((it, oi) :: [(D, listObj vs)] ++ []) l t r d0 r.length (dl r) s' → ∃ bs' N', St s L bs' ((it, oi) :: [(D, listObj vs)] ++ N') s' ∧ N' = [] ∧ ∃ td, lk bs' "decoded" = some (.str (tx (d0 ++ dl r)) td) ∧ lk bs' "eol" = some (.str (tx [10]) 319) ∧ lk bs' "encoded" = some (.str (tx l) t) := by
          rintro s' ⟨bs', ti, tn, td, tl, S', _, _, _, h4, h5, h6⟩
          exact ⟨bs', [], S', rfl, td, h4, h5, h6⟩
        refine wpAny_execs_cons (whl (fun m s' => ∃ i X, m + i = r.length ∧ DecAt s L ((it, oi) :: [(D, listObj vs)] ++ []) l t r d0 i X s' ∧ ((i < r.length ∧ X ++ dl (r.drop i) = dl r) ∨ (i = r.length ∧ X = dl r))) ?_ r.length
          ⟨0, [], by omega, ⟨_, _, _, _, _, S13, rfl, rfl, rfl, by rw [List.append_nil]; exact hdec, heol, henc⟩, .inl ⟨List.length_pos_iff.mpr hre, by simp⟩⟩)
        rintro m s14 ⟨i, X, hmi, ⟨bs', ti, tn, td', tl', S14, h1, h2, h3, h4, h5, h6⟩, hX⟩
        refine wpAny_isTrue_Compare1 (ev_loc S14 h1 (ev_loc S14 h2 (lt_int (wpAny_truthy_bool ?_))))
        by_cases hlt : i < r.length
        · rw [if_pos (by simpa using hlt)]
          have hX1 : X ++ dl (r.drop i) = dl r := by
            rcases hX with h | h
            · exact h.2
            · omega
          have hXl : X.length ≤ (dl r).length := by rw [← hX1, List.length_append]; omega
          have hdrop : r.drop i = r[i] :: r.drop (i + 1) := List.drop_eq_getElem_cons hlt
          generalize hcv : r[i] = cv at hdrop
          have hget : r[(i : Int).toNat]? = some cv := by rw [Int.toNat_natCast, List.getElem?_eq_getElem hlt, hcv]
          refine wpAny_execs_cons (wpAny_Assign_Name (Subscript_ (ev_loc S14 h3 (ev_loc S14 h1 (item_tx S14 (by omega) (by omega) hget fun t15 s15 S15 => st_name S15 fun s16 S16 => ?_)))))
          refine wpAny_execs_cons (wpAny_mono (Q := fun f s' => (f = .cont ∧ DecAt s L ((it, oi) :: [(D, listObj vs)] ++ []) l t r d0 r.length (dl r) s') ∨ (f = .next ∧ ∃ i' X', i < i' ∧ i' ≤ r.length ∧ DecAt s L ((it, oi) :: [(D, listObj vs)] ++ []) l t r d0 i' X' s' ∧ X' ++ dl (r.drop i') = dl r)) ?_ (fun f s' h => ?_) fun _ _ e => e)
          · refine wpAny_If (wpAny_isTrue_Compare1 (ev_loc S16 rfl (ev_str S16 fun t17 s17 S17 _ _ => ?_)))
            rw [show Str.ofString "=" = tx [61] from by decide +kernel]
            refine ne_tx (wpAny_truthy_bool ?_)
            by_cases hc61 : cv = 61
            · rw [if_neg (by simp [hc61])]
              refine wpAny_execs_cons (wpAny_If (wpAny_isTrue_Compare1 (wpAny_BinOp (ev_loc S17 h1 (ev_int S17 fun t18 s18 S18 _ _ => int_add S18 fun t19 s19 S19 => ev_loc S19 h2 (eq_int (wpAny_truthy_bool ?_)))))))
              by_cases hlast : i + 1 = r.length
              · -- a soft break
                rw [if_pos (by simp; omega)]
                refine wpAny_execs_cons (wpAny_AugAssign_Name (ev_locn S19 h1 (ev_int S19 fun t20 s20 S20 _ _ => int_iadd S20 fun t21 s21 S21 => st_name S21 fun s22 S22 => ?_)))
                refine wpAny_execs_cons (wpAny_Continue (.inl ⟨rfl, ?_⟩))
                have : r.drop (i + 1) = [] := List.drop_of_length_le (by omega)
                rw [hdrop, this, hc61, dl_soft, List.append_nil] at hX1
                refine ⟨_, t21, tn, td', tl', S22, ?_, h2, h3, ?_, h5, h6⟩
                · rw [← hlast]; rfl
                · rw [← hX1]; exact h4
              · rw [if_neg (by simp; omega)]
                have hne1 : r.drop (i + 1) ≠ [] := by
                  intro h0; have := congrArg List.length h0; rw [List.length_drop] at this; simp at this; omega
                -- the two signs behind
                refine wpAny_execs_cons (wpAny_If (wpAny_mono (Q := fun b s' => b = hasEsc (r.drop i) ∧ St s L ((Str.ofString "c", .str (tx [cv]) t15) :: bs') ((it, oi) :: [(D, listObj vs)] ++ []) s') ?_ (fun b s' h => ?_) fun _ _ e => e))
                · refine isTrue_and (wpAny_isTrue_Compare1 (wpAny_BinOp (ev_loc S19 h1 (ev_int S19 fun t20 s20 S20 _ _ => int_add S20 fun t21 s21 S21 => ev_loc S21 h2 (lt_int (wpAny_truthy_bool ?_))))))
                  by_cases h2n : i + 2 < r.length
                  · rw [if_pos (by simp; omega)]
                    have hd1 : r.drop (i + 1) = r[i + 1] :: r.drop (i + 2) := List.drop_eq_getElem_cons (by omega)
                    have hd2 : r.drop (i + 2) = r[i + 2] :: r.drop (i + 3) := List.drop_eq_getElem_cons h2n
                    have g1 : r[((i : Int) + 1).toNat]? = some r[i + 1] := by rw [show ((i : Int) + 1).toNat = i + 1 by omega]; exact List.getElem?_eq_getElem _
                    have g2 : r[((i : Int) + 2).toNat]? = some r[i + 2] := by rw [show ((i : Int) + 2).toNat = i + 2 by omega]; exact List.getElem?_eq_getElem _
                    refine isTrue_and (wpAny_isTrue_Compare1 (Subscript_ (ev_loc S21 h3 (wpAny_BinOp (ev_loc S21 h1 (ev_int S21 fun t22 s22 S22 _ _ => int_add S22 fun t23 s23 S23 => item_tx S23 (by omega) (by omega) g1 fun t24 s24 S24 => ev_glob (G.st S24) (gl_hexdigits _) ?_))))))
                    rw [hexdigits_tx]
                    refine in_tx (wpAny_truthy_bool ?_)
                    rw [in_hexdigits]
                    have hesc : hasEsc (r.drop i) = (isHex r[i + 1] && isHex r[i + 2]) := by rw [hdrop, hd1, hd2, hc61]; rfl
                    by_cases hx1 : isHex r[i + 1] = true
                    · rw [if_pos hx1]
                      refine isTrue_and (wpAny_isTrue_Compare1 (Subscript_ (ev_loc S24 h3 (wpAny_BinOp (ev_loc S24 h1 (ev_int S24 fun t25 s25 S25 _ _ => int_add S25 fun t26 s26 S26 => item_tx S26 (by omega) (by omega) g2 fun t27 s27 S27 => ev_glob (G.st S27) (gl_hexdigits _) ?_))))))
                      rw [hexdigits_tx]
                      refine in_tx (wpAny_truthy_bool ?_)
                      rw [in_hexdigits]
                      by_cases hx2 : isHex r[i + 2] = true
                      · rw [if_pos hx2]
                        exact isTrue_and_nil ⟨by rw [hesc, hx1, hx2]; rfl, S27⟩
                      · rw [if_neg hx2]
                        exact ⟨by rw [hesc, hx1]; simpa using hx2, S27⟩
                    · rw [if_neg hx1]
                      refine ⟨?_, S24⟩
                      rw [hesc]; simp only [Bool.not_eq_true] at hx1; rw [hx1]; rfl
                  · rw [if_neg (by simp; omega)]
                    refine ⟨?_, S21⟩
                    have hl2 : (r.drop i).length ≤ 2 := by rw [List.length_drop]; omega
                    cases e : r.drop i with
                    | nil => rfl
                    | cons a q => cases q with
                      | nil => rfl
                      | cons b q => cases q with
                        | nil => rfl
                        | cons c q => rw [e] at hl2; simp at hl2
                · obtain ⟨rfl, S20⟩ := h
                  cases hesc : hasEsc (r.drop i) with
                  | true =>
                    rw [if_pos rfl]
                    obtain ⟨a, b, q, hq⟩ : ∃ a b q, r.drop (i + 1) = a :: b :: q := by
                      rw [hdrop] at hesc
                      cases e : r.drop (i + 1) with
                      | nil => rw [e] at hesc; cases hesc
                      | cons a q => cases q with
                        | nil => rw [e] at hesc; cases hesc
                        | cons b q => exact ⟨a, b, q, rfl⟩
                    rw [hdrop, hq, hc61] at hesc
                    simp only [hasEsc, Bool.and_eq_true, beq_self_eq_true, true_and] at hesc
                    have h3n : i + 3 ≤ r.length := by have := congrArg List.length hq; rw [List.length_drop] at this; simp at this; omega
                    have hq3 : r.drop (i + 3) = q := by
                      have : r.drop (i + 3) = (r.drop (i + 1)).drop 2 := by rw [List.drop_drop]
                      rw [this, hq]; rfl
                    have hX2 : X ++ [16 * hexVal a + hexVal b] ++ dl (r.drop (i + 3)) = dl r := by rw [← hX1, hdrop, hq, hc61, dl_hit hesc.1 hesc.2, hq3]; simp
                    have hXl2 : X.length + 1 ≤ (dl r).length := by rw [← hX2]; simp
                    refine wpAny_execs_cons (wpAny_AugAssign_Name (ev_locn S20 h4 (Call_ (ev_glob (G.st S20) (gl_unquote _) (cw_fn (by kernel_rfl) (spliced_more (Subscript_ (ev_loc S20 h3 ?_))))))))
                    refine ev_slice (by rw [show sizeLine = 16777216 by decide]; omega) (evalPart_some_step (ev_loc S20 h1 (evalPart_some_step (wpAny_BinOp (ev_loc S20 h1 (ev_int S20 fun t21 s21 S21 _ _ => int_add S21 fun t22 s22 S22 => ⟨some ((i : Int), ti), some ((i : Int) + 3, t22), _, _, rfl, rfl, S22, fun t23 s23 S23 => ?_⟩))))))
                    have hsl : sl r (some (i : Int)) (some ((i : Int) + 3)) = [61, a, b] := by
                      unfold sl
                      have c1 : clip r.length 0 (some (i : Int)) = i := by simp only [clip]; omega
                      have c2 : clip r.length r.length (some ((i : Int) + 3)) = i + 3 := by simp only [clip]; omega
                      rw [c1, c2, show i + 3 - i = 3 by omega, hdrop, hq, hc61]; rfl
                    show wpAny _ _ (spliced _) _ _ _
                    refine spliced_none ⟨G.st S23, wpAny_call ?_⟩
                    show codeAny _ _ (.call (.ref 59) ⟨[.str (tx (sl r (some (i : Int)) (some ((i : Int) + 3)))) t23], []⟩) _ _
                    rw [hsl]
                    refine fn_unquote hesc.1 hesc.2 (hA1.le (by omega)) (G.st S23) fun v s24 hv hk24 ht24 => ?_
                    obtain ⟨tv, rfl⟩ := hv
                    have S24 := S23.keeps hk24 ht24
                    refine iadd_tx S24 (by simp; omega) fun t25 s25 S25 => st_name S25 fun s26 S26 => ?_
                    refine wpAny_execs_cons (wpAny_AugAssign_Name (ev_locn S26 h1 (ev_int S26 fun t27 s27 S27 _ _ => int_iadd S27 fun t28 s28 S28 => st_name S28 fun s29 S29 => ?_)))
                    refine wpAny_execs_nil (wpAny_execs_nil (wpAny_execs_nil (.inr ⟨rfl, i + 3, X ++ [16 * hexVal a + hexVal b], by omega, by omega, ⟨_, t28, tn, t25, tl', S29, rfl, h2, h3, ?_, h5, h6⟩, hX2⟩)))
                    rw [← List.append_assoc]; rfl
                  | false =>
                    rw [if_neg Bool.false_ne_true]
                    rw [hdrop] at hesc
                    have hX2 : X ++ [cv] ++ dl (r.drop (i + 1)) = dl r := by rw [← hX1, hdrop, dl_skip hne1 hesc]; simp
                    refine wpAny_execs_cons (wpAny_AugAssign_Name (ev_locn S20 h4 (ev_loc S20 rfl (iadd_tx S20 (by simp; omega) fun t21 s21 S21 => st_name S21 fun s22 S22 => ?_))))
                    refine wpAny_execs_cons (wpAny_AugAssign_Name (ev_locn S22 h1 (ev_int S22 fun t23 s23 S23 _ _ => int_iadd S23 fun t24 s24 S24 => st_name S24 fun s25 S25 => ?_)))
                    refine wpAny_execs_nil (wpAny_execs_nil (wpAny_execs_nil (.inr ⟨rfl, i + 1, X ++ [cv], by omega, by omega, ⟨_, t24, tn, t21, tl', S25, rfl, h2, h3, ?_, h5, h6⟩, hX2⟩)))
                    rw [← List.append_assoc]; rfl
            · rw [if_pos (by simp [hc61])]
              have hX2 : X ++ [cv] ++ dl (r.drop (i + 1)) = dl r := by rw [← hX1, hdrop, dl_plain hc61]; simp
              refine wpAny_execs_cons (wpAny_AugAssign_Name (ev_locn S17 h4 (ev_loc S17 rfl (iadd_tx S17 (by simp; omega) fun t18 s18 S18 => st_name S18 fun s19 S19 => ?_))))
              refine wpAny_execs_cons (wpAny_AugAssign_Name (ev_locn S19 h1 (ev_int S19 fun t20 s20 S20 _ _ => int_iadd S20 fun t21 s21 S21 => st_name S21 fun s22 S22 => ?_)))
              refine wpAny_execs_nil (.inr ⟨rfl, i + 1, X ++ [cv], by omega, by omega, ⟨_, t21, tn, t18, tl', S22, rfl, h2, h3, ?_, h5, h6⟩, hX2⟩)
              rw [← List.append_assoc]; rfl
          · rcases h with ⟨rfl, hc⟩ | ⟨rfl, i', X', hi1, hi2, ⟨bs2, ti2, tn2, td2, tl2, S20, k1, k2, k3, k4, k5, k6⟩, hX'⟩
            · exact ⟨0, by omega, r.length, dl r, by omega, hc, .inr ⟨rfl, rfl⟩⟩
            · refine wpAny_execs_cons (wpAny_If (wpAny_isTrue_Compare1 (ev_loc S20 k1 (ev_loc S20 k2 (eq_int (wpAny_truthy_bool ?_))))))
              by_cases hin : i' = r.length
              · rw [if_pos (by simp; omega)]
                have : r.drop i' = [] := List.drop_of_length_le (by omega)
                rw [this] at hX'
                have hXl' : X'.length ≤ (dl r).length := by rw [← hX', List.length_append]; omega
                refine wpAny_execs_cons (wpAny_AugAssign_Name (ev_locn S20 k4 (ev_loc S20 k5 (iadd_tx S20 (by simp; omega) fun t21 s21 S21 => st_name S21 fun s22 S22 => ?_))))
                refine wpAny_execs_nil (wpAny_execs_nil ⟨0, by omega, r.length, dl r, by omega, ⟨_, ti2, tn2, t21, tl2, S22, by rw [← hin]; exact k1, k2, k3, ?_, k5, k6⟩, .inr ⟨rfl, rfl⟩⟩)
                rw [← hX', ← List.append_assoc]; rfl
              · rw [if_neg (by simp; omega)]
                exact wpAny_execs_nil (wpAny_execs_nil ⟨r.length - i', by omega, i', X', by omega, ⟨_, _, _, _, _, S20, k1, k2, k3, k4, k5, k6⟩, .inl ⟨by omega, hX'⟩⟩)
        · rw [if_neg (by simpa using hlt)]
          refine wpAny_execs_nil ⟨.inl rfl, fin s14 ?_⟩
          rcases hX with h | ⟨rfl, rfl⟩
          · exact absurd h.1 hlt
          · exact ⟨bs', ti, tn, td', tl', S14, h1, h2, h3, h4, h5, h6⟩
    · rintro bs N s6 ⟨rfl, td, hdec, heol, henc⟩ S6
      rw [txs_len hvs, List.take_length] at hdec
      have hdec : lk bs "decoded" = some (.str (tx (decAll l)) td) := hdec
      obtain ⟨lc, hlc⟩ : ∃ c, l.getLast? = some c := by
        cases e : l.getLast? with
        | none => exact absurd (List.getLast?_eq_none_iff.mp e) hle
        | some c => exact ⟨c, rfl⟩
      have hdecE : dec l = decEnd l (decAll l) := by unfold dec; rw [if_neg hle]
      have fin : ∀ (p : Pos) bs s' td', St s L bs [(D, listObj vs)] s' → lk bs "decoded" = some (.str (tx (dec l)) td') → wpAny (model PG w) (A.deeper (callEnv fd95 L 95)) (eval (.Name (Str.ofString "decoded") p) (callEnv fd95 L 95)) (fun v s'' => R (.ok (.ret v)) s'') (fun _ _ => False) s' := by
        intro p bs s' td' S' hd'
        exact ev_loc S' hd' (hR _ _ ⟨_, rfl⟩ S'.done S'.le)
      refine wpAny_execs_cons (wpAny_If (isTrue_and (wpAny_isTrue_Compare1 (Subscript_ (ev_loc S6 henc (UnaryOp_ (ev_int S6 fun t7 s7 S7 _ _ => int_neg S7 fun t8 s8 S8 => item_tx_last S8 (by omega) hlc fun t9 s9 S9 => ev_str S9 fun t10 s10 S10 _ _ => ?_)))))))
      rw [show Str.ofString "\r\n" = tx [13, 10] from by decide +kernel]
      refine notIn_tx (wpAny_truthy_bool ?_)
      have hb1 : (!decide (lc ∈ [13, 10])) = !decide (l.getLast? = some 13 ∨ l.getLast? = some 10) := by rw [hlc]; simp
      rw [hb1]
      by_cases hcr : (!decide (l.getLast? = some 13 ∨ l.getLast? = some 10)) = true
      · rw [if_pos hcr]
        refine isTrue_and (isTrue_plain (MethodCall_ (ev_loc S10 hdec (GM.endswith (callWith_method1 (spliced_more (ev_loc S10 heol (spliced_none (call_endswith (wpAny_truthy_bool ?_))))))))))
        have hb2 : (decide ([10].length ≤ (decAll l).length) && [10].isPrefixOf ((decAll l).drop ((decAll l).length - [10].length))) = decide ((decAll l).getLast? = some 10) := by
          cases e : (decAll l).getLast? with
          | none => rw [List.getLast?_eq_none_iff.mp e]; simp
          | some c =>
            have hne : decAll l ≠ [] := fun h0 => by rw [h0] at e; cases e
            obtain ⟨pre, hpre⟩ : ∃ pre, decAll l = pre ++ [c] := List.getLast?_eq_some_iff.mp e
            rw [hpre]
            have e1 : (pre ++ [c]).drop ((pre ++ [c]).length - [10].length) = [c] := by simp
            rw [e1]
            have e2 : [10].isPrefixOf [c] = decide (some c = some 10) := by
              by_cases hc : c = 10
              · subst hc; rfl
              · simp [List.isPrefixOf, hc, Ne.symm hc]
            rw [e2]; simp
        rw [hb2]
        by_cases hl10 : (decAll l).getLast? = some 10
        · rw [if_pos (by simpa using hl10)]
          refine isTrue_and_nil ?_
          rw [if_pos rfl]
          obtain ⟨pre, hpre⟩ : ∃ pre, decAll l = pre ++ [10] := List.getLast?_eq_some_iff.mp hl10
          have hdl : (decAll l).dropLast = pre := by rw [hpre]; simp
          refine wpAny_execs_cons (wpAny_Assign_Name (Subscript_ (ev_loc S10 hdec ?_)))
          refine ev_slice (by rw [show sizeLine = 16777216 by decide]; omega) (evalPart_none_step (evalPart_some_step (UnaryOp_ (Call_ (ev_built (G.st S10) (gn_len _) boot_len (PyProof.Rows.callWith_builtin1 (spliced_more (ev_loc S10 heol (spliced_none (len_tx S10 (by simp) fun t11 s11 S11 => int_neg S11 fun t12 s12 S12 => ⟨none, some (_, t12), _, _, rfl, rfl, S12, fun t13 s13 S13 => st_name S13 fun s14 S14 => ?_⟩))))))))))
          refine wpAny_execs_nil (wpAny_execs_cons (wpAny_Return_some (fin _ _ _ t13 S14 ?_)))
          have e : sl (decAll l) none (some (-(([10] : List Nat).length : Int))) = dec l := by
            rw [hdecE]; unfold decEnd
            rw [if_pos (by rw [hcr, hl10]; rfl), hdl, hpre]
            unfold sl
            have c2 : clip (pre ++ [10]).length (pre ++ [10]).length (some (-(([10] : List Nat).length : Int))) = pre.length := by simp only [clip, List.length_append, List.length_cons, List.length_nil]; omega
            rw [c2]; simp [clip]
          rw [← e]; rfl
        · rw [if_neg (by simpa using hl10)]
          rw [if_neg Bool.false_ne_true]
          refine wpAny_execs_nil (wpAny_execs_cons (wpAny_Return_some (fin _ _ _ td S10 ?_)))
          rw [hdecE]; unfold decEnd
          rw [if_neg (by simp [hl10])]; exact hdec
      · rw [if_neg hcr]
        rw [if_neg Bool.false_ne_true]
        refine wpAny_execs_nil (wpAny_execs_cons (wpAny_Return_some (fin _ _ _ td S10 ?_)))
        rw [hdecE]; unfold decEnd
        rw [if_neg (by simp only [Bool.and_eq_true]; exact fun h => hcr h.1)]; exact hdec
end
end Mine
end

section
open PySem PySem.W PyProof.Rows PySem.Calls
set_option Elab.async false
set_option maxRecDepth 100000
namespace Mine
open Builtin Builtin.Str
section
variable {w : World} {A : Around} {E : Value → Shared → Prop} {s : Shared} {Q : Value → Shared → Prop}
theorem tr_look {T : Addr} {items : Array Value} {c : Nat} {t : Tok} {y : Str} {Q : Mapped → Shared → Prop} (hl : s.heap.IsList T items) (hc : c < 2 ^ 63) (hx : items[c]? = some (.str y t)) (h : ∀ k, Q (.text y) { s with toks := k }) :
    wpAny (model PG w) A (tableLookup (.ref T) c) Q E s := by
  unfold tableLookup
  refine wpAny_bind (wpAny_attempt (wpAny_bind (wpAny_mkInt (wpAny_getItem_list hl (by omega) (by omega) (by simpa using hx) ?_))))
  show wpAny _ _ (asInt? (.str y t) >>= _) _ _ _
  repeat (any_goals (first | assumption | wp_step))
  exact h _
theorem tooLong_no {n : Nat} (h : n ≤ 1000000) : tooLong n = false := by
  unfold tooLong
  exact decide_eq_false (by rw [show sizeLine = 16777216 by decide]; omega)
theorem cat_pieces (ps : List Str) : (⟨ps.foldl (fun acc p => acc ++ p.cps) #[]⟩ : Str) = tx (ps.flatMap fun p => p.cps.toList) := by
  have : ∀ (ps : List Str) (acc : Array Nat), (ps.foldl (fun acc p => acc ++ p.cps) acc).toList = acc.toList ++ ps.flatMap fun p => p.cps.toList := by
    intro ps
    induction ps with
    | nil => intro acc; simp
    | cons p r ih => intro acc; rw [List.foldl_cons, ih]; simp
  rw [← tx_of ⟨_⟩, this]; rfl
theorem call_translate {T : Addr} {items : Array Value} {m : Nat → List Nat} {l : List Nat} {t : Tok} (hT : s.heap.IsList T items) (hm : ∀ c < 256, ∃ tok, items[c]? = some (.str (tx (m c)) tok)) (hl : ∀ c ∈ l, c < 256)
    (hlen : (l.flatMap m).length ≤ 1000000) (h : ∀ t' k, Q (.str (tx (l.flatMap m)) t') { s with toks := k }) : wpAny (model PG w) A (call (.builtin "str.translate") [.str (tx l) t, .ref T]) Q E s := by
  refine wpAny_call_entry F.slot_str_translate (typeIs_str _ _ _) F.entry_str_translate ?_ (F.args_str_translate_2 _ _)
  unfold Builtin.«str.translate»
  repeat (any_goals (first | assumption | wp_step))
  by_cases hle : l = []
  · subst hle
    rw [if_pos (by rfl)]
    exact wpAny_bind (wpAny_rule (wpAny_bind (wpAny_pure (wpAny_pure ⟨_, rfl, h t s.toks⟩))))
  · rw [if_neg (by rw [tx_len]; simpa using hle)]
    dsimp only
    refine wpAny_bind ?_
    rw [← Array.forIn_toList, tx_list]
    have hsl : sizeLine = 16777216 := by decide
    refine wpAny_forIn_list _ (fun rest (st : List Str × Nat × Bool × List (Nat × Option Nat) × Bool) s' => ∃ done, l = done ++ rest ∧ (∃ k, s' = { s with toks := k }) ∧ st.1.reverse.flatMap (fun p => p.cps.toList) = done.flatMap m ∧
      st.2.1 = (done.flatMap m).length ∧ (∀ c a, List.lookup c st.2.2.2.1 = some a → ∃ d, a = some d ∧ m c = [d]) ∧ st.2.2.2.2 = false) _ ?_ ?_ l _ ⟨[], rfl, ⟨s.toks, rfl⟩, rfl, rfl, by simp, rfl⟩
    · rintro c rest ⟨pieces, total, fast, known, afterDrop⟩ s' ⟨done, rfl, ⟨k, rfl⟩, h1, h2, h3, h4⟩
      dsimp only at h1 h2 h3 h4
      subst h4
      have hc : c < 256 := hl c (by simp)
      obtain ⟨tok, htok⟩ := hm c hc
      have hdone : (done.flatMap m).length + (m c).length ≤ 1000000 := by
        rw [List.flatMap_append, List.length_append, List.flatMap_cons, List.length_append] at hlen; omega
      have next : ∀ (x : Str) n f kn k', x.cps.toList = m c → n = total + (m c).length → (∀ c' a, List.lookup c' kn = some a → ∃ d, a = some d ∧ m c' = [d]) →
          ∃ done', done ++ c :: rest = done' ++ rest ∧ (∃ k, ({ s with toks := k' } : Shared) = { s with toks := k }) ∧ (x :: pieces).reverse.flatMap (fun p => p.cps.toList) = done'.flatMap m ∧ n = (done'.flatMap m).length ∧
            (∀ c' a, List.lookup c' kn = some a → ∃ d, a = some d ∧ m c' = [d]) ∧ (f : Bool) = f := by
        intro x n f kn k' hx hn hk
        refine ⟨done ++ [c], by simp, ⟨_, rfl⟩, ?_, ?_, hk, rfl⟩
        · rw [List.reverse_cons, List.flatMap_append, h1, List.flatMap_append]; simp [hx]
        · rw [hn, h2, List.flatMap_append]; simp
      dsimp only
      rw [if_neg (by rw [tooLong_no (by omega)]; exact Bool.false_ne_true)]
      have hTk : ∀ k, ({ s with toks := k } : Shared).heap.IsList T items := fun _ => hT
      have slow : ∀ (k' : Nat) (f : Bool) (kn : List (Nat × Option Nat)), (∀ c' a, List.lookup c' kn = some a → ∃ d, a = some d ∧ m c' = [d]) →
          wpAny (model PG w) A.in1 (tableLookup (Value.ref T) c) (fun x s₁ => wpAny (model PG w) A.in1 (match x with
              | Mapped.keep => pure (ForInStep.yield ({ cps := #[c] } :: pieces, total + 1, f, kn, false))
              | Mapped.drop => pure (ForInStep.yield (pieces, total, f, kn, true))
              | Mapped.char d => pure (ForInStep.yield ({ cps := #[d] } :: pieces, total + 1, f, kn, false))
              | Mapped.text t => pure (ForInStep.yield (t :: pieces, total + t.length, f, kn, false)))
            (fun r s' => match r with
              | .yield st => ∃ done', done ++ c :: rest = done' ++ rest ∧ (∃ k, s' = { s with toks := k }) ∧ st.1.reverse.flatMap (fun p => p.cps.toList) = done'.flatMap m ∧ st.2.1 = (done'.flatMap m).length ∧
                (∀ c' a, List.lookup c' st.2.2.2.1 = some a → ∃ d, a = some d ∧ m c' = [d]) ∧ st.2.2.2.2 = false
              | .done _ => False) E s₁) E { s with toks := k' } := by
        intro k' f kn hkn
        refine tr_look (hTk k') (by omega) htok fun k'' => wpAny_pure ?_
        exact next (tx (m c)) _ false kn k'' (tx_list _) (by rw [tx_len]) hkn
      cases fast with
      | false =>
        rw [if_neg Bool.false_ne_true, if_neg Bool.false_ne_true]
        refine wpAny_bind (wpAny_mono (slow k false known h3) (fun x s₁ hx => wpAny_mono hx (fun r s₂ hr => ?_) fun _ _ e => e) fun _ _ e => e)
        cases r with
        | yield st => exact hr
        | done _ => exact hr.elim
      | true =>
        rw [if_pos rfl]
        cases hk : List.lookup c known with
        | some a =>
          obtain ⟨d, rfl, hd⟩ := h3 c a hk
          refine wpAny_bind (wpAny_pure (wpAny_pure ?_))
          exact next ⟨#[d]⟩ _ false known k (by rw [hd]) (by rw [hd]; rfl) h3
        | none =>
          refine wpAny_bind (tr_look (hTk k) (by omega) htok fun k1 => ?_)
          dsimp only
          by_cases h1c : ((tx (m c)).length == 1 && (tx (m c)).cps.all fun x => decide (x < 128)) = true
          · rw [if_pos h1c]
            obtain ⟨d, hd⟩ : ∃ d, m c = [d] := by
              rw [Bool.and_eq_true, beq_iff_eq, tx_len] at h1c
              exact List.length_eq_one_iff.mp h1c.1
            have e0 : (tx (m c)).cps[0]? = some d := by rw [get_tx, hd]; rfl
            rw [e0]
            refine wpAny_bind (wpAny_pure (wpAny_pure ?_))
            refine next ⟨#[d]⟩ _ false ((c, some d) :: known) k1 (by rw [hd]) (by rw [hd]; rfl) ?_
            intro c' a' h'
            rw [List.lookup_cons] at h'
            cases hcc : c' == c with
            | true => rw [hcc] at h'; cases h'; rw [beq_iff_eq.mp hcc]; exact ⟨d, rfl, hd⟩
            | false => rw [hcc] at h'; exact h3 c' a' h'
          · rw [if_neg h1c]
            refine wpAny_bind (wpAny_pure (wpAny_bind (wpAny_rule ?_)))
            rw [if_neg Bool.false_ne_true]
            refine wpAny_bind (wpAny_mono (slow k1 false known h3) (fun x s₁ hx => wpAny_mono hx (fun r s₂ hr => ?_) fun _ _ e => e) fun _ _ e => e)
            cases r with
            | yield st => exact hr
            | done _ => exact hr.elim
    · rintro ⟨pieces, total, fast, known, afterDrop⟩ s' ⟨done, hd, ⟨k, rfl⟩, h1, h2, h3, h4⟩
      dsimp only at h1 h2 ⊢
      rw [List.append_nil] at hd
      subst hd
      rw [if_neg (by rw [tooLong_no (by omega)]; exact Bool.false_ne_true), cat_pieces, h1]
      exact wpAny_bind (wpAny_mkStr (wpAny_pure ⟨_, rfl, h _ _⟩) (by rw [tx_len]; omega))
end
end Mine
end

section
open PySem PySem.W PyProof.Rows PySem.Calls
set_option Elab.async false
set_option maxRecDepth 100000
namespace Mine
open Builtin

/-! the three tables -/
def hexU (d : Nat) : Nat := if d < 10 then 48 + d else 55 + d
def esc (c : Nat) : List Nat := [61, hexU (c / 16), hexU (c % 16)]
/-- what header_encode lets stand -/
def hSafe (c : Nat) : Bool := (48 ≤ c && c ≤ 57) || (65 ≤ c && c ≤ 90) || (97 ≤ c && c ≤ 122) || c == 45 || c == 33 || c == 42 || c == 43 || c == 47
def hmap (c : Nat) : List Nat := if hSafe c then [c] else if c = 32 then [95] else esc c
def bSafe (c : Nat) : Bool := ((32 ≤ c && c ≤ 126) && c != 61) || c == 9 || c == 10 || c == 13
def bmap (c : Nat) : List Nat := if bSafe c then [c] else esc c
noncomputable def seqAt (P : Params) (a : Addr) : Array Value := match (KK P).lookup a with
  | some ⟨_, _, .seq xs _, _⟩ => xs
  | _ => #[]
def isListB : Option Obj → Bool
  | some ⟨.type "list", _, .seq _ _, _⟩ => true
  | _ => false
theorem list_at {w : World} {h : Heap} {a : Addr} (G : Gnd w h) (hb : isListB ((KK w.params).lookup a) = true) : h.IsList a (seqAt w.params a) := by
  unfold isListB at hb
  split at hb
  · rename_i dd xs n sl ho
    refine ⟨_, G.X _ _ ho, rfl, n, ?_⟩
    unfold seqAt; rw [ho]
  · cases hb
noncomputable def tabB (P : Params) (a : Addr) (f : Nat → List Nat) : Bool := (List.range 256).all fun c => match (seqAt P a)[c]? with
  | some (.str y _) => y == tx (f c)
  | _ => false
theorem tab_get {P : Params} {a : Addr} {f : Nat → List Nat} (h : tabB P a f = true) : ∀ c < 256, ∃ tok, (seqAt P a)[c]? = some (.str (tx (f c)) tok) := by
  intro c hc
  have := List.all_eq_true.mp h c (List.mem_range.mpr hc)
  split at this
  · rename_i y t e
    exact ⟨t, by rw [e, eq_of_beq this]⟩
  · cases this
theorem tab39 (P : Params) : tabB P 39 esc = true := by kernel_rfl
theorem tab44 (P : Params) : tabB P 44 hmap = true := by kernel_rfl
theorem tab76 (P : Params) : tabB P 76 bmap = true := by kernel_rfl

/-! latin-1 -/
section
variable {w : World} {A : Around} {E : Value → Shared → Prop} {s : Shared} {Q : Value → Shared → Prop}
theorem latin_run {id : String} {b : List UInt8} {Q : Array Nat × Nat → Shared → Prop} (hb : b.length ≤ 1000000) (h : ∀ n, Q ((b.map (·.toNat)).toArray, n) s) :
    wpAny (model PG w) A (_codecs.runDecoder id _codecs.latin1Decoder none true b.toArray 0 []) Q E s := by
  have hsl : sizeLine = 16777216 := by decide
  unfold _codecs.runDecoder
  dsimp only
  refine wpAny_bind ?_
  rw [KPc.range_list]
  refine wpAny_forIn_list _ (fun rest (st : Nat × Array Nat × _codecs.Faults) s' => s' = s ∧ ∃ k, rest.length + k = b.length ∧ st.1 = k ∧ st.2.1 = ((b.take k).map (·.toNat)).toArray) _ ?_ ?_ _ _ ⟨rfl, 0, by simp, rfl, by simp⟩
  · intro x rest st s' hh
    obtain ⟨hs, k, h1, h2, h3⟩ := hh
    obtain ⟨p, out, ft⟩ := st
    have h2' : p = k := h2
    have h3' : out = ((b.take k).map (·.toNat)).toArray := h3
    clear h2 h3
    simp only [List.length_cons] at h1
    have hk : k < b.length := by omega
    rw [hs, h2', h3']
    refine wpAny_ite (KPc.ite_no (by simp; omega) (wpAny_ite (KPc.ite_no (by simp; omega) ?_)))
    refine wpAny_pure ⟨rfl, k + 1, by omega, rfl, ?_⟩
    show ((b.take k).map (·.toNat)).toArray ++ [(b.toArray.getD k 0).toNat].toArray = _
    rw [List.take_add_one, List.getElem?_eq_getElem hk]
    simp only [Array.getD_eq_getD_getElem?, List.getElem?_toArray, List.getElem?_eq_getElem hk, Option.getD_some, List.append_toArray, List.map_append, Option.toList_some, List.map_cons, List.map_nil]
  · intro st s' hh
    obtain ⟨hs, k, h1, h2, h3⟩ := hh
    obtain ⟨p, out, ft⟩ := st
    have h2' : p = k := h2
    have h3' : out = ((b.take k).map (·.toNat)).toArray := h3
    clear h2 h3
    simp only [List.length_nil, Nat.zero_add] at h1
    rw [hs, h3', h1, List.take_length]
    exact wpAny_pure (h _)
theorem road_latin {id : String} {b : Array UInt8} : _codecs.decodeRoad id b (PySem.Str.ofString "latin1") none [] = (_codecs.runDecoder id _codecs.latin1Decoder none true b 0 [] >>= fun r => mkStr ⟨r.1⟩) := by kernel_rfl
theorem entry_latin (c : UInt8) (cs : List UInt8) (t u : Tok) : «bytes.decode» ⟨[.bytes (c :: cs).toArray t, .str (PySem.Str.ofString "latin1") u], []⟩ = (mkStr (PySem.Str.ofString "utf-8") >>= fun _ => mkStr (PySem.Str.ofString "latin1") >>= fun e => mkStr (PySem.Str.ofString "bytes.decode") >>= fun d =>
    call (.builtin "_codecs.decode.text") [.bytes (c :: cs).toArray t, e, .none, d] >>= fun v => ret v) := by kernel_rfl
theorem args_decode2 (a b : Value) : argsOk "bytes.decode" ⟨[a, b], []⟩ := by unfold argsOk; kernel_rfl
theorem call_latin {b : List UInt8} {t u : Tok} (hne : b ≠ []) (hb : b.length ≤ 1000000) (h : ∀ t' k, Q (.str (tx (b.map (·.toNat))) t') { s with toks := k }) :
    wpAny (model PG w) A (call (.builtin "bytes.decode") [.bytes b.toArray t, .str (PySem.Str.ofString "latin1") u]) Q E s := by
  cases b with
  | nil => exact absurd rfl hne
  | cons c cs =>
    refine wpAny_call_entry FB.slot_bytes_decode (typeIs_bytes _ _ _) FB.entry_bytes_decode ?_ (args_decode2 _ _)
    rw [entry_latin]
    refine wpAny_bind (wpAny_mkStr ?_ (by decide))
    refine wpAny_bind (wpAny_mkStr ?_ (by decide))
    refine wpAny_bind (wpAny_mkStr ?_ (by decide))
    refine wpAny_bind (Calls.call_function_entry KBd.kind_text KBd.plain_text KBd.entry_text (KBd.args_text _ _ _ _) ?_)
    show wpAny _ _ (Bytes.bytesLike _ (.bytes (c :: cs).toArray t) >>= fun r => _) _ _ _
    refine wpAny_bind (wpAny_of_eq KBd.like_eq ?_)
    refine wpAny_bind (wpAny_of_eq KBd.held_eq ?_)
    show wpAny _ _ (_codecs.decodeRoad _ (c :: cs).toArray (PySem.Str.ofString "latin1") none [] >>= fun v => _) _ _ _
    rw [road_latin]
    refine wpAny_bind (wpAny_bind (latin_run hb fun n => ?_))
    refine wpAny_mkStr (wpAny_pure ⟨_, rfl, wpAny_pure ⟨_, rfl, h _ _⟩⟩) ?_
    show (tx ((c :: cs).map (·.toNat))).length ≤ sizeLine
    rw [tx_len, List.length_map, show sizeLine = 16777216 by decide]; omega

theorem fn_quote {c : Nat} {t : Tok} {R : Result → Shared → Prop} (hc : c < 256) (hA : AOk A 3) (G : Gnd w s.heap) (hR : Gives1 s R (IsTx (esc c))) :
    codeAny (model PG w) A (.call (.ref 66) ⟨[.str (tx [c]) t], []⟩) R s := by
  refine enter (fd := fd66) (binds := [("c", .str (tx [c]) t)]) (k := 2) hA G (by kernel_rfl) (by kernel_rfl) rfl (binds_peek G.X fun _ => by kernel_rfl) (by kernel_rfl) (by kernel_rfl) (by simp) fun L s1 hL S1 hA1 => ?_
  refine wpAny_execs_cons (wpAny_Return_some (Subscript_ (ev_glob (G.st S1) (gl_QUOPRI_MAP _) ?_)))
  refine Call_ (ev_built (G.st S1) (gn_ord _) boot_ord (PyProof.Rows.callWith_builtin1 (spliced_more (ev_loc S1 rfl (spliced_none (P.ord_of_char ?_))))))
  have S2 := S1.toks (Nat.le_succ _)
  obtain ⟨tok, htok⟩ := tab_get (tab39 w.params) c hc
  have hli := list_at (G.st S2) (a := 39) (by kernel_rfl)
  refine tail_any hli.typeIs slot_list_getitem.lookup (wpAny_getItem_list hli (by omega) (by omega) (by simpa using htok) ?_) (by with_unfolding_all rfl)
  exact hR _ _ ⟨_, rfl⟩ S2.done S2.le

theorem gm_translate {x : Str} {t : Tok} {pl : Sem Bool} {Q : Value × List Value → Shared → Prop} (h : Q (.builtin "str.translate", [.str x t]) s) : wpAny (model PG w) A (getMethod (.str x t) "translate" pl) Q E s := by
  with_reducible exact GM.of (.str x t) (typeIs_str _ _ _) F.slot_str_translate F.type_str_translate GM.noRef h
def tupObj (vs : List Value) : Obj := { cls := .type "tuple", data := .seq vs.toArray }
theorem new_tuple {s₀ : Shared} {L : Addr} {bs : Binds} {N : List (Addr × Obj)} {vs : List Value} (S : St s₀ L bs N s) (hsz : vs.length ≤ sizeLine) (h : ∀ D s', St s₀ L bs ((D, tupObj vs) :: N) s' → Q (.ref D) s') : wpAny (model PG w) A (newTuple vs) Q E s :=
  wpAny_newObj_type (h _ _ (S.alloc _ rfl)) (by show vs.toArray.size ≤ sizeLine; rw [List.size_toArray]; exact hsz)
theorem new_list {s₀ : Shared} {L : Addr} {bs : Binds} {N : List (Addr × Obj)} {vs : List Value} (S : St s₀ L bs N s) (hsz : vs.length ≤ sizeLine) (h : ∀ D s', St s₀ L bs ((D, listObj vs) :: N) s' → Q (.ref D) s') : wpAny (model PG w) A (newList vs) Q E s :=
  wpAny_newObj_type (h _ _ (S.alloc _ rfl)) (by show vs.toArray.size ≤ sizeLine; rw [List.size_toArray]; exact hsz)
def hword (l : List Nat) : List Nat := if l = [] then [] else [61, 63, 120, 63, 113, 63] ++ l.flatMap hmap ++ [63, 61]
theorem hmap_len (c : Nat) : (hmap c).length ≤ 3 := by unfold hmap; split; simp; split <;> simp [esc]
theorem flat_len (f : Nat → List Nat) (hf : ∀ c, (f c).length ≤ 3) (l : List Nat) : (l.flatMap f).length ≤ 3 * l.length := by
  induction l with
  | nil => simp
  | cons c r ih => rw [List.flatMap_cons, List.length_append, List.length_cons]; have := hf c; omega
theorem ev_fmt {s₀ : Shared} {L : Addr} {bs : Binds} {N : List (Addr × Obj)} {env : Env} {x : Str} {y : Str} {t : Tok} {p q : Pos} (S : St s₀ L bs N s) (hv : bs.lookup x = some (.str y t)) (hsz : y.length ≤ sizeLine)
    (h : ∀ t' s', St s₀ L bs N s' → Q (.str y t') s')
    (hk : env.scope.kind = .function := by rfl) (hl : env.kindOf x = some .local := by rfl) (hL : env.locals = L := by rfl) (hd : (x == ("__debug__" : Str)) = false := by decide) : wpAny (model PG w) A (eval (.FormattedValue (.Name x p) 115 none q) env) Q E s :=
  mono_toks (wpAny_FormattedValue_s (ev_loc S hv (habitSame_str (fun t8 k8 => formatField_str (fun t9 k9 hk => h _ _ (S.toks hk)) hsz) hsz) hk hl hL hd))
set_option maxHeartbeats 4000000 in
theorem fn_header_encode {l : List Nat} {t u : Tok} {R : Result → Shared → Prop} (hl : ∀ c ∈ l, c < 256) (hlen : l.length ≤ 100000) (hA : AOk A 4) (G : Gnd w s.heap) (hR : Gives1 s R (IsTx (hword l))) :
    codeAny (model PG w) A (.call (.ref 74) ⟨[.bytes (l.map fun c => c.toUInt8).toArray t, .str (tx [120]) u], []⟩) R s := by
  refine enter (fd := fd74) (binds := [("header_bytes", .bytes (l.map fun c => c.toUInt8).toArray t), ("charset", .str (tx [120]) u)]) (k := 3) hA G (by kernel_rfl) (by kernel_rfl) rfl (binds_peek G.X fun _ => by kernel_rfl) (by kernel_rfl) (by kernel_rfl) (by simp) fun L s1 hL S1 hA1 => ?_
  refine wpAny_execs_cons (wpAny_If (isTrue_not (isTrue_plain (ev_loc S1 rfl (truthy_bytes (by simp; omega) ?_)))))
  have S2 := (S1.toks (Nat.le_succ _)).toks (Nat.le_succ _)
  have e : (!(((l.map fun c => c.toUInt8).toArray.size : Int) != 0)) = l.isEmpty := by cases l <;> simp; omega
  rw [e]
  by_cases hle : l = []
  · subst hle
    refine wpAny_execs_cons (wpAny_Return_some (ev_str S2 fun t3 s3 S3 _ _ => ?_))
    exact hR _ _ ⟨_, rfl⟩ S3.done S3.le
  · have e : l.isEmpty = false := by simpa using hle
    rw [e]
    refine wpAny_execs_nil ?_
    refine wpAny_execs_cons (wpAny_Assign_Name ?_)
    refine MethodCall_ (MethodCall_ (ev_loc S2 rfl (KBd.method (callWith_method1 (spliced_more (ev_str S2 fun t3 s3 S3 _ _ => spliced_none ?_))))))
    refine mono_toks (call_latin (by simpa using hle) (by simp; omega) fun t4 k4 hk4 => ?_)
    have S4 := S3.toks hk4
    have em : (l.map fun c => c.toUInt8).map (·.toNat) = l := by
      rw [List.map_map]
      conv => rhs; rw [← List.map_id l]
      apply List.map_congr_left
      intro c hc
      have := hl c hc
      simp [Nat.mod_eq_of_lt this]
    rw [em]
    refine gm_translate (callWith_method1 (spliced_more (ev_glob (G.st S4) (gl_QUOPRI_HEADER_MAP _) (spliced_none ?_))))
    have hfl := flat_len hmap hmap_len l
    refine mono_toks (call_translate (list_at (G.st S4) (a := 44) (by kernel_rfl)) (tab_get (tab44 w.params)) hl (by omega) fun t5 k5 hk5 => ?_)
    refine st_name (S4.toks hk5) fun s6 S6 => ?_
    refine wpAny_execs_cons (wpAny_Return_some (JoinedStr_many (joinParts_cons (ev_str S6 fun t7 s7 S7 _ _ => ⟨?_, ?_⟩))))
    · decide
    refine joinParts_cons (ev_fmt S7 rfl (by decide) fun t8 s8 S8 => ⟨?_, ?_⟩)
    · decide
    refine joinParts_cons (ev_str S8 fun t9 s9 S9 _ _ => ⟨?_, ?_⟩)
    · decide
    have hszz : sizeLine = 16777216 := by decide
    refine joinParts_cons (ev_fmt S9 rfl (by rw [tx_len]; omega) fun ta sa Sa => ⟨?_, ?_⟩)
    · rw [strLen_append, tx_len]
      have : (((Str.empty ++ Str.ofString "=?") ++ tx [120]) ++ Str.ofString "?q?").length = 6 := by decide
      omega
    refine joinParts_cons (ev_str Sa fun tb sb Sb _ _ => ?_)
    have ew : (((((Str.empty ++ Str.ofString "=?") ++ tx [120]) ++ Str.ofString "?q?") ++ tx (l.flatMap hmap)) ++ Str.ofString "?=") = tx (hword l) := by
      rw [show (((Str.empty ++ Str.ofString "=?") ++ tx [120]) ++ Str.ofString "?q?") = tx [61, 63, 120, 63, 113, 63] by decide, show Str.ofString "?=" = tx [63, 61] by decide, tx_app, tx_app]
      unfold hword
      rw [if_neg hle]
    dsimp only; rw [ew]
    have hz : (tx (hword l)).length ≤ sizeLine := by
      rw [tx_len]; unfold hword; rw [if_neg hle]; simp only [List.length_append, List.length_cons, List.length_nil]; omega
    refine ⟨hz, joinParts_nil ?_ hz⟩
    have Sc := Sb.toks (Nat.le_succ _)
    exact hR _ _ ⟨_, rfl⟩ Sc.done Sc.le
end
end Mine
end

section
open PySem PySem.W PyProof.Rows PySem.Calls
set_option Elab.async false
set_option maxRecDepth 100000
namespace Mine
open Builtin Builtin.Str
theorem slot_mget : Slot "method_descriptor" "__get__" "method_descriptor.__get__" :=
  .of (owner := "method_descriptor") (n := "__get__") (by rw [typeLookup_type, builtinLookup_eq_fast]; kernel_rfl) (by decide +kernel) (by decide +kernel) (by decide +kernel)
    (by first | exact .inl (by decide +kernel) | exact .inr (by decide +kernel)) (by rw [isSubtype_type]; kernel_rfl)
theorem entry_mget : entryFor table "method_descriptor.__get__" = some Builtin.«method_descriptor.__get__» := entryFor_of_tree (by kernel_rfl)
theorem args_mget (a b c : Value) : argsOk "method_descriptor.__get__" ⟨[a, b, c], []⟩ := by unfold argsOk; kernel_rfl
theorem type_la : typeOf (.builtin "list.append") = pure (.type "method_descriptor") := by show builtinType _ = _; rw [builtinType_eq_fast]; kernel_rfl
theorem told_la : Manifest.toldItsClass.contains "list.append" = false := by decide +kernel
def boundObj (D : Addr) : Obj := { cls := .type "builtin_function_or_method", data := .fields #[.builtin "list.append", .ref D] }
section
variable {w : World} {A : Around} {E : Value → Shared → Prop} {s : Shared}
theorem run_mget {D : Addr} {P : Fin → Shared → Prop} (hT : s.TypeIs (.ref D) "list") (h : P (.done (.ret (.ref s.heap.objs.size))) { s with heap := s.heap.push (boundObj D) }) :
    wpAny (model PG w) A (Builtin.«method_descriptor.__get__» ⟨[.builtin "list.append", .ref D, .type "list"], []⟩) P E s := by
  unfold Builtin.«method_descriptor.__get__»
  refine wpAny_bind (wpAny_of_eq (a := (.builtin "list.append", some (.ref D), some (.type "list"))) (by first | rfl | kernel_rfl) ?_)
  dsimp only
  simp only [told_la, Bool.false_eq_true, if_false]
  show wpAny _ _ (_ >>= fun _ => newFields "builtin_function_or_method" [.builtin "list.append", .ref D] >>= fun v => ret v) _ _ _
  refine wpAny_bind ?_
  show wpAny _ _ (_ >>= fun (_ : Str × Value) => _) _ _ _
  refine wpAny_bind (wpAny_of_eq (a := (Str.ofString "append", .type "list")) (by kernel_rfl) ?_)
  dsimp only
  refine wpAny_bind (wpAny_isInstance (b := true) hT (by rw [isSubtype_type]; kernel_rfl) ?_)
  refine KFB.if_not rfl ?_
  refine wpAny_pure ?_
  exact wpAny_bind (wpAny_newObj_type (wpAny_pure h))
theorem run_gattr {D : Addr} {vs : List Value} {k : Nat} {u : Tok} {P : Fin → Shared → Prop} (ho : s.heap.get? D = some { cls := .type "list", data := .seq vs.toArray k }) (h : P (.done (.ret (.ref s.heap.objs.size))) { s with heap := s.heap.push (boundObj D) }) :
    wpAny (model PG w) A (Builtin.«object.__getattribute__» ⟨[.ref D, .str (Str.ofString "append") u], []⟩) P E s := by
  obtain ⟨hp, g, d, tk, os⟩ := s
  have hT : (⟨hp, g, d, tk, os⟩ : Shared).TypeIs (.ref D) "list" := ⟨_, ho, rfl⟩
  have f1 : typeLookup (.type "list") (Str.ofString "append") = pure (some (.builtin "list.append")) := slot_list_append.lookup
  have f2 := type_la
  have f3 := slot_mget.lookup
  have f4 : typeLookup (.type "method_descriptor") (Str.ofString "__set__") = pure none := by rw [typeLookup_type, builtinLookup_eq_fast]; kernel_rfl
  have f5 : typeLookup (.type "method_descriptor") (Str.ofString "__delete__") = pure none := by rw [typeLookup_type, builtinLookup_eq_fast]; kernel_rfl
  unfold Builtin.«object.__getattribute__»
  repeat (any_goals (first | assumption | wp_step))
  refine codeAny_call_builtin slot_mget.plain entry_mget (slot_mget.check _ _ _ _ _ _ _ _ type_la (args_mget _ _ _) (run_mget hT ?_))
  exact wpAny_pure h
theorem getAttr_append {D : Addr} {vs : List Value} {k : Nat} {Q : Value → Shared → Prop} (ho : s.heap.get? D = some { cls := .type "list", data := .seq vs.toArray k }) (h : Q (.ref s.heap.objs.size) { s with heap := s.heap.push (boundObj D), toks := s.toks + 1 }) :
    wpAny (model PG w) A (getAttr (.ref D) (Str.ofString "append") true) Q E s := by
  obtain ⟨hp, g, d, tk, os⟩ := s
  have hT : ∀ tk', (⟨hp, g, d, tk', os⟩ : Shared).TypeIs (.ref D) "list" := fun _ => ⟨_, ho, rfl⟩
  have f3 := F.slot_list_getattribute.lookup
  have f4 := F.slot_list_getattribute.bind (.ref D)
  have f5 := am_list_getattr_none
  unfold getAttr getAttrBy
  repeat (any_goals (first | assumption | exact hT _ | wp_step))
  refine codeAny_call_builtin F.slot_list_getattribute.plain am_entry_list_getattribute (F.slot_list_getattribute.check _ _ _ _ _ _ _ _ (hT _) (F.args_list_getattribute_2 _ _) (run_gattr ho ?_))
  show wpAny _ _ (handedOut _) _ _ _
  exact wpAny_pure h
def sigA : Manifest.Signature := (Manifest.signature? "list.append").getD ⟨.noArgs, "", "", .self, []⟩
theorem sig_la : Manifest.signature? "list.append" = some sigA := by kernel_rfl
theorem kind_la : builtinKind "list.append" = some .method := by kernel_rfl
theorem var_la : Manifest.varargsMethods.contains "list.append" = false := by decide +kernel
theorem chk_la {D : Addr} {x : Value} : Bind.checkArgs "list.append" { sigA with full := s!"{Bind.lastOf "list"}.{Bind.lastOf "list.append"}" } ⟨[.ref D, x], []⟩ = pure () := by kernel_rfl
theorem check_la {D : Addr} {x : Value} {vs : Array Value} {k : Nat} {Q : Unit → Shared → Prop} (ho : s.heap.get? D = some { cls := .type "list", data := .seq vs k }) (h : Q () s) : wpAny (model PG w) A (checkBoundCall "list.append" ⟨[.ref D, x], []⟩) Q E s := by
  have hT : s.TypeIs (.ref D) "list" := ⟨_, ho, rfl⟩
  unfold checkBoundCall
  simp only [sig_la, kind_la]
  refine KFB.if_not (by decide) ?_
  refine wpAny_bind (wpAny_isInstance (b := false) hT (by rw [isSubtype_type]; kernel_rfl) ?_)
  refine KFB.if_not (by rw [var_la]; rfl) ?_
  refine wpAny_bind (m := isType (.ref D)) (ks_wpAny_isType_inst ho (fun c e => nomatch e) ?_)
  refine KFB.if_not rfl ?_
  refine wpAny_bind (wpAny_typeOf hT ?_)
  exact wpAny_of_eq chk_la h
theorem quiet_la {as : Args} : (Code.builtin "list.append" as).quiet = true := Code.quiet_builtin _ (by decide +kernel)
theorem entry_la : entryFor table "list.append" = some Builtin.«list.append» := entry_list_append
theorem call_bound {B D : Addr} {its : Array Value} {n : Nat} {x : Value} {Q : Value → Shared → Prop} (hB : s.heap.get? B = some (boundObj D)) (ho : s.heap.get? D = some { cls := .type "list", data := .seq its n }) (hsz : its.size ≤ sizeLine)
    (h : ∀ h', Heap.SameBut D s.heap h' → h'.get? D = some { cls := .type "list", data := .seq (its.push x) (n + 1) } → Q .none { s with heap := h' }) :
    wpAny (model PG w) A (call (.ref B) [x]) Q E s := by
  refine wpAny_call (codeAny_of_tree ?_)
  show wpAny _ A.in1 (callAny (.ref B) ⟨[x], []⟩) _ _ s
  simp only [callAny]
  refine wpAny_bind (wpAny_load hB ?_)
  simp only [boundObj, show (Value.type "builtin_function_or_method" == Value.type "method" || Value.type "builtin_function_or_method" == Value.type "builtin_function_or_method" || Value.type "builtin_function_or_method" == Value.type "method-wrapper") = true by decide, if_true]
  refine KFB.if_so (by decide) ?_
  refine wpAny_bind (check_la ho ?_)
  refine wpAny_bind (wpAny_pure (wpAny_pure ?_))
  refine ⟨quiet_la, codeAny_builtin entry_la ?_⟩
  show wpAny _ _ (updateSeq D (·.push x) >>= fun _ => ret .none) _ _ s
  refine wpAny_bind ?_
  refine wpAny_updateSeq ho rfl (wpAny_pure ?_)
  refine h _ (Heap.SameBut.update ..) ?_
  rw [Heap.get?_update_self _ ho (by rw [mapSeq_push]; rfl), mapSeq_push]
theorem callWith_fields {pos : Pos} {u D : Addr} {args : List (Bool × Sem Value)} {Q : Value → Shared → Prop} (hplain : args.any (·.1) = false)
    (h : wpAny (model PG w) A (evalArgs (.ref u) true args []) (fun x s₁ => s₁.heap.get? u = some (boundObj D) ∧ wpAny (model PG w) A (call (.ref u) x.pos x.kw) Q E s₁) E s) : wpAny (model PG w) A (callWith pos (.ref u) [] args []) Q E s := by
  unfold callWith
  refine wpAny_bind (wpAny_holding (wpAny_mono h (fun x s₁ h₁ => wpAny_bind (wpAny_standAt ?_)) fun _ _ x => x))
  obtain ⟨ho, hcall⟩ := h₁
  simp only [hplain, List.any_nil, Bool.or_false]
  refine wpAny_bind (m := keeperOf (.ref u)) ?_
  unfold keeperOf
  refine wpAny_bind (wpAny_load ho ?_)
  simp only [boundObj, show (Value.type "builtin_function_or_method" != Value.type "method") = true by decide, show (Value.type "builtin_function_or_method" == Value.type "builtin_function_or_method" || Value.type "builtin_function_or_method" == Value.type "method-wrapper") = true by decide, if_true]
  refine wpAny_pure ?_
  exact wpAny_bind (wpAny_mono hcall (fun r s₂ hr => wpAny_bind (wpAny_holding (wpAny_point (wpAny_pure hr)))) fun _ _ x => x)
theorem callWith_bound {pos : Pos} {u D : Addr} {env : Env} {e : Expr} {rest : List Expr} {Q : Value → Shared → Prop}
    (h : wpAny (model PG w) A (spliced (backTo pos (starEach (e :: rest) env))) (fun vs s₁ => s₁.heap.get? u = some (boundObj D) ∧ wpAny (model PG w) A (call (.ref u) vs) Q E s₁) E s)
    (he : starEach (e :: rest) env = (false, eval e env) :: starEach rest env := by rfl) (hplain : (backTo pos (starEach rest env)).any (·.1) = false := by rfl) :
    wpAny (model PG w) A (callWith pos (.ref u) [] (backTo pos (starEach (e :: rest) env)) []) Q E s := by
  rw [he] at h ⊢
  refine callWith_fields (D := D) (by show (false || (backTo pos (starEach rest env)).any (·.1)) = false; rw [hplain]; rfl) ?_
  exact evalArgs_plain h
def listN (vs : List Value) (n : Nat) : Obj := { cls := .type "list", data := .seq vs.toArray n }
theorem ap_st {s₀ : Shared} {L : Addr} {bs : Binds} {N₁ N₂ : List (Addr × Obj)} {B D : Addr} {vs : List Value} {n : Nat} {x : Value} {Q : Value → Shared → Prop} (S : St s₀ L bs (N₁ ++ (D, listN vs n) :: N₂) s) (hB : s.heap.get? B = some (boundObj D)) (hsz : vs.length ≤ sizeLine)
    (h : ∀ s', St s₀ L bs (N₁ ++ (D, listN (vs ++ [x]) (n + 1)) :: N₂) s' → Q .none s') : wpAny (model PG w) A (call (.ref B) [x]) Q E s := by
  refine call_bound hB (S.get (List.mem_append.mpr (.inr (.head _)))) (by rw [List.size_toArray]; exact hsz) fun h' hs hg => h _ (S.upd ?_ hs)
  rw [hg]; simp [listN]
theorem call_join {s₀ : Shared} {L : Addr} {bs : Binds} {N : List (Addr × Obj)} {D : Addr} {vs : List Value} {ps : List (List Nat)} {sep : List Nat} {t : Tok} {Q : Value → Shared → Prop} (S : St s₀ L bs N s) (hl : s.heap.IsList D vs.toArray) (hv : txs ps vs) (hsz : ps.flatten.length + ps.length * sep.length ≤ 16777216)
    (h : ∀ t' s', St s₀ L bs N s' → Q (.str (tx (jn sep ps)) t') s') : wpAny (model PG w) A (call (.builtin "str.join") [.str (tx sep) t, .ref D]) Q E s := by
  obtain ⟨pcs, rfl, e⟩ := hv
  have hs : ∀ qs : List (List Nat), ((qs.map tx).map (·.length)).sum = qs.flatten.length := by
    intro qs
    induction qs with
    | nil => rfl
    | cons q r ih => simp only [List.map_cons, List.sum_cons, List.flatten_cons, List.length_append, tx_len, ih]
  refine mono_toks (SC.join hl e ?_ fun t' k hk => ?_)
  · unfold JoinOk
    rw [StrLaws.joinTotal, hs, List.length_map, tx_len]
    unfold tooLong
    rw [show sizeLine = 16777216 by decide]
    simpa using hsz
  · show Q (.str (glued (tx sep) (ps.map tx)) t') _
    rw [glued_tx]
    exact h _ _ (S.toks hk)
end
end Mine
end

section
open PySem PySem.W PyProof.Rows PySem.Calls
set_option Elab.async false
set_option maxRecDepth 100000
namespace Mine
def wcut (M : Nat) (l : List Nat) : Nat := if l[M - 3]? = some 61 then M - 3 else if l[M - 2]? = some 61 then M - 2 else M - 1
def wq (M n c : Nat) : List Nat := if n + 2 ≤ M then esc c else if n + 1 = M then [c] ++ [61, 10] else [61, 10] ++ esc c
def blankE (l : List Nat) : Bool := match l.getLast? with | some c => decide (c ∈ [32, 9]) | none => false
def wfin (M : Nat) (l : List Nat) : List Nat := if blankE l then l.dropLast ++ wq M l.length (l.getLastD 0) else l
def wps (M : Nat) (l : List Nat) : List (List Nat) :=
  if h : M + 1 ≤ l.length then (l.take (wcut M l) ++ [61]) :: wps M (l.drop (max 1 (wcut M l))) else [wfin M l]
termination_by l.length
decreasing_by rw [List.length_drop]; omega
theorem wcut_lo {M : Nat} (hM : 4 ≤ M) (l : List Nat) : M - 3 ≤ wcut M l ∧ wcut M l ≤ M - 1 := by unfold wcut; split <;> (try split) <;> omega
theorem wps_go {M : Nat} {l : List Nat} (hM : 4 ≤ M) (h : M + 1 ≤ l.length) : wps M l = (l.take (wcut M l) ++ [61]) :: wps M (l.drop (wcut M l)) := by
  rw [wps, dif_pos h]
  have := wcut_lo hM l
  rw [show max 1 (wcut M l) = wcut M l by omega]
theorem wps_end {M : Nat} {l : List Nat} (h : l.length ≤ M) : wps M l = [wfin M l] := by
  rw [wps, dif_neg (by omega)]
theorem wq_len (M n c : Nat) : (wq M n c).length ≤ 5 := by unfold wq; split; simp [esc]; split <;> simp [esc]
theorem wfin_len (M : Nat) (l : List Nat) : (wfin M l).length ≤ l.length + 4 := by
  unfold wfin
  split
  · rename_i h
    have hp : 0 < l.length := by
      cases l with
      | nil => cases h
      | cons a r => exact Nat.succ_pos _
    have := wq_len M l.length (l.getLastD 0)
    rw [List.length_append, List.length_dropLast]; omega
  · omega
theorem wps_ind {M : Nat} (hM : 4 ≤ M) {P : List Nat → Prop} (hgo : ∀ l, M + 1 ≤ l.length → P (l.drop (wcut M l)) → P l) (hend : ∀ l, l.length ≤ M → P l) (l : List Nat) : P l := by
  have h : ∀ n l, List.length l ≤ n → P l := by
    intro n
    induction n with
    | zero => intro l hl; exact hend l (by omega)
    | succ n ih =>
      intro l hl
      by_cases h : M + 1 ≤ l.length
      · refine hgo l h (ih _ ?_)
        have := wcut_lo hM l
        rw [List.length_drop]; omega
      · exact hend l (by omega)
  exact h _ l (Nat.le_refl _)
theorem wps_len {M : Nat} (hM : 4 ≤ M) (l : List Nat) : (wps M l).length ≤ l.length + 1 := by
  refine wps_ind hM (P := fun l => (wps M l).length ≤ l.length + 1) (fun l h ih => ?_) (fun l h => ?_) l
  · have := wcut_lo hM l
    rw [wps_go hM h, List.length_cons]; rw [List.length_drop] at ih; omega
  · rw [wps_end h]; simp
theorem wps_flat {M : Nat} (hM : 4 ≤ M) (l : List Nat) : (wps M l).flatten.length ≤ 2 * l.length + 4 := by
  refine wps_ind hM (P := fun l => (wps M l).flatten.length ≤ 2 * l.length + 4) (fun l h ih => ?_) (fun l h => ?_) l
  · have := wcut_lo hM l
    rw [wps_go hM h, List.flatten_cons, List.length_append, List.length_append, List.length_take]; rw [List.length_drop] at ih
    simp only [List.length_cons, List.length_nil]; omega
  · rw [wps_end h]; have := wfin_len M l; simp; omega
theorem wps_ne (M : Nat) (l : List Nat) : wps M l ≠ [] := by
  rw [wps]; split <;> simp
theorem lns_flat (l : List Nat) : (lns l).flatten.length ≤ l.length := by
  have h : ∀ n l, List.length l ≤ n → (lns l).flatten.length ≤ l.length := by
    intro n
    induction n with
    | zero => intro l hl; obtain rfl : l = [] := List.length_eq_zero_iff.mp (by omega); rw [lns_nil]; exact Nat.le_refl _
    | succ n ih =>
      intro l hl
      cases l with
      | nil => rw [lns_nil]; exact Nat.le_refl _
      | cons c r =>
        simp only [List.length_cons] at hl
        cases hc : isLB c with
        | true =>
          rw [lns_brk hc]
          have : ∀ r', r'.length ≤ r.length → (lns r').flatten.length ≤ r.length := fun r' h' => Nat.le_trans (ih r' (by omega)) h'
          simp only [List.length_cons, List.flatten_cons, List.nil_append]
          split
          · exact Nat.le_succ_of_le (this _ (by simp))
          · exact Nat.le_succ_of_le (this _ (Nat.le_refl _))
        | false =>
          rw [lns_go hc]
          have := ih r (by omega)
          cases e : lns r with
          | nil => simp [consHead]
          | cons p ps => rw [e] at this; simp only [consHead, List.flatten_cons, List.length_append, List.length_cons] at this ⊢; omega
  exact h _ l (Nat.le_refl _)
theorem fm_len {M : Nat} (hM : 4 ≤ M) : ∀ ls : List (List Nat), (ls.flatMap (wps M)).length ≤ ls.flatten.length + ls.length
  | [] => by simp
  | l :: r => by
    have := fm_len hM r; have := wps_len hM l
    simp only [List.flatMap_cons, List.length_append, List.flatten_cons, List.length_cons]; omega
theorem fm_flat {M : Nat} (hM : 4 ≤ M) : ∀ ls : List (List Nat), (ls.flatMap (wps M)).flatten.length ≤ 2 * ls.flatten.length + 4 * ls.length
  | [] => by simp
  | l :: r => by
    have := fm_flat hM r; have := wps_flat hM l
    simp only [List.flatMap_cons, List.flatten_append, List.length_append, List.flatten_cons, List.length_cons]; omega
/-- the pieces that body_encode joins -/
def bpcs (M : Nat) (B : List Nat) : List (List Nat) := (lns B).flatMap (wps M) ++ if B.getLast? = some 13 ∨ B.getLast? = some 10 then [[]] else []
def benc (M : Nat) (l : List Nat) : List Nat := if l = [] then [] else jn [10] (bpcs M (l.flatMap bmap))
theorem bpcs_len {M : Nat} (hM : 4 ≤ M) (B : List Nat) : (bpcs M B).length ≤ 2 * B.length + 1 := by
  have := fm_len hM (lns B); have := lns_flat B; have := lns_len B
  unfold bpcs; rw [List.length_append]; split
  · simp only [List.length_cons, List.length_nil]; omega
  · simp only [List.length_nil]; omega
theorem bpcs_flat {M : Nat} (hM : 4 ≤ M) (B : List Nat) : (bpcs M B).flatten.length ≤ 6 * B.length := by
  have := fm_flat hM (lns B); have := lns_flat B; have := lns_len B
  unfold bpcs; rw [List.flatten_append, List.length_append]; split
  · simp only [List.flatten_cons, List.flatten_nil, List.append_nil, List.length_nil]; omega
  · simp only [List.flatten_nil, List.length_nil]; omega
theorem jn_len (sep : List Nat) : ∀ ps : List (List Nat), (jn sep ps).length ≤ ps.flatten.length + ps.length * sep.length
  | [] => by simp [jn]
  | p :: r => by
    by_cases hr : r = []
    · subst hr; simp [jn]
    · have := jn_len sep r
      rw [jn_cons sep p r hr]
      simp only [List.length_append, List.flatten_cons, List.length_cons, Nat.succ_mul]; omega
theorem bmap_len (c : Nat) : (bmap c).length ≤ 3 := by unfold bmap; split <;> simp [esc]
theorem benc_len {M : Nat} (hM : 4 ≤ M) (l : List Nat) : (benc M l).length ≤ 24 * l.length + 1 := by
  unfold benc
  split
  · simp
  · have h1 := flat_len bmap bmap_len l
    have h2 := jn_len [10] (bpcs M (l.flatMap bmap))
    have h3 := bpcs_len hM (l.flatMap bmap)
    have h4 := bpcs_flat hM (l.flatMap bmap)
    simp only [List.length_cons, List.length_nil] at h2
    omega
theorem sl_in {l : List Nat} {a b : Nat} (hab : a ≤ b) (hb : b ≤ l.length) : sl l (some (a : Int)) (some (b : Int)) = (l.drop a).take (b - a) := by
  unfold sl
  have c1 : clip l.length 0 (some (a : Int)) = a := by simp only [clip]; omega
  have c2 : clip l.length l.length (some (b : Int)) = b := by simp only [clip]; omega
  rw [c1, c2]
theorem sl_from {l : List Nat} {a : Nat} (h : a ≤ l.length) : sl l (some (a : Int)) none = l.drop a := by
  unfold sl
  have c1 : clip l.length 0 (some (a : Int)) = a := by simp only [clip]; omega
  rw [c1]
  simp only [clip]
  rw [← List.length_drop, List.take_length]
theorem sl_butlast {l : List Nat} {a : Nat} (h : a < l.length) : sl l (some (a : Int)) (some (-1)) = (l.drop a).dropLast := by
  unfold sl
  have c1 : clip l.length 0 (some (a : Int)) = a := by simp only [clip]; omega
  have c2 : clip l.length l.length (some (-1)) = l.length - 1 := by simp only [clip]; omega
  rw [c1, c2, List.dropLast_eq_take, List.length_drop, show l.length - 1 - a = l.length - a - 1 by omega]
theorem cut1 {r : List Nat} {M : Nat} (hM : 4 ≤ M) (h : r[M - 3]? = some 61) : wcut M r = M - 3 ∧ r.take (M - 2) = r.take (wcut M r) ++ [61] := by
  have e : wcut M r = M - 3 := by unfold wcut; rw [if_pos h]
  refine ⟨e, ?_⟩
  rw [e, show M - 2 = (M - 3) + 1 by omega, List.take_add_one, h]; rfl
theorem cut2 {r : List Nat} {M : Nat} (hM : 4 ≤ M) (h1 : r[M - 3]? ≠ some 61) (h2 : r[M - 2]? = some 61) : wcut M r = M - 2 ∧ r.take (M - 1) = r.take (wcut M r) ++ [61] := by
  have e : wcut M r = M - 2 := by unfold wcut; rw [if_neg h1, if_pos h2]
  refine ⟨e, ?_⟩
  rw [e, show M - 1 = (M - 2) + 1 by omega, List.take_add_one, h2]; rfl
theorem cut3 {r : List Nat} {M : Nat} (h1 : r[M - 3]? ≠ some 61) (h2 : r[M - 2]? ≠ some 61) : wcut M r = M - 1 := by
  unfold wcut; rw [if_neg h1, if_neg h2]
end Mine
end

section
open PySem PySem.W PyProof.Rows PySem.Calls
set_option Elab.async false
set_option maxRecDepth 100000
namespace Mine
open Builtin
/-- the locals of body_encode that no loop writes -/
def BC (bs : Binds) (l : List Nat) (M : Nat) (D B : Addr) (t1 t2 t3 : Tok) : Prop :=
  lk bs "append" = some (.ref B) ∧ lk bs "maxlinelen1" = some (.int ((M : Int) - 1) t1) ∧ lk bs "maxlinelen" = some (.int (M : Int) t3) ∧ lk bs "soft_break" = some (.str (tx [61, 10]) t2) ∧ (∃ tb, lk bs "body" = some (.str (tx l) tb)) ∧ lk bs "eol" = some (.str (tx [10]) 319) ∧ lk bs "encoded_body" = some (.ref D)
/-- the inner loop's place -/
def BAt (s₀ : Shared) (L : Addr) (fx : List (Addr × Obj)) (l : List Nat) (M : Nat) (D B : Addr) (t1 t2 t3 : Tok) (ln : List Nat) (acc : List (List Nat)) (i : Nat) (s : Shared) : Prop :=
  ∃ bs vs n ti tj tl, St s₀ L bs (fx ++ [(D, listN vs n)]) s ∧ txs acc vs ∧ BC bs l M D B t1 t2 t3 ∧ lk bs "start" = some (.int (i : Int) ti) ∧ lk bs "laststart" = some (.int ((ln.length : Int) - 1 - M) tj) ∧ lk bs "line" = some (.str (tx ln) tl)
section
variable {w : World} {A : Around} {s : Shared}
set_option maxHeartbeats 4000000 in
theorem fn_body_encode {l : List Nat} {M : Nat} {t u : Tok} {R : Result → Shared → Prop} (hM : 4 ≤ M) (hl : ∀ c ∈ l, c < 256) (hlen : l.length ≤ 20000) (hA : AOk A 8) (G : Gnd w s.heap) (hR : Gives1 s R (IsTx (benc M l))) :
    codeAny (model PG w) A (.call (.ref 87) ⟨[.str (tx l) t, .int (M : Int) u], []⟩) R s := by
  refine enter (fd := fd87) (binds := [("body", .str (tx l) t), ("maxlinelen", .int (M : Int) u), ("eol", .str (tx [10]) 319)]) (k := 7) hA G (by kernel_rfl) (by kernel_rfl) rfl (binds_peek G.X fun _ => by kernel_rfl) (by kernel_rfl) (by kernel_rfl) (by simp) fun L s1 hL S1 hA1 => ?_
  refine wpAny_execs_cons (wpAny_If (wpAny_isTrue_Compare1 (ev_loc S1 rfl (ev_int S1 fun t2 s2 S2 _ _ => lt_int (wpAny_truthy_bool ?_)))))
  rw [if_neg (by simp; omega)]
  refine wpAny_execs_nil (wpAny_execs_cons (wpAny_If (isTrue_not (isTrue_plain (ev_loc S2 rfl (truthy_tx S2 (by omega) fun s3 S3 => ?_))))))
  by_cases hle : l = []
  · subst hle
    refine wpAny_execs_cons (wpAny_Return_some (ev_loc S3 rfl ?_))
    exact hR _ _ ⟨_, rfl⟩ S3.done S3.le
  · have e : (!(!l.isEmpty)) = false := by simpa using hle
    rw [e]
    refine wpAny_execs_nil (wpAny_execs_cons (wpAny_Assign_Name (MethodCall_ (ev_loc S3 rfl (gm_translate (callWith_method1 (spliced_more (ev_glob (G.st S3) (gl_QUOPRI_BODY_ENCODE_MAP _) (spliced_none ?_)))))))))
    have hfl := flat_len bmap bmap_len l
    refine mono_toks (call_translate (list_at (G.st S3) (a := 76) (by kernel_rfl)) (tab_get (tab76 w.params)) hl (by omega) fun t4 k4 hk4 => ?_)
    have hBe : benc M l = jn [10] (bpcs M (l.flatMap bmap)) := by unfold benc; rw [if_neg hle]
    have hBne : l.flatMap bmap ≠ [] := by
      cases l with
      | nil => exact absurd rfl hle
      | cons c r => rw [List.flatMap_cons]; unfold bmap; split <;> simp [esc]
    rw [hBe] at hR
    generalize hB : l.flatMap bmap = B at *
    refine st_name (S3.toks hk4) fun s5 S5 => ?_
    refine wpAny_execs_cons (wpAny_Assign_Name (wpAny_BinOp (ev_str S5 fun t6 s6 S6 _ _ => ev_loc S6 rfl ?_)))
    rw [show Str.ofString "=" = tx [61] from by decide +kernel]
    refine add_tx S6 (by simp) fun t7 s7 S7 => st_name S7 fun s8 S8 => ?_
    refine wpAny_execs_cons (wpAny_Assign_Name (wpAny_BinOp (ev_loc S8 rfl (ev_int S8 fun t9 s9 S9 _ _ => int_sub S9 fun t10 s10 S10 => st_name S10 fun s11 S11 => ?_))))
    refine wpAny_execs_cons (wpAny_Assign_Name (List_ (spliced_none (new_list S11 (by simp) fun D s12 S12 => st_name S12 fun s13 S13 => ?_))))
    refine wpAny_execs_cons (wpAny_Assign_Name (Attribute_Name_ (ev_loc S13 rfl (getAttr_append (vs := []) (k := 0) (S13.get (.head _)) ?_))))
    have S14 := (S13.alloc (boundObj D) rfl).toks (Nat.le_succ _)
    refine st_name S14 fun s15 S15 => ?_
    have hBl : B.length ≤ 60000 := by omega
    have hsl : sizeLine = 16777216 := by decide
    have hpl := bpcs_len hM B
    have hpre : ∀ k, (((lns B).take k).flatMap (wps M)).length ≤ 120001 := fun k => by
      have : ((lns B).take k).flatMap (wps M) <+: bpcs M B := by
        unfold bpcs
        conv => rhs; rw [← List.take_append_drop k (lns B), List.flatMap_append, List.append_assoc]
        exact List.prefix_append _ _
      have := this.length_le
      omega
    refine wpAny_execs_cons (for_list (s₀ := s) (L := L) hA1.handled (fun k bs N => ∃ vs n, N = [(D, listN vs n)] ∧ txs (((lns B).take k).flatMap (wps M)) vs ∧ BC bs B M D s13.heap.objs.size t10 t7 u) ?_)
    refine MethodCall_ (ev_loc S15 rfl (GM.splitlines (callWith_method0 (call_splitlines S15 (by omega) fun Dl ls s16 hls S16 => ?_))))
    refine ⟨Dl, ls, _, [(D, listN [] 0)], [(Dl, listObj ls), (s13.heap.objs.size, boundObj D)], rfl, S16, .inr ⟨_, 0, .head _, rfl, rfl⟩, ⟨[], 0, rfl, txs_nil, rfl, rfl, rfl, rfl, ⟨_, rfl⟩, rfl, rfl⟩, ?_, ?_⟩
    · generalize s13.heap.objs.size = Bd at *
      rintro k v bs N it oi s17 hv ⟨vs0, n0, rfl, hvs0, hbc⟩ S17
      obtain ⟨ln, tl, hln, rfl⟩ := txs_get hls hv
      have hlnl : ln.length ≤ 60000 := Nat.le_trans (lns_mem_len B ln (List.mem_of_getElem? hln)) hBl
      have hgo : ((lns B).take (k + 1)).flatMap (wps M) = ((lns B).take k).flatMap (wps M) ++ wps M ln := by
        rw [List.take_add_one, hln, List.flatMap_append]; simp
      have hlen1 := hpre (k + 1)
      rw [hgo, List.length_append] at hlen1
      rw [hgo]
      generalize ha0 : ((lns B).take k).flatMap (wps M) = a0 at *
      refine wpAny_execs_cons (wpAny_Assign_Name (ev_int S17 fun t18 s18 S18 _ _ => st_name S18 fun s19 S19 => ?_))
      refine wpAny_execs_cons (wpAny_Assign_Name (wpAny_BinOp (wpAny_BinOp (Call_ (ev_built (G.st S19) (gn_len _) boot_len (PyProof.Rows.callWith_builtin1 (spliced_more (ev_loc S19 rfl (spliced_none (len_tx S19 (by omega) fun t20 s20 S20 => ev_int S20 fun t21 s21 S21 _ _ => int_sub S21 fun t22 s22 S22 => ev_loc S22 hbc.2.2.1 (int_sub S22 fun t23 s23 S23 => st_name S23 fun s24 S24 => ?_)))))))))))
      refine wpAny_execs_cons (whl (fun m s' => ∃ i acc, m + i = ln.length ∧ BAt s L ((it, oi) :: [(Dl, listObj ls), (Bd, boundObj D)]) B M D Bd t10 t7 u ln (a0 ++ acc) i s' ∧ acc ++ wps M (ln.drop i) = wps M ln ∧ (ln ≠ [] → i < ln.length)) ?_ ln.length
        ⟨0, [], by omega, ⟨_, vs0, n0, t18, t23, tl, S24, by rw [List.append_nil]; exact hvs0, hbc, rfl, rfl, rfl⟩, by simp, fun h => List.length_pos_iff.mpr h⟩)
      rintro m s25 ⟨i, acc, hmi, ⟨bs', vs, n, ti, tj, tl', S25, hvs, hbc', h1, h2, h3⟩, hacc, hilt⟩
      have hal : (a0 ++ acc).length ≤ 120001 := by
        have := congrArg List.length hacc
        rw [List.length_append] at this ⊢; omega
      have hvl : vs.length ≤ sizeLine := by rw [txs_len hvs]; omega
      refine wpAny_isTrue_Compare1 (ev_loc S25 h1 (ev_loc S25 h2 (le_int (wpAny_truthy_bool ?_))))
      by_cases hgo2 : i + M + 1 ≤ ln.length
      · rw [if_pos (by simp; omega)]
        obtain ⟨hap, hm1, hmx, hsb, hbd, heol, hencb⟩ := hbc'
        have hrl : M + 1 ≤ (ln.drop i).length := by rw [List.length_drop]; omega
        have g1 : (ln.drop i)[M - 3]? = ln[((i : Int) + ((M : Int) - 1) - 2).toNat]? := by rw [List.getElem?_drop]; congr 1; omega
        have g2 : (ln.drop i)[M - 2]? = ln[((i : Int) + ((M : Int) - 1) - 1).toNat]? := by rw [List.getElem?_drop]; congr 1; omega
        obtain ⟨c1, hc1⟩ : ∃ c, (ln.drop i)[M - 3]? = some c := ⟨_, List.getElem?_eq_getElem (by omega)⟩
        obtain ⟨c2, hc2⟩ : ∃ c, (ln.drop i)[M - 2]? = some c := ⟨_, List.getElem?_eq_getElem (by omega)⟩
        have hg1 := g1.symm.trans hc1
        have hg2 := g2.symm.trans hc2
        have hstep := wps_go hM hrl
        have hwl := wcut_lo hM (ln.drop i)
        -- what each branch comes to
        have fin : ∀ (p : List Nat) bs'' tp n' s' (i' : Int) ti', p = (ln.drop i).take (wcut M (ln.drop i)) ++ [61] → i' = (i : Int) + (wcut M (ln.drop i) : Nat) → St s L bs'' ((it, oi) :: [(Dl, listObj ls), (Bd, boundObj D)] ++ [(D, listN (vs ++ [.str (tx p) tp]) n')]) s' → BC bs'' B M D Bd t10 t7 u → lk bs'' "start" = some (.int i' ti') → lk bs'' "laststart" = some (.int ((ln.length : Int) - 1 - M) tj) → lk bs'' "line" = some (.str (tx ln) tl') →
            ∃ m', m' < m ∧ ∃ i acc, m' + i = ln.length ∧ BAt s L ((it, oi) :: [(Dl, listObj ls), (Bd, boundObj D)]) B M D Bd t10 t7 u ln (a0 ++ acc) i s' ∧ acc ++ wps M (ln.drop i) = wps M ln ∧ (ln ≠ [] → i < ln.length) := by
          intro p bs'' tp n' s' i' ti' hp hi' S' hb k1 k2 k3
          subst hp; subst hi'
          refine ⟨m - wcut M (ln.drop i), by omega, i + wcut M (ln.drop i), acc ++ [(ln.drop i).take (wcut M (ln.drop i)) ++ [61]], by omega, ⟨bs'', _, n', ti', tj, tl', S', ?_, hb, by rw [k1]; simp, k2, k3⟩, ?_, fun _ => by omega⟩
          · rw [← List.append_assoc]; exact txs_snoc hvs _ _
          · rw [← hacc, hstep, List.drop_drop]; simp
        have gB : ∀ {bs s'} {o : Obj}, St s L bs ((it, oi) :: [(Dl, listObj ls), (Bd, boundObj D)] ++ [(D, o)]) s' → s'.heap.get? Bd = some (boundObj D) := fun S => S.get (.tail _ (.tail _ (.head _)))
        refine wpAny_execs_cons (wpAny_Assign_Name (wpAny_BinOp (ev_loc S25 h1 (ev_loc S25 hm1 (int_add S25 fun t26 s26 S26 => st_name S26 fun s27 S27 => ?_)))))
        refine wpAny_execs_cons (wpAny_If (wpAny_isTrue_Compare1 (Subscript_ (ev_loc S27 h3 (wpAny_BinOp (ev_loc S27 rfl (ev_int S27 fun t28 s28 S28 _ _ => int_sub S28 fun t29 s29 S29 => item_tx S29 (by omega) (by omega) hg1 fun t30 s30 S30 => ev_str S30 fun t31 s31 S31 _ _ => ?_)))))))
        refine eq_tx (wpAny_truthy_bool ?_)
        by_cases hc61 : c1 = 61
        · rw [if_pos (by simp [hc61])]
          obtain ⟨hw, hpc⟩ := cut1 hM (hc61 ▸ hc1)
          refine wpAny_execs_cons (wpAny_Expr (Call_ (ev_loc S31 hap (callWith_bound (D := D) (spliced_more (Subscript_ (ev_loc S31 h3 ?_)))))))
          refine ev_slice (by omega) (evalPart_some_step (ev_loc S31 h1 (evalPart_some_step (wpAny_BinOp (ev_loc S31 rfl (ev_int S31 fun t32 s32 S32 _ _ => int_sub S32 fun t33 s33 S33 => ⟨some ((i : Int), ti), some ((i : Int) + ((M : Int) - 1) - 1, t33), _, _, rfl, rfl, S33, fun t34 s34 S34 => ?_⟩))))))
          refine spliced_none ⟨gB S34, ap_st (N₁ := (it, oi) :: [(Dl, listObj ls), (Bd, boundObj D)]) (N₂ := []) S34 (gB S34) hvl fun s35 S35 => ?_⟩
          refine wpAny_execs_cons (wpAny_Assign_Name (wpAny_BinOp (ev_loc S35 rfl (ev_int S35 fun t36 s36 S36 _ _ => int_sub S36 fun t37 s37 S37 => st_name S37 fun s38 S38 => ?_))))
          refine wpAny_execs_nil (wpAny_execs_nil (fin _ _ _ _ _ _ _ ?_ ?_ S38 ⟨hap, hm1, hmx, hsb, hbd, heol, hencb⟩ rfl h2 h3))
          · rw [← hpc]
            show sl ln (some (i : Int)) (some ((i : Int) + ((M : Int) - 1) - 1)) = _
            rw [show (i : Int) + ((M : Int) - 1) - 1 = ((i + (M - 2) : Nat) : Int) by omega, sl_in (by omega) (by omega)]
            congr 1; omega
          · omega
        · rw [if_neg (by simp [hc61])]
          have hn1 : (ln.drop i)[M - 3]? ≠ some 61 := by rw [hc1]; simpa using hc61
          refine wpAny_execs_cons (wpAny_If (wpAny_isTrue_Compare1 (Subscript_ (ev_loc S31 h3 (wpAny_BinOp (ev_loc S31 rfl (ev_int S31 fun t32 s32 S32 _ _ => int_sub S32 fun t33 s33 S33 => item_tx S33 (by omega) (by omega) hg2 fun t34 s34 S34 => ev_str S34 fun t35 s35 S35 _ _ => ?_)))))))
          refine eq_tx (wpAny_truthy_bool ?_)
          by_cases hd61 : c2 = 61
          · rw [if_pos (by simp [hd61])]
            obtain ⟨hw, hpc⟩ := cut2 hM hn1 (hd61 ▸ hc2)
            refine wpAny_execs_cons (wpAny_Expr (Call_ (ev_loc S35 hap (callWith_bound (D := D) (spliced_more (Subscript_ (ev_loc S35 h3 ?_)))))))
            refine ev_slice (by omega) (evalPart_some_step (ev_loc S35 h1 (evalPart_some_step (ev_loc S35 rfl ⟨some ((i : Int), ti), some ((i : Int) + ((M : Int) - 1), t26), _, _, rfl, rfl, S35, fun t36 s36 S36 => ?_⟩))))
            refine spliced_none ⟨gB S36, ap_st (N₁ := (it, oi) :: [(Dl, listObj ls), (Bd, boundObj D)]) (N₂ := []) S36 (gB S36) hvl fun s37 S37 => ?_⟩
            refine wpAny_execs_cons (wpAny_Assign_Name (wpAny_BinOp (ev_loc S37 rfl (ev_int S37 fun t38 s38 S38 _ _ => int_sub S38 fun t39 s39 S39 => st_name S39 fun s40 S40 => ?_))))
            refine wpAny_execs_nil (wpAny_execs_nil (wpAny_execs_nil (fin _ _ _ _ _ _ _ ?_ ?_ S40 ⟨hap, hm1, hmx, hsb, hbd, heol, hencb⟩ rfl h2 h3)))
            · rw [← hpc]
              show sl ln (some (i : Int)) (some ((i : Int) + ((M : Int) - 1))) = _
              rw [show (i : Int) + ((M : Int) - 1) = ((i + (M - 1) : Nat) : Int) by omega, sl_in (by omega) (by omega)]
              congr 1; omega
            · omega
          · rw [if_neg (by simp [hd61])]
            have hw := cut3 (M := M) hn1 (by rw [hc2]; simpa using hd61)
            refine wpAny_execs_cons (wpAny_Expr (Call_ (ev_loc S35 hap (callWith_bound (D := D) (spliced_more (wpAny_BinOp (Subscript_ (ev_loc S35 h3 ?_))))))))
            refine ev_slice (by omega) (evalPart_some_step (ev_loc S35 h1 (evalPart_some_step (ev_loc S35 rfl ⟨some ((i : Int), ti), some ((i : Int) + ((M : Int) - 1), t26), _, _, rfl, rfl, S35, fun t36 s36 S36 => ?_⟩))))
            refine ev_str S36 fun t37 s37 S37 _ _ => ?_
            have hpe : sl ln (some (i : Int)) (some ((i : Int) + ((M : Int) - 1))) = (ln.drop i).take (M - 1) := by
              rw [show (i : Int) + ((M : Int) - 1) = ((i + (M - 1) : Nat) : Int) by omega, sl_in (by omega) (by omega)]
              congr 1; omega
            show wpAny _ _ (binaryOp .Add (.str (tx (sl ln (some (i : Int)) (some ((i : Int) + ((M : Int) - 1))))) t36) _) _ _ _
            rw [hpe]
            refine add_tx S37 (by rw [List.length_take, List.length_drop]; simp; omega) fun t38 s38 S38 => ?_
            refine spliced_none ⟨gB S38, ap_st (N₁ := (it, oi) :: [(Dl, listObj ls), (Bd, boundObj D)]) (N₂ := []) S38 (gB S38) hvl fun s39 S39 => ?_⟩
            refine wpAny_execs_cons (wpAny_Assign_Name (ev_loc S39 rfl (st_name S39 fun s40 S40 => ?_)))
            refine wpAny_execs_nil (wpAny_execs_nil (wpAny_execs_nil (fin _ _ _ _ _ _ _ ?_ ?_ S40 ⟨hap, hm1, hmx, hsb, hbd, heol, hencb⟩ rfl h2 h3)))
            · rw [hw]
            · omega
      · rw [if_neg (by simp; omega)]
        obtain ⟨hap, hm1, hmx, hsb, hbd, heol, hencb⟩ := hbc'
        have hrl : (ln.drop i).length ≤ M := by rw [List.length_drop]; omega
        have hlast : (ln.drop i).getLast? = ln.getLast? := by
          rw [List.getLast?_drop]
          by_cases hne : ln = []
          · subst hne; simp
          · rw [if_neg (by have := hilt hne; omega)]
        have hbl : blankE (ln.drop i) = blankE ln := by unfold blankE; rw [hlast]
        rw [wps_end hrl] at hacc
        have fin : ∀ (p : List Nat) bs'' tp n' s', p = wfin M (ln.drop i) → St s L bs'' ((it, oi) :: [(Dl, listObj ls), (Bd, boundObj D)] ++ [(D, listN (vs ++ [.str (tx p) tp]) n')]) s' → BC bs'' B M D Bd t10 t7 u →
            ((Flow.next = .next ∨ Flow.next = .cont) ∧ ∃ bs' N', St s L bs' ((it, oi) :: [(Dl, listObj ls), (Bd, boundObj D)] ++ N') s' ∧ ∃ vs n, N' = [(D, listN vs n)] ∧ txs (a0 ++ wps M ln) vs ∧ BC bs' B M D Bd t10 t7 u) := by
          intro p bs'' tp n' s' hp S' hb
          subst hp
          refine ⟨.inl rfl, bs'', _, S', _, _, rfl, ?_, hb⟩
          rw [← hacc, ← List.append_assoc]; exact txs_snoc hvs _ _
        have gB : ∀ {bs s'} {o : Obj}, St s L bs ((it, oi) :: [(Dl, listObj ls), (Bd, boundObj D)] ++ [(D, o)]) s' → s'.heap.get? Bd = some (boundObj D) := fun S => S.get (.tail _ (.tail _ (.head _)))
        refine wpAny_execs_cons (wpAny_If (wpAny_mono (Q := fun b s' => b = blankE ln ∧ St s L bs' ((it, oi) :: [(Dl, listObj ls), (Bd, boundObj D)] ++ [(D, listN vs n)]) s') ?_ (fun b s' h => ?_) fun _ _ e => e))
        · refine isTrue_and (isTrue_plain (ev_loc S25 h3 (truthy_tx S25 (by omega) fun s26 S26 => ?_)))
          cases hgl : ln.getLast? with
          | none =>
            have hnil := List.getLast?_eq_none_iff.mp hgl
            rw [if_neg (by simp [hnil])]
            refine ⟨?_, S26⟩
            rw [hnil]; rfl
          | some c =>
            have hnn : ln ≠ [] := fun h0 => by rw [h0] at hgl; cases hgl
            rw [if_pos (by simpa using hnn)]
            refine isTrue_and (wpAny_isTrue_Compare1 (Subscript_ (ev_loc S26 h3 (UnaryOp_ (ev_int S26 fun t27 s27 S27 _ _ => int_neg S27 fun t28 s28 S28 => item_tx_last S28 (by omega) hgl fun t29 s29 S29 => ev_str S29 fun t30 s30 S30 _ _ => ?_)))))
            rw [show Str.ofString " \t" = tx [32, 9] from by decide +kernel]
            refine in_tx (wpAny_truthy_bool ?_)
            have hbe : blankE ln = decide (c ∈ [32, 9]) := by unfold blankE; rw [hgl]
            by_cases hcb : decide (c ∈ [32, 9]) = true
            · rw [if_pos hcb]
              exact isTrue_and_nil ⟨by rw [hbe, hcb], S30⟩
            · rw [if_neg hcb]
              exact ⟨by rw [hbe]; simpa using hcb, S30⟩
        · obtain ⟨rfl, S26⟩ := h
          cases hbk : blankE ln with
          | true =>
            rw [if_pos rfl]
            have hwf : wfin M (ln.drop i) = (ln.drop i).dropLast ++ wq M (ln.drop i).length ((ln.drop i).getLastD 0) := by unfold wfin; rw [if_pos (by rw [hbl, hbk])]
            obtain ⟨c, hgl, hcb⟩ : ∃ c, ln.getLast? = some c ∧ c ∈ [32, 9] := by
              unfold blankE at hbk
              cases hgl : ln.getLast? with
              | none => rw [hgl] at hbk; cases hbk
              | some c => rw [hgl] at hbk; exact ⟨c, rfl, by simpa using hbk⟩
            have hnn : ln ≠ [] := fun h0 => by rw [h0] at hgl; cases hgl
            have hi := hilt hnn
            have hgd : (ln.drop i).getLastD 0 = c := by rw [List.getLastD_eq_getLast?, hlast, hgl]; rfl
            have hc256 : c < 256 := by
              rcases List.mem_cons.mp hcb with rfl | h
              · decide
              · rcases List.mem_cons.mp h with rfl | h
                · decide
                · cases h
            rw [hgd] at hwf
            refine wpAny_execs_cons (wpAny_Assign_Name (wpAny_BinOp (ev_loc S26 h1 (ev_loc S26 h2 (int_sub S26 fun t27 s27 S27 => st_name S27 fun s28 S28 => ?_)))))
            refine wpAny_execs_cons (wpAny_mono (Q := fun f s' => f = .next ∧ ∃ bs'' tq, St s L bs'' ((it, oi) :: [(Dl, listObj ls), (Bd, boundObj D)] ++ [(D, listN vs n)]) s' ∧ BC bs'' B M D Bd t10 t7 u ∧ lk bs'' "start" = some (.int (i : Int) ti) ∧ lk bs'' "line" = some (.str (tx ln) tl') ∧ lk bs'' "q" = some (.str (tx (wq M (ln.drop i).length c)) tq)) ?_ (fun f s' h => ?_) fun _ _ e => e)
            · have hq : ∀ {Q : Value → Shared → Prop} {E : Value → Shared → Prop} {bs'' s'} (p1 p2 p3 p4 p5 p6 : Pos) (k7 : Nat), St s L bs'' ((it, oi) :: [(Dl, listObj ls), (Bd, boundObj D)] ++ [(D, listN vs n)]) s' → lk bs'' "line" = some (.str (tx ln) tl') → (∀ tq s'', St s L bs'' ((it, oi) :: [(Dl, listObj ls), (Bd, boundObj D)] ++ [(D, listN vs n)]) s'' → Q (.str (tx (esc c)) tq) s'') →
                  wpAny (model PG w) (A.deeper (callEnv fd87 L 87)) (eval (.Call (.Name (Str.ofString "quote") p1) [.Subscript (.Name (Str.ofString "line") p2) (.UnaryOp .USub (.Constant (.int 1) k7 p3) p4) p5] [] p6) (callEnv fd87 L 87)) Q E s' := by
                intro Q E bs'' s' p1 p2 p3 p4 p5 p6 k7 S' hline hQ
                refine Call_ (ev_glob (G.st S') (gl_quote _) (cw_fn (by kernel_rfl) (spliced_more (Subscript_ (ev_loc S' hline (UnaryOp_ (ev_int S' fun t27 s27 S27 _ _ => int_neg S27 fun t28 s28 S28 => item_tx_last S28 (by omega) hgl fun t29 s29 S29 => spliced_none ⟨G.st S29, wpAny_call (fn_quote hc256 (hA1.le (by omega)) (G.st S29) fun v s30 hv hk ht => ?_)⟩)))))))
                obtain ⟨tv, rfl⟩ := hv
                exact hQ _ _ (S29.keeps hk ht)
              refine wpAny_If (wpAny_isTrue_Compare1 (ev_loc S28 rfl (ev_int S28 fun t29 s29 S29 _ _ => ge_int (wpAny_truthy_bool ?_))))
              by_cases h3r : (ln.drop i).length + 2 ≤ M
              · rw [if_pos (by rw [List.length_drop] at h3r; simp; omega)]
                have hw : wq M (ln.drop i).length c = esc c := by unfold wq; rw [if_pos h3r]
                refine wpAny_execs_cons (wpAny_Assign_Name (hq _ _ _ _ _ _ _ S29 h3 fun tq s30 S30 => st_name S30 fun s31 S31 => wpAny_execs_nil ⟨rfl, _, tq, S31, ⟨hap, hm1, hmx, hsb, hbd, heol, hencb⟩, h1, h3, by rw [hw]; rfl⟩))
              · rw [if_neg (by rw [List.length_drop] at h3r; simp; omega)]
                refine wpAny_execs_cons (wpAny_If (wpAny_isTrue_Compare1 (ev_loc S29 rfl (ev_int S29 fun t30 s30 S30 _ _ => eq_int (wpAny_truthy_bool ?_)))))
                by_cases h2r : (ln.drop i).length + 1 = M
                · rw [if_pos (by rw [List.length_drop] at h2r; simp; omega)]
                  have hw : wq M (ln.drop i).length c = [c] ++ [61, 10] := by unfold wq; rw [if_neg h3r, if_pos h2r]
                  refine wpAny_execs_cons (wpAny_Assign_Name (wpAny_BinOp (Subscript_ (ev_loc S30 h3 (UnaryOp_ (ev_int S30 fun t31 s31 S31 _ _ => int_neg S31 fun t32 s32 S32 => item_tx_last S32 (by omega) hgl fun t33 s33 S33 => ev_loc S33 hsb (add_tx S33 (by simp) fun t34 s34 S34 => st_name S34 fun s35 S35 => ?_)))))))
                  exact wpAny_execs_nil (wpAny_execs_nil ⟨rfl, _, t34, S35, ⟨hap, hm1, hmx, hsb, hbd, heol, hencb⟩, h1, h3, by rw [hw]; rfl⟩)
                · rw [if_neg (by rw [List.length_drop] at h2r; simp; omega)]
                  have hw : wq M (ln.drop i).length c = [61, 10] ++ esc c := by unfold wq; rw [if_neg h3r, if_neg h2r]
                  refine wpAny_execs_cons (wpAny_Assign_Name (wpAny_BinOp (ev_loc S30 hsb (hq _ _ _ _ _ _ _ S30 h3 fun tq s31 S31 => add_tx S31 (by simp [esc]) fun t34 s34 S34 => st_name S34 fun s35 S35 => ?_))))
                  exact wpAny_execs_nil (wpAny_execs_nil ⟨rfl, _, t34, S35, ⟨hap, hm1, hmx, hsb, hbd, heol, hencb⟩, h1, h3, by rw [hw]; rfl⟩)
            · obtain ⟨rfl, bs'', tq, S29, hb'', k1, k3, kq⟩ := h
              refine wpAny_execs_cons (wpAny_Expr (Call_ (ev_loc S29 hb''.1 (callWith_bound (D := D) (spliced_more (wpAny_BinOp (Subscript_ (ev_loc S29 k3 ?_))))))))
              refine ev_slice (by omega) (evalPart_some_step (ev_loc S29 k1 (evalPart_some_step (UnaryOp_ (ev_int S29 fun t30 s30 S30 _ _ => int_neg S30 fun t31 s31 S31 => ⟨some ((i : Int), ti), some (-1, t31), _, _, rfl, rfl, S31, fun t36 s36 S36 => ?_⟩)))))
              refine ev_loc S36 kq ?_
              show wpAny _ _ (binaryOp .Add (.str (tx (sl ln (some (i : Int)) (some (-1)))) t36) _) _ _ _
              rw [sl_butlast hi]
              have hwql := wq_len M (ln.drop i).length c
              have hdl : (ln.drop i).dropLast.length ≤ ln.length := by rw [List.length_dropLast, List.length_drop]; omega
              refine add_tx S36 (by omega) fun t38 s38 S38 => ?_
              refine spliced_none ⟨gB S38, ap_st (N₁ := (it, oi) :: [(Dl, listObj ls), (Bd, boundObj D)]) (N₂ := []) S38 (gB S38) hvl fun s39 S39 => ?_⟩
              exact wpAny_execs_nil (wpAny_execs_nil (fin _ _ _ _ _ hwf.symm S39 hb''))
          | false =>
            rw [if_neg Bool.false_ne_true]
            have hwf : wfin M (ln.drop i) = ln.drop i := by unfold wfin; rw [if_neg (by rw [hbl, hbk]; exact Bool.false_ne_true)]
            refine wpAny_execs_cons (wpAny_Expr (Call_ (ev_loc S26 hap (callWith_bound (D := D) (spliced_more (Subscript_ (ev_loc S26 h3 ?_)))))))
            refine ev_slice (by omega) (evalPart_some_step (ev_loc S26 h1 (evalPart_none_step ⟨some ((i : Int), ti), none, _, _, rfl, rfl, S26, fun t36 s36 S36 => ?_⟩)))
            refine spliced_none ⟨gB S36, ap_st (N₁ := (it, oi) :: [(Dl, listObj ls), (Bd, boundObj D)]) (N₂ := []) S36 (gB S36) hvl fun s39 S39 => ?_⟩
            refine wpAny_execs_nil (wpAny_execs_nil (fin _ _ _ _ _ ?_ S39 ⟨hap, hm1, hmx, hsb, hbd, heol, hencb⟩))
            rw [hwf]
            show sl ln (some (i : Int)) none = _
            exact sl_from (by omega)
    · generalize s13.heap.objs.size = Bd at *
      rintro bs N s17 ⟨vs, n, rfl, hvs, hbc⟩ S17
      rw [txs_len hls, List.take_length] at hvs
      obtain ⟨hap, hm1, hmx, hsb, ⟨tb, hbd⟩, heol, hencb⟩ := hbc
      have hpf := bpcs_flat hM B
      have gB : ∀ {bs s'} {o : Obj}, St s L bs ([(Dl, listObj ls), (Bd, boundObj D)] ++ [(D, o)]) s' → s'.heap.get? Bd = some (boundObj D) := fun S => S.get (.tail _ (.head _))
      have fin : ∀ (vs' : List Value) n' bs s', txs (bpcs M B) vs' → St s L bs ([(Dl, listObj ls), (Bd, boundObj D)] ++ [(D, listN vs' n')]) s' →
          wpAny (model PG w) (A.deeper (callEnv fd87 L 87)) (call (.builtin "str.join") [.str (tx [10]) 319, .ref D]) (fun v s'' => R (.ok (.ret v)) s'') (fun _ _ => False) s' := by
        intro vs' n' bs s' hv' S'
        refine call_join S' ⟨_, S'.get (.tail _ (.tail _ (.head _))), rfl, n', rfl⟩ hv' (by simp only [List.length_cons, List.length_nil]; omega) fun t' s'' S'' => ?_
        exact hR _ _ ⟨_, rfl⟩ S''.done S''.le
      obtain ⟨lc, hlc⟩ : ∃ c, B.getLast? = some c := by
        cases e : B.getLast? with
        | none => exact absurd (List.getLast?_eq_none_iff.mp e) hBne
        | some c => exact ⟨c, rfl⟩
      refine wpAny_execs_cons (wpAny_If (wpAny_isTrue_Compare1 (Subscript_ (ev_loc S17 hbd (UnaryOp_ (ev_int S17 fun t18 s18 S18 _ _ => int_neg S18 fun t19 s19 S19 => item_tx_last S19 (by omega) hlc fun t20 s20 S20 => ev_glob (G.st S20) (gl_CRLF _) ?_))))))
      rw [show Str.ofString "\r\n" = tx [13, 10] from by decide +kernel]
      refine in_tx (wpAny_truthy_bool ?_)
      by_cases hcr : decide (lc ∈ [13, 10]) = true
      · rw [if_pos hcr]
        have hbp : bpcs M B = (lns B).flatMap (wps M) ++ [[]] := by
          unfold bpcs; rw [if_pos (by rw [hlc]; simpa using hcr)]
        refine wpAny_execs_cons (wpAny_Expr (Call_ (ev_loc S20 hap (callWith_bound (D := D) (spliced_more (ev_str S20 fun t21 s21 S21 _ _ => spliced_none ?_))))))
        refine ⟨gB S21, ap_st (N₁ := [(Dl, listObj ls), (Bd, boundObj D)]) (N₂ := []) S21 (gB S21) ?_ fun s22 S22 => ?_⟩
        · rw [txs_len hvs]
          have := hpre (lns B).length
          rw [List.take_length] at this; omega
        refine wpAny_execs_nil (wpAny_execs_cons (wpAny_Return_some (MethodCall_ (ev_loc S22 heol (GM.join (callWith_method1 (spliced_more (ev_loc S22 hencb (spliced_none (fin _ _ _ _ ?_ S22))))))))))
        rw [hbp, show Str.ofString "" = tx [] from by decide +kernel]
        exact txs_snoc hvs _ _
      · rw [if_neg hcr]
        have hbp : bpcs M B = (lns B).flatMap (wps M) := by
          unfold bpcs; rw [if_neg (by rw [hlc]; simpa using hcr), List.append_nil]
        refine wpAny_execs_nil (wpAny_execs_cons (wpAny_Return_some (MethodCall_ (ev_loc S20 heol (GM.join (callWith_method1 (spliced_more (ev_loc S20 hencb (spliced_none (fin _ _ _ _ ?_ S20))))))))))
        rw [hbp]; exact hvs
end
end Mine
end

section
open PySem PySem.W PyProof.Rows PySem.Calls
set_option Elab.async false
set_option maxRecDepth 100000
namespace Mine
open Builtin
section
variable {w : World} {A : Around} {s : Shared} {E : Value → Shared → Prop}
theorem St.ext {s₀ s : Shared} {L : Addr} {bs : Binds} {N : List (Addr × Obj)} {h' : Heap} (S : St s₀ L bs N s) (he : Heap.ExtBut s.heap.objs.size s.heap h') : St s₀ L bs N { s with heap := h' } :=
  S.keeps ⟨h', s.toks, rfl, fun b o e => he b o (Nat.ne_of_lt (Heap.lt_size e)) e⟩ (Nat.le_refl _)
def SG (ps : List (List Nat)) : Prop := ps.length ≤ 4000 ∧ ∀ p ∈ ps, ∃ c < 256, p = [c]
theorem SG.nil : SG [] := ⟨by simp, fun _ h => nomatch h⟩
theorem SG.snoc {ps : List (List Nat)} (h : SG ps) (hl : ps.length < 4000) {c : Nat} (hc : c < 256) : SG (ps ++ [[c]]) := by
  refine ⟨by simp; omega, fun p hp => ?_⟩
  rcases List.mem_append.mp hp with hp | hp
  · exact h.2 p hp
  · exact ⟨c, hc, by simpa using hp⟩
theorem sg_flat : ∀ ps : List (List Nat), (∀ p ∈ ps, ∃ c < 256, p = [c]) → (∀ c ∈ ps.flatten, c < 256) ∧ ps.flatten.length = ps.length
  | [], _ => by simp
  | p :: r, h => by
    obtain ⟨i1, i2⟩ := sg_flat r fun q hq => h q (.tail _ hq)
    obtain ⟨c, hc, rfl⟩ := h p (.head _)
    refine ⟨fun d hd => ?_, by simp [i2]⟩
    rcases List.mem_append.mp (List.flatten_cons ▸ hd) with hd | hd
    · rw [List.mem_singleton.mp hd]; exact hc
    · exact i1 d hd
theorem SG.flat {ps : List (List Nat)} (h : SG ps) : (∀ c ∈ ps.flatten, c < 256) ∧ ps.flatten.length = ps.length := sg_flat ps h.2
set_option maxHeartbeats 4000000 in
theorem fn_law_text {vs : List Value} {Dn : Addr} {R : Result → Shared → Prop} (hD : s.heap.IsList Dn vs.toArray) (hv : ∀ v ∈ vs, ∃ n t, v = .int n t) (hA : AOk A 5) (G : Gnd w s.heap)
    (hR : Gives1 s R (fun v => ∃ l, IsTx l v ∧ (∀ c ∈ l, c < 256) ∧ l.length ≤ 4000)) :
    codeAny (model PG w) A (.call (.ref 116) ⟨[.ref Dn], []⟩) R s := by
  refine enter (fd := fd116) (binds := [("numbers", .ref Dn)]) (k := 4) hA G (by kernel_rfl) (by kernel_rfl) rfl (binds_peek G.X fun _ => by kernel_rfl) (by kernel_rfl) (by kernel_rfl) (by simp) fun L s1 hL S1 hA1 => ?_
  have hszl : sizeLine = 16777216 := by decide
  refine wpAny_execs_cons (wpAny_Assign_Name (List_ (spliced_none (new_list S1 (by simp) fun D s2 S2 => st_name S2 fun s3 S3 => ?_))))
  refine wpAny_execs_cons (for_list (s₀ := s) (L := L) hA1.handled (fun k bs N => ∃ ps vs n, N = [(D, listN vs n)] ∧ txs ps vs ∧ SG ps ∧ lk bs "signs" = some (.ref D)) ?_)
  refine ev_loc S3 rfl ⟨Dn, vs, _, [(D, listN [] 0)], [], rfl, S3, .inl hD, ⟨[], [], 0, rfl, txs_nil, SG.nil, rfl⟩, ?_, ?_⟩
  · rintro k v bs N it oi s4 hvk ⟨ps0, vs0, n0, rfl, hps0, hsg0, hsi⟩ S4
    obtain ⟨num, tnum, rfl⟩ := hv v (List.mem_of_getElem? hvk)
    refine wpAny_execs_cons (wpAny_Assign_Name (Call_ (ev_built (G.st S4) (gn_abs _) boot_abs (PyProof.Rows.callWith_builtin1 (spliced_more (ev_loc S4 rfl (spliced_none (mono_toks (call_abs_int fun t5 k5 hk5 => ?_)))))))))
    refine st_name (S4.toks hk5) fun s6 S6 => ?_
    refine wpAny_execs_cons (whl (fun m s' => ∃ bs' ps vs n rest tr, m + ps.length = 4000 ∧ St s L bs' ((it, oi) :: [] ++ [(D, listN vs n)]) s' ∧ txs ps vs ∧ SG ps ∧ lk bs' "signs" = some (.ref D) ∧ lk bs' "rest" = some (.int rest tr)) ?_ (4000 - ps0.length)
      ⟨_, ps0, vs0, n0, _, t5, by have := hsg0.1; omega, S6, hps0, hsg0, hsi, rfl⟩)
    rintro m s7 ⟨bs', ps, vs', n, rest, tr, hm, S7, hps, hsg, h1, h2⟩
    have hvl : vs'.length ≤ 4000 := by rw [txs_len hps]; exact hsg.1
    refine wpAny_mono (Q := fun b s' => (b = true → ps.length < 4000) ∧ St s L bs' ((it, oi) :: [] ++ [(D, listN vs' n)]) s') ?_ (fun b s8 h => ?_) fun _ _ e => e
    · refine isTrue_and (wpAny_isTrue_Compare1 (ev_loc S7 h2 (ev_int S7 fun t8 s8 S8 _ _ => gt_int (wpAny_truthy_bool ?_))))
      by_cases hr : decide (0 < rest) = true
      · rw [if_pos hr]
        refine isTrue_and (wpAny_isTrue_Compare1 (Call_ (ev_built (G.st S8) (gn_len _) boot_len (PyProof.Rows.callWith_builtin1 (spliced_more (ev_loc S8 h1 (spliced_none (len_list (items := vs'.toArray) ⟨_, S8.get (.tail _ (.head _)), rfl, n, rfl⟩ (by simp; omega) ?_))))))))
        refine ev_int ((S8.toks (Nat.le_succ _)).toks (Nat.le_succ _)) fun t9 s9 S9 _ _ => lt_int (wpAny_truthy_bool ?_)
        have hsz : vs'.toArray.size = ps.length := by rw [List.size_toArray, txs_len hps]
        by_cases hlt : ps.length < 4000
        · rw [if_pos (by rw [hsz]; simp; omega)]
          exact isTrue_and_nil ⟨fun _ => hlt, S9⟩
        · rw [if_neg (by rw [hsz]; simp; omega)]
          exact ⟨(fun h => nomatch h), S9⟩
      · rw [if_neg hr]
        exact ⟨(fun h => nomatch h), S8⟩
    · obtain ⟨hb, S8⟩ := h
      cases b with
      | false =>
        rw [if_neg Bool.false_ne_true]
        exact wpAny_execs_nil ⟨.inl rfl, bs', _, S8, ps, vs', n, rfl, hps, hsg, h1⟩
      | true =>
        rw [if_pos rfl]
        have hlt := hb rfl
        have fin : ∀ c tc n' bs'' s' r' tr', c < 256 → St s L bs'' ((it, oi) :: [] ++ [(D, listN (vs' ++ [.str (tx [c]) tc]) n')]) s' → lk bs'' "signs" = some (.ref D) → lk bs'' "rest" = some (.int r' tr') →
            ∃ m', m' < m ∧ ∃ bs' ps vs n rest tr, m' + ps.length = 4000 ∧ St s L bs' ((it, oi) :: [] ++ [(D, listN vs n)]) s' ∧ txs ps vs ∧ SG ps ∧ lk bs' "signs" = some (.ref D) ∧ lk bs' "rest" = some (.int rest tr) :=
          fun c tc n' bs'' s' r' tr' hc S' k1 k2 => ⟨m - 1, by omega, bs'', _, _, n', r', tr', by simp; omega, S', txs_snoc hps [c] tc, hsg.snoc hlt hc, k1, k2⟩
        refine wpAny_execs_cons (Assign_Tuple (Call_ (ev_built (G.st S8) (gn_divmod _) boot_divmod (PyProof.Rows.callWith_builtin1 (spliced_more (wpAny_BinOp (ev_loc S8 h2 (ev_int S8 fun t9 s9 S9 _ _ => int_sub S9 fun t10 s10 S10 => spliced_more (ev_int S10 fun t11 s11 S11 _ _ => spliced_none (divmod_int (by decide) ?_ (.inl (PyProof.noPylong_small (by decide)))))))))))))
        have S12 := (S11.toks (tk := s11.toks + 1 + 1) (by omega)).alloc (tupObj [.int ((rest - 1).fdiv 320) s11.toks, .int ((rest - 1).fmod 320) (s11.toks + 1)]) rfl
        refine assign_Tuple_tuple (items := #[.int ((rest - 1).fdiv 320) s11.toks, .int ((rest - 1).fmod 320) (s11.toks + 1)]) hA1.handled ⟨_, S12.get (.head _), rfl, _, rfl⟩ rfl rfl fun h' he => ?_
        have S13 := (S12.ext he).sub (List.sublist_cons_self _ _)
        refine assignInOrder_cons (assign_Name (st_name S13 fun s14 S14 => assignInOrder_cons (assign_Name (st_name S14 fun s15 S15 => assignInOrder_nil ?_))))
        have hf0 : 0 ≤ (rest - 1).fmod 320 := Int.fmod_nonneg_of_pos _ (by decide)
        have hf1 : (rest - 1).fmod 320 < 320 := Int.fmod_lt_of_pos _ (by decide)
        generalize (rest - 1).fmod 320 = fg at *
        refine wpAny_execs_cons (wpAny_Expr (MethodCall_ (ev_loc S15 h1 (getMethod_append_N S15.nw (o := listN vs' n) (.tail _ (.head _)) (callWith_method1 (spliced_more (IfExp_ (wpAny_isTrue_Compare1 (ev_loc S15 rfl (ev_int S15 fun t16 s16 S16 _ _ => gt_int (wpAny_truthy_bool ?_)))))))))))
        by_cases h63 : (63 : Int) < fg
        · rw [if_pos (by simpa using h63)]
          refine Call_ (ev_built (G.st S16) (gn_chr _) boot_chr (PyProof.Rows.callWith_builtin1 (spliced_more (wpAny_BinOp (ev_loc S16 rfl (ev_int S16 fun t17 s17 S17 _ _ => int_sub S17 fun t18 s18 S18 => spliced_none (chr_of_range (by omega) (by omega) ?_)))))))
          have S19 := S18.toks (Nat.le_succ _)
          refine spliced_none (append_at (S19.get (.tail _ (.head _))) (fun h' hs hg => ?_) (by simp; omega))
          have S20 := S19.upd (N₁ := [(it, oi)]) (N₂ := []) (o' := listN (vs' ++ [.str (tx [(fg - 64).toNat]) s18.toks]) (n + 1)) (by rw [hg]; simp [listN, tx]) hs
          exact wpAny_execs_nil (fin _ _ _ _ _ _ _ (by omega) S20 h1 rfl)
        · rw [if_neg (by simpa using h63)]
          refine Subscript_ (ev_str S16 fun t17 s17 S17 _ _ => wpAny_BinOp (ev_loc S17 rfl (ev_int S17 fun t18 s18 S18 _ _ => mod_int (by decide) ?_)))
          have S19 := S18.toks (Nat.le_succ _)
          have hg0 : 0 ≤ fg.fmod 8 := Int.fmod_nonneg_of_pos _ (by decide)
          have hg1 : fg.fmod 8 < 8 := Int.fmod_lt_of_pos _ (by decide)
          generalize fg.fmod 8 = fi at *
          rw [show Str.ofString " \t\r\n=aZ_" = tx [32, 9, 13, 10, 61, 97, 90, 95] from by decide +kernel]
          obtain ⟨c, hc, hc2⟩ : ∃ c, ([32, 9, 13, 10, 61, 97, 90, 95] : List Nat)[fi.toNat]? = some c ∧ c < 256 := by
            have hlt8 : fi.toNat < 8 := by omega
            have hd : ∀ k < 8, ([32, 9, 13, 10, 61, 97, 90, 95] : List Nat).getD k 0 < 256 := by decide
            have this : ∀ k < 8, ∃ c, ([32, 9, 13, 10, 61, 97, 90, 95] : List Nat)[k]? = some c ∧ c < 256 := by
              intro k hk
              refine ⟨_, ?_, hd k hk⟩
              rw [List.getD_eq_getElem?_getD, List.getElem?_eq_getElem hk]; rfl
            exact this _ hlt8
          refine item_tx S19 (by simp) hg0 hc fun t20 s20 S20 => ?_
          refine spliced_none (append_at (S20.get (.tail _ (.head _))) (fun h' hs hg => ?_) (by simp; omega))
          have S21 := S20.upd (N₁ := [(it, oi)]) (N₂ := []) (o' := listN (vs' ++ [.str (tx [c]) t20]) (n + 1)) (by rw [hg]; simp [listN]) hs
          exact wpAny_execs_nil (fin _ _ _ _ _ _ _ hc2 S21 h1 rfl)
  · rintro bs N s4 ⟨ps, vs', n, rfl, hps, hsg, hsi⟩ S4
    obtain ⟨hall, hfl⟩ := hsg.flat
    have h4 := hsg.1
    refine wpAny_execs_cons (wpAny_Return_some (MethodCall_ (ev_str S4 fun t5 s5 S5 _ _ => GM.join (callWith_method1 (spliced_more (ev_loc S5 hsi (spliced_none ?_)))))))
    rw [show Str.ofString "" = tx [] from by decide +kernel]
    refine call_join S5 ⟨_, S5.get (.head _), rfl, n, rfl⟩ hps (by simp only [List.length_nil, Nat.mul_zero]; omega) fun t6 s6 S6 => ?_
    rw [jn_nil]
    exact hR _ _ ⟨_, ⟨_, rfl⟩, hall, by omega⟩ S6.done S6.le
end
end Mine
end

section
open PySem PySem.W PyProof.Rows PySem.Calls
set_option Elab.async false
set_option maxRecDepth 100000
namespace Mine
section
variable {w : World} {A : Around} {E : Value → Shared → Prop} {s₀ s s' : Shared} {L : Addr} {bs : Binds} {N : List (Addr × Obj)} {env : Env}
theorem St.keeps' (S : St s₀ L bs N s) (k : Keeps s s') (t : s₀.toks < s'.toks) : St s₀ L bs N s' := by
  obtain ⟨h, tk, rfl⟩ := S.eqv
  obtain ⟨h', tk', rfl, k⟩ := k
  exact ⟨⟨h', tk', rfl⟩, ⟨S.fr.ns.keeps k, fun b o e => k b o (S.fr.keep b o e), S.fr.above⟩, fun p hp => ⟨k _ _ (S.nw p hp).1, (S.nw p hp).2⟩, S.nd, t⟩
theorem mono_tk {α : Type} {t : Sem α} {Q : α → Shared → Prop} (S : St s₀ L bs N s) (h : wpAny (model PG w) A t (fun v s' => s₀.toks < s'.toks → Q v s') E s) : wpAny (model PG w) A t Q E s :=
  mono_toks (wpAny_mono h (fun _ _ h' hle => h' (Nat.lt_of_lt_of_le S.tk hle)) fun _ _ e => e)
/-- a fresh object at D put on the ledger -/
theorem St.put {D : Addr} {o : Obj} {s' : Shared} (S : St s₀ L bs N s) (k : Keeps s s') (t : s₀.toks < s'.toks) (hD : s.heap.get? D = none) (ho : s'.heap.get? D = some o) : St s₀ L bs ((D, o) :: N) s' := by
  have S' := S.keeps' k t
  have old : ∀ b x, s.heap.get? b = some x → b ≠ D := fun b x e hb => by rw [hb, hD] at e; cases e
  have hLD : D ≠ L := by
    rintro rfl
    obtain ⟨o', _, _, h1, _⟩ := S.fr.ns
    rw [hD] at h1; cases h1
  refine ⟨S'.eqv, S'.fr, fun p hp => ?_, ?_, t⟩
  · rcases List.mem_cons.mp hp with rfl | hp
    · refine ⟨ho, hLD, ?_⟩
      cases e : s₀.heap.get? D with
      | none => rfl
      | some x => exact absurd (S.fr.keep _ _ e) (by rw [hD]; simp)
    · exact S'.nw p hp
  · rw [List.map_cons, List.nodup_cons]
    refine ⟨fun hm => ?_, S.nd⟩
    obtain ⟨p, hp, e⟩ := List.mem_map.mp hm
    exact old _ _ (S.nw p hp).1 e

def CTests (w : World) (A : Around) (env : Env) (scope : Scope) (cl : List (Str × Addr)) (x : Str) (ifs : List Expr) (ps : List (List Nat)) (q : List Nat → Bool) (s : Shared) : Prop :=
  ∀ C p u s₃ m₃ E', p ∈ ps → s₃.heap.Ns C m₃ → m₃ x = some (.str (tx p) u) → (∀ b o, s.heap.get? b = some o → s₃.heap.get? b = some o) → s.toks ≤ s₃.toks →
    wpAny (model PG w) A (forIn ifs true fun c r => if r = true then do let ok ← isTrue c (compEnvC scope cl C env) (eval c (compEnvC scope cl C env)); pure (ForInStep.yield ok) else pure (ForInStep.yield r))
      (fun ok s₄ => ok = q p ∧ Keeps s₃ s₄) E' s₃
def CElt (w : World) (A : Around) (env : Env) (scope : Scope) (cl : List (Str × Addr)) (x : Str) (elt : Expr) (ps : List (List Nat)) (q : List Nat → Bool) (G : List Nat → Value → Prop) (s : Shared) : Prop :=
  ∀ C p u s₃ m₃ E', p ∈ ps → q p = true → s₃.heap.Ns C m₃ → m₃ x = some (.str (tx p) u) → (∀ b o, s.heap.get? b = some o → s₃.heap.get? b = some o) → s.toks ≤ s₃.toks →
    wpAny (model PG w) A (eval elt (compEnvC scope cl C env)) (fun y s₄ => G p y ∧ Keeps s₃ s₄) E' s₃
def vq (q : List Nat → Bool) : Value → Bool
  | .str x _ => q x.cps.toList
  | _ => false
def vF (G : List Nat → Value → Prop) (v y : Value) : Prop := ∀ p u, v = .str (tx p) u → G p y
theorem vq_tx (q : List Nat → Bool) (p : List Nat) (u : Tok) : vq q (.str (tx p) u) = q p := by show q (tx p).cps.toList = _; rw [tx_list]
theorem paired_src {q : List Nat → Bool} {G : List Nat → Value → Prop} : ∀ (ps : List (List Nat)) (vs ys : List Value), vs.length = ps.length → (∀ (j : Nat) v, vs[j]? = some v → ∃ p u, ps[j]? = some p ∧ v = .str (tx p) u) → Paired (vF G) (vs.filter (vq q)) ys → Paired G (ps.filter q) ys
  | [], [], ys, _, _, h => by cases h; exact .nil
  | [], _ :: _, _, hl, _, _ => by simp at hl
  | _ :: _, [], _, hl, _, _ => by simp at hl
  | p :: ps, v :: vs, ys, hl, hv, h => by
    obtain ⟨p', u, hp', rfl⟩ := hv 0 v rfl
    have e : p = p' := by simpa using hp'
    subst e
    have hl' : vs.length = ps.length := by simpa using hl
    have hv' : ∀ (j : Nat) v, vs[j]? = some v → ∃ p u, ps[j]? = some p ∧ v = .str (tx p) u := fun j v h => by
      have := hv (j + 1) v (by simpa using h)
      simpa using this
    rw [List.filter_cons, vq_tx] at h
    rw [List.filter_cons]
    by_cases hq : q p = true
    · rw [if_pos hq] at h ⊢
      cases h with
      | cons h1 h2 => exact .cons (h1 _ _ rfl) (paired_src ps vs _ hl' hv' h2)
    · rw [if_neg hq] at h ⊢
      exact paired_src ps vs _ hl' hv' h
theorem tx_one (c : Nat) : (⟨#[c]⟩ : Str) = tx [c] := rfl
theorem paired_txs {g : List Nat → List Nat} : ∀ {ps : List (List Nat)} {ys : List Value}, Paired (fun p y => ∃ u, y = .str (tx (g p)) u) ps ys → txs (ps.map g) ys
  | _, _, .nil => txs_nil
  | _, _, .cons h t => by
    obtain ⟨u, rfl⟩ := h
    obtain ⟨pcs, rfl, e⟩ := paired_txs t
    exact ⟨(tx (g _), u) :: pcs, rfl, by rw [List.map_cons, List.map_cons, List.map_cons, e]⟩

/-- what the two rules for comprehensions ask of a walk over texts -/
theorem comp_fin {I : Addr} {P : Nat → Value → Prop} {elt : Expr} {x : Str} {ifs : List Expr} {scope : Scope} {cl : List (Str × Addr)} {ps : List (List Nat)} {q : List Nat → Bool} {G : List Nat → Value → Prop} {o : Obj}
    (hI : I = s.heap.objs.size) (hP : ∀ (j : Nat) v, P j v → ∃ p u, ps[j]? = some p ∧ v = .str (tx p) u)
    (hT : CTests w A env scope cl x ifs ps q s) (hE : CElt w A env scope cl x elt ps q G s) : QuietOnC PG w A env scope cl x ifs elt [I] P (vq q) (vF G) { s with heap := s.heap.push o } := by
  have hk : ∀ {s₃ : Shared}, (∀ b o', b ∉ [I] → (s.heap.push o).get? b = some o' → s₃.heap.get? b = some o') → ∀ b o', s.heap.get? b = some o' → s₃.heap.get? b = some o' :=
    fun h b o' e => h b o' (by rw [List.mem_singleton]; rintro rfl; exact absurd (Heap.lt_size e) (by rw [hI]; exact Nat.lt_irrefl _)) (Heap.get?_push_of_some _ e)
  constructor
  · intro C i v s₃ m₃ E' _ hv hns hm hkeep htk
    obtain ⟨p, u, hp, rfl⟩ := hP i v hv
    rw [vq_tx]
    exact hT C p u s₃ m₃ E' (List.mem_of_getElem? hp) hns hm (hk hkeep) htk
  · intro C i v s₃ m₃ E' _ hv hpv hns hm hkeep htk
    obtain ⟨p, u, hp, rfl⟩ := hP i v hv
    rw [vq_tx] at hpv
    refine wpAny_mono (hE C p u s₃ m₃ E' (List.mem_of_getElem? hp) hpv hns hm (hk hkeep) htk) (fun y s₄ h => ⟨fun p' u' e => ?_, h.2⟩) fun _ _ e => e
    injection e with e1 e2
    rw [← tx_inj e1]; exact h.1
theorem comp_end {I : Addr} {ps : List (List Nat)} {q : List Nat → Bool} {G : List Nat → Value → Prop} {o : Obj} {P : Nat → Value → Prop} (S : St s₀ L bs N s) (hI : I = s.heap.objs.size) (hP : ∀ (j : Nat) v, P j v → ∃ p u, ps[j]? = some p ∧ v = .str (tx p) u)
    {D : Addr} {h' : Heap} {tk : Nat} {ys : Array Value} {vs : List Value} (hD : (s.heap.push o).get? D = none) (hpl : h'.PlainList D ys) (hlen : vs.length = ps.length) (hvP : ∀ (j : Nat) v, vs[j]? = some v → P j v)
    (hF : Paired (vF G) (vs.filter (vq q)) ys.toList) (hk : ∀ b o', b ∉ [I] → (s.heap.push o).get? b = some o' → h'.get? b = some o') (t : s₀.toks < tk) :
    ∃ n, Paired G (ps.filter q) ys.toList ∧ St s₀ L bs ((D, listN ys.toList n) :: N) { s with heap := h', toks := tk } := by
  obtain ⟨n, ho⟩ := hpl
  refine ⟨n, paired_src ps vs _ hlen (fun j v h => hP j v (hvP j v h)) hF, S.put ⟨h', tk, rfl, fun b o' e => ?_⟩ t ?_ ?_⟩
  · exact hk b o' (by rw [List.mem_singleton]; rintro rfl; exact absurd (Heap.lt_size e) (by rw [hI]; exact Nat.lt_irrefl _)) (Heap.get?_push_of_some _ e)
  · cases e : s.heap.get? D with
    | none => rfl
    | some x => rw [Heap.get?_push_of_some _ e] at hD; cases hD
  · show h'.get? D = _
    rw [ho]; simp [listN]

theorem sign_src {l : List Nat} : ∀ (j : Nat) v, SignAt (tx l) j v → ∃ p u, (l.map fun c => [c])[j]? = some p ∧ v = .str (tx p) u := by
  rintro j v ⟨c, u, hc, rfl⟩
  refine ⟨[c], u, ?_, rfl⟩
  have : l[j]? = some c := by simpa [tx] using hc
  rw [List.getElem?_map, this]; rfl
/-- a comprehension over a text's signs -/
theorem comp_str {elt iter : Expr} {x : Str} {px : Pos} {ifs : List Expr} {scope : Scope} {cl : List (Str × Addr)} {pos : Pos} {Q : Value → Shared → Prop} {l : List Nat} {t : Tok} (q : List Nat → Bool) (G : List Nat → Value → Prop) (hh : A.handled = none) (S : St s₀ L bs N s)
    (hclos : closureFor scope env = pure cl) (hcell : ∀ y ∈ scope.names, y.2 ≠ .cell) (hkind : scope.kind = .function) (hnames : ∀ y ∈ scope.names, y.2 = .local → scope.names.lookup y.1 = some .local) (hx : scope.names.lookup x = some .local)
    (hlen : l.length ≤ 1000000)
    (hi : wpAny (model PG w) A (eval iter env) (fun v s₁ => v = .str (tx l) t ∧ s₁ = s) E s)
    (hT : CTests w A env scope cl x ifs (l.map fun c => [c]) q s) (hE : CElt w A env scope cl x elt (l.map fun c => [c]) q G s)
    (h : ∀ D ys n s', Paired G ((l.map fun c => [c]).filter q) ys → St s₀ L bs ((D, listN ys n) :: N) s' → Q (.ref D) s')
    (hs : ∀ x, foldedSetIterable iter env x = pure x := by intro _; rfl) :
    wpAny (model PG w) A (eval (.ListComp elt [⟨.Name x px, iter, ifs, 0⟩] scope pos) env) Q E s := by
  refine mono_tk S (wpAny_ListComp_free (vq q) (vF G) hclos hcell hkind hnames hx (wpAny_mono hi (fun v s₁ h₁ => ?_) fun _ _ e => e) hs)
  obtain ⟨rfl, rfl⟩ := h₁
  refine wpAny_pyIter_str fun o St' W hst => ⟨_, _, _, _, _, _, rfl, W A hh, ?_, hst, ?_, comp_fin rfl sign_src hT hE, ?_⟩
  · show (tx l).length ≤ _
    rw [tx_len, show sizeLine = 16777216 by decide]; omega
  · intro b hb
    rw [List.mem_singleton.mp hb]
    show _ < (s₁.heap.push o).objs.size
    rw [Heap.size_push]; exact Nat.lt_succ_self _
  · intro D h' tk ys vs hD _ hpl hl hvP hF hk t0
    have hl' : vs.length = (l.map fun c => [c]).length := by rw [hl, List.length_map]; exact tx_len l
    obtain ⟨n, h1, h2⟩ := comp_end (G := G) (q := q) S rfl sign_src hD hpl hl' hvP hF hk t0
    exact h _ _ n _ h1 h2
theorem comp_str_as {elt iter : Expr} {x y : Str} {px py : Pos} {ifs : List Expr} {scope : Scope} {cl : List (Str × Addr)} {pos spos : Pos} {Q : Flow → Shared → Prop} {l : List Nat} {t : Tok} (q : List Nat → Bool) (G : List Nat → Value → Prop) (hh : A.handled = none) (S : St s₀ L bs N s)
    (hsw : swapsWith (.ListComp elt [⟨.Name x px, iter, ifs, 0⟩] scope pos) (some (.Name y py)) spos.line env = pure true)
    (hclos : closureFor scope env = pure cl) (hcell : ∀ y ∈ scope.names, y.2 ≠ .cell) (hkind : scope.kind = .function) (hnames : ∀ y ∈ scope.names, y.2 = .local → scope.names.lookup y.1 = some .local) (hx : scope.names.lookup x = some .local)
    (hy : env.kindOf y = some .local) (hp : (env.scope.kind == .class || (env.scope.kind == .module && env.locals != env.globals)) = false) (hL : env.locals = L)
    (hlen : l.length ≤ 1000000)
    (hi : wpAny (model PG w) A (eval iter env) (fun v s₁ => v = .str (tx l) t ∧ s₁ = s) E s)
    (hT : CTests w A env scope cl x ifs (l.map fun c => [c]) q s) (hE : CElt w A env scope cl x elt (l.map fun c => [c]) q G s)
    (h : ∀ D ys n s', Paired G ((l.map fun c => [c]).filter q) ys → St s₀ L ((y, .ref D) :: bs) ((D, listN ys n) :: N) s' → Q .next s')
    (hs : ∀ x, foldedSetIterable iter env x = pure x := by intro _; rfl) :
    wpAny (model PG w) A (exec (.Assign [.Name y py] (.ListComp elt [⟨.Name x px, iter, ifs, 0⟩] scope pos) spos) env) Q E s := by
  subst hL
  refine mono_tk S (wpAny_Assign_ListComp_free (vq q) (vF G) hsw hclos hcell hkind hnames hx hy hp (wpAny_mono hi (fun v s₁ h₁ => ?_) fun _ _ e => e) hs)
  obtain ⟨rfl, rfl⟩ := h₁
  have hLlt : env.locals < s₁.heap.objs.size := by
    obtain ⟨o', _, _, h1, _⟩ := S.fr.ns
    exact Heap.lt_size h1
  refine wpAny_pyIter_str fun o St' W hst => ⟨_, _, _, _, _, _, _, rfl, W A hh, ?_, hst, ?_, ?_, S.fr.ns.keeps fun b o' e => Heap.get?_push_of_some _ e, comp_fin rfl sign_src hT hE, ?_⟩
  · show (tx l).length ≤ _
    rw [tx_len, show sizeLine = 16777216 by decide]; omega
  · intro b hb
    rw [List.mem_singleton.mp hb]
    show _ < (s₁.heap.push o).objs.size
    rw [Heap.size_push]; exact Nat.lt_succ_self _
  · rw [List.mem_singleton]; exact Nat.ne_of_lt hLlt
  · intro D h' tk ys vs hD _ hpl hl hvP hF hns hk t0
    have hl' : vs.length = (l.map fun c => [c]).length := by rw [hl, List.length_map]; exact tx_len l
    obtain ⟨n, ho⟩ := hpl
    have hD' : s₁.heap.get? D = none := by
      cases e : s₁.heap.get? D with
      | none => rfl
      | some x => rw [Heap.get?_push_of_some _ e] at hD; cases hD
    have keep : ∀ b o', b ≠ env.locals → s₁.heap.get? b = some o' → h'.get? b = some o' := fun b o' hb e =>
      hk b o' hb (by rw [List.mem_singleton]; rintro rfl; exact absurd (Heap.lt_size e) (Nat.lt_irrefl _)) (Heap.get?_push_of_some _ e)
    refine h D ys.toList n _ (paired_src _ vs _ hl' (fun j v h => sign_src j v (hvP j v h)) hF) ?_
    have hDL : D ≠ env.locals := by
      rintro rfl
      obtain ⟨o', _, _, h1, _⟩ := S.fr.ns
      rw [hD'] at h1; cases h1
    have hget : h'.get? D = some (listN ys.toList n) := by rw [ho]; simp [listN]
    obtain ⟨h0, tk0, rfl⟩ := S.eqv
    refine ⟨⟨h', tk, rfl⟩, ⟨?_, fun b o' e => keep b o' ?_ (S.fr.keep b o' e), S.fr.above⟩, fun p hp => ?_, ?_, t0⟩
    · rw [← lookup_store]; exact hns
    · have := Heap.lt_size e; have := S.fr.above; exact Nat.ne_of_lt (Nat.lt_of_lt_of_le (Heap.lt_size e) S.fr.above)
    · rcases List.mem_cons.mp hp with rfl | hp
      · refine ⟨hget, hDL, ?_⟩
        cases e : s₀.heap.get? D with
        | none => rfl
        | some x => exact absurd (S.fr.keep _ _ e) (by rw [hD']; simp)
      · exact ⟨keep _ _ (S.nw p hp).2.1 (S.nw p hp).1, (S.nw p hp).2⟩
    · rw [List.map_cons, List.nodup_cons]
      refine ⟨fun hm => ?_, S.nd⟩
      obtain ⟨p, hp, e⟩ := List.mem_map.mp hm
      have := (S.nw p hp).1
      rw [show p.1 = D from e, hD'] at this; cases this
/-- a comprehension over a list of texts -/
theorem comp_list {elt iter : Expr} {x : Str} {px : Pos} {ifs : List Expr} {scope : Scope} {cl : List (Str × Addr)} {pos : Pos} {Q : Value → Shared → Prop} (q : List Nat → Bool) (G : List Nat → Value → Prop) (ps : List (List Nat)) (hh : A.handled = none) (S : St s₀ L bs N s)
    (hclos : closureFor scope env = pure cl) (hcell : ∀ y ∈ scope.names, y.2 ≠ .cell) (hkind : scope.kind = .function) (hnames : ∀ y ∈ scope.names, y.2 = .local → scope.names.lookup y.1 = some .local) (hx : scope.names.lookup x = some .local)
    (hlen : ps.length ≤ 1000000)
    (hi : wpAny (model PG w) A (eval iter env) (fun v s₁ => ∃ D vs, v = .ref D ∧ txs ps vs ∧ St s₀ L bs ((D, listObj vs) :: N) s₁) E s)
    (hT : ∀ s₁, St s₀ L bs N s₁ → CTests w A env scope cl x ifs ps q s₁) (hE : ∀ s₁, St s₀ L bs N s₁ → CElt w A env scope cl x elt ps q G s₁)
    (h : ∀ D ys n s', Paired G (ps.filter q) ys → St s₀ L bs ((D, listN ys n) :: N) s' → Q (.ref D) s')
    (hs : ∀ x, foldedSetIterable iter env x = pure x := by intro _; rfl) :
    wpAny (model PG w) A (eval (.ListComp elt [⟨.Name x px, iter, ifs, 0⟩] scope pos) env) Q E s := by
  refine mono_tk S (wpAny_ListComp_free (vq q) (vF G) hclos hcell hkind hnames hx (wpAny_mono hi (fun v s₁ h₁ => ?_) fun _ _ e => e) hs)
  obtain ⟨Dl, vs, rfl, hvs, S1⟩ := h₁
  have hDl : s₁.heap.IsList Dl vs.toArray := ⟨_, S1.get (.head _), rfl, 0, rfl⟩
  have hlt : Dl < s₁.heap.objs.size := Heap.lt_size (S1.get (.head _))
  refine wpAny_pyIter_list hDl ?_
  have hP : ∀ (j : Nat) v, vs.toArray[j]? = some v → ∃ p u, ps[j]? = some p ∧ v = .str (tx p) u := fun j v hv => txs_get hvs (by simpa using hv)
  have hT1 := hT _ (S1.sub (List.sublist_cons_self _ _))
  have hE1 := hE _ (S1.sub (List.sublist_cons_self _ _))
  refine ⟨_, _, _, _, _, _, rfl, Walks.list hh s₁.heap.objs.size Dl (Nat.ne_of_lt hlt) vs.toArray, ?_, ⟨⟨_, Heap.get?_push_size _ rfl, rfl, rfl⟩, hDl.at fun o e => Heap.get?_push_of_some _ e⟩, ?_, comp_fin rfl hP hT1 hE1, ?_⟩
  · rw [List.size_toArray, txs_len hvs, show sizeLine = 16777216 by decide]; omega
  · intro b hb
    show _ < (s₁.heap.push _).objs.size
    rw [Heap.size_push]
    rcases List.mem_cons.mp hb with rfl | hb
    · exact Nat.lt_succ_self _
    · rw [List.mem_singleton.mp hb]; exact Nat.lt_succ_of_lt hlt
  · intro D h' tk ys vs' hD _ hpl hl hvP hF hk t0
    have hl' : vs'.length = ps.length := by rw [hl, List.size_toArray, txs_len hvs]
    obtain ⟨n, h1, h2⟩ := comp_end (G := G) (q := q) S1 rfl hP hD hpl hl' hvP hF hk t0
    refine h _ _ n _ h1 (h2.sub ?_)
    exact (List.sublist_cons_self _ _).cons₂ _
end
end Mine
end

section
open PySem PySem.W PyProof.Rows PySem.Calls
set_option Elab.async false
set_option maxRecDepth 100000
namespace Mine
open Builtin
section
variable {w : World} {A : Around} {E : Value → Shared → Prop} {s₀ s : Shared} {L : Addr} {bs : Binds} {N N₁ N₂ : List (Addr × Obj)} {env : Env}
theorem ev_cell {x : Str} {pos : Pos} {c : Addr} {o : Obj} {v : Value} {Q : Value → Shared → Prop} (S : St s₀ L bs N s) (hm : (c, o) ∈ N) (hd : o.data = .cell (some v)) (h : Q v s)
    (hc : env.cells.lookup x = some c := by rfl) (hk : env.scope.kind = .function := by rfl) (hl : env.kindOf x = some .cell := by rfl) (hb : (x == ("__debug__" : Str)) = false := by decide) :
    wpAny (model PG w) A (eval (.Name x pos) env) Q E s := wpAny_Name (wpAny_loadName_cell hk hl hc ⟨o, S.get hm, hd⟩ h) hb
theorem st_cell {x : Str} {c : Addr} {o : Obj} {v₀ : Option Value} {v : Value} {Q : Unit → Shared → Prop} (S : St s₀ L bs (N₁ ++ (c, o) :: N₂) s) (hd : o.data = .cell v₀) (h : ∀ o' s', o'.data = .cell (some v) → St s₀ L bs (N₁ ++ (c, o') :: N₂) s' → Q () s')
    (hc : env.cells.lookup x = some c := by rfl) (hk : env.scope.kind = .function := by rfl) (hl : env.kindOf x = some .cell := by rfl) :
    wpAny (model PG w) A (storeName env x v) Q E s := by
  refine wpAny_storeName_cell hk hl hc ⟨o, S.get (List.mem_append.mpr (.inr (.head _))), hd⟩ fun h' hcell hs => ?_
  obtain ⟨o', ho', hd'⟩ := hcell
  exact h o' _ hd' (S.upd ho' hs)
theorem owned_go {elts : List Expr} {x1} {pos : Pos} {it : Addr} {o : Obj} {v : Value} {Q : Unit → Shared → Prop} (ho : s.heap.get? it = some o) (hc : o.cls = .type "tuple_iterator") (h : Q () s) : wpAny (model PG w) A (letOwnedTupleGo (.Tuple elts x1 pos) (.ref it) v) Q E s := by
  unfold letOwnedTupleGo
  cases v with
  | ref a =>
    refine wpAny_bind (wpAny_load ho ?_)
    rw [hc]
    cases o.data with
    | fields vs =>
      refine KFB.if_not ?_ (wpAny_pure h)
      have : (["enumerate", "zip", "dict_itemiterator", "dict_reverseitemiterator", "odict_iterator", "itertools.zip_longest", "itertools.pairwise"].contains "tuple_iterator") = false := by decide
      rw [this]; rfl
    | _ => exact wpAny_pure h
  | _ => exact wpAny_pure h
theorem for_tup {elts : List Expr} {x1} {tpos : Pos} {iter : Expr} {pos : Pos} {body : List Stmt} {Q : Flow → Shared → Prop} (hh : A.handled = none) (Inv : Nat → Binds → List (Addr × Obj) → Prop)
    (h : wpAny (model PG w) A (eval iter env) (fun v s₁ => ∃ D vs bs N fixed, v = .ref D ∧ St s₀ L bs (fixed ++ N) s₁ ∧ (D, tupObj vs) ∈ fixed ∧ Inv 0 bs N ∧
      (∀ i v bs N it oi s, vs[i]? = some v → Inv i bs N → St s₀ L bs ((it, oi) :: fixed ++ N) s →
        wpAny (model PG w) A (assign (.Tuple elts x1 tpos) env v) (fun _ s₂ => wpAny (model PG w) A (execs body env) (fun f s' => (f = .next ∨ f = .cont) ∧ ∃ bs' N', St s₀ L bs' ((it, oi) :: fixed ++ N') s' ∧ Inv (i + 1) bs' N') (fun _ _ => False) s₂) (fun _ _ => False) s) ∧
      (∀ bs N s, Inv vs.length bs N → St s₀ L bs (fixed ++ N) s → Q .next s)) E s)
    (hs : ∀ x, foldedSetIterable iter env x = pure x := by intro _; rfl) :
    wpAny (model PG w) A (exec (.For (.Tuple elts x1 tpos) iter body [] pos) env) Q E s := by
  refine wpAny_For (wpAny_mono h (fun v s₁ h₁ => ?_) fun _ _ e => e) hs
  obtain ⟨D, vs, bs, N, fixed, rfl, S, hD, h0, turn, done⟩ := h₁
  have isT : ∀ {bs N it oi s}, St s₀ L bs ((it, oi) :: fixed ++ N) s → IsTup s.heap D vs.toArray := fun S => ⟨_, S.get (List.mem_append.mpr (.inl (.tail _ hD))), rfl, _, rfl⟩
  refine iter_tuple (items := vs.toArray) ⟨_, S.get (List.mem_append.mpr (.inl hD)), rfl, _, rfl⟩ ?_
  have S' := S.alloc { cls := .type "tuple_iterator", data := .fields #[.ref D, .int 0 0] } rfl
  refine codeAny_forLoop_any (fun k s' => ∃ i bs N oi, k + i = vs.length ∧ Inv i bs N ∧ St s₀ L bs ((s₁.heap.objs.size, oi) :: fixed ++ N) s' ∧ oi.cls = .type "tuple_iterator" ∧ oi.data = .fields #[.ref D, .int i 0]) ?_ vs.length ⟨0, bs, N, _, by omega, h0, S', rfl, rfl⟩
  rintro k s' ⟨i, bs', N', oi, hki, hI, Si, hc, hd⟩
  have hit : IsTupIter s'.heap s₁.heap.objs.size D i := ⟨oi, Si.get (.head _), hc, hd⟩
  cases hv : vs[i]? with
  | none =>
    refine next_tuple_end hh hit (isT Si) (by simpa using hv) fun h₂ he => wpAny_execs_nil ?_
    have hi : i = vs.length := by have := List.getElem?_eq_none_iff.mp hv; omega
    subst hi
    exact done _ _ _ hI (Si.drop he)
  | some v =>
    refine next_tuple_item hit (isT Si) (by simpa using hv) fun h₂ hit₂ hs₂ => ?_
    obtain ⟨o₂, ho₂, hc₂, hd₂⟩ := hit₂
    have S₂ := Si.upd (N₁ := []) ho₂ hs₂
    refine owned_go ho₂ hc₂ ?_
    refine wpAny_noRaise (wpAny_mono (turn i v bs' N' _ o₂ _ hv hI S₂) (fun _ s₃ h₃ => ?_) fun _ _ e => e)
    refine wpAny_noRaise (wpAny_mono h₃ (fun f s₄ h₄ => ?_) fun _ _ e => e)
    obtain ⟨hf, bs'', N'', S₄, hI'⟩ := h₄
    have hlt : i < vs.length := (List.getElem?_eq_some_iff.mp hv).1
    rcases hf with rfl | rfl <;> exact ⟨k - 1, by omega, i + 1, bs'', N'', o₂, by omega, hI', S₄, hc₂, hd₂⟩
end
section
variable {w : World} {A : Around} {s : Shared}
theorem bindL_one {kd : Str → Option NameKind} {n : Str} {v : Value} (h : kd n = some .local) : bindL kd [(n, v)] (fun _ => none) = fun y => [(n, v)].lookup y := by
  unfold bindL
  rw [if_pos h]
  exact lookup_store (bs := [])
theorem bindC_one {kd : Str → Option NameKind} {n : Str} {v : Value} (h : kd n = some .local) : bindC kd [(n, v)] (fun _ => none) = fun _ => none := by
  unfold bindC
  rw [if_pos h]
  rfl
theorem enter_law {k : Nat} {R : Result → Shared → Prop} {body : List Stmt} {v : Value} (hA : AOk A (k + 1)) (G : Gnd w s.heap) (hbody : fd121.body = .stmts body)
    (h : ∀ L s', L = s.heap.objs.size → s'.heap.Ns L (fun y => [(Str.ofString "script", v)].lookup y) → (∀ b o, s.heap.get? b = some o → s'.heap.get? b = some o) →
      (∀ tk, s'.toks < tk → ∃ o1 o2 o3 o4, o1.data = .cell none ∧ o2.data = .cell none ∧ o3.data = .cell none ∧ o4.data = .cell none ∧ St { s with toks := s'.toks } L [(Str.ofString "script", v)] [(L + 1, o1), (L + 2, o2), (L + 3, o3), (L + 4, o4)] { s' with toks := tk }) →
      AOk (A.deeper (callEnvC fd121 L 121)) k →
      wpAny (model PG w) (A.deeper (callEnvC fd121 L 121)) (execs body (callEnvC fd121 L 121)) (fun f s'' => R (.ok (.ret (flowVal f))) s'') (fun _ _ => False) s') :
    codeAny (model PG w) A (.call (.ref 121) ⟨[v], []⟩) R s := by
  obtain ⟨o, ho, hd⟩ := isFnB_get (show isFnB ((KK w.params).lookup 121) = true by kernel_rfl)
  have hd : o.data = .func (fdOf w.params 121) := hd
  rw [show fdOf w.params 121 = fd121 by kernel_rfl] at hd
  refine codeAny_call_cells (binds := [(Str.ofString "script", v)]) (by have := hA.depth; omega) (G.X _ _ ho) hd G.lim (codeRec_of G.X (by kernel_rfl)) hbody (by kernel_rfl) (by kernel_rfl) (fun x hx => ?_) (fun s₁ X => ?_) (by kernel_rfl) (by kernel_rfl) (by kernel_rfl)
  · rw [List.mem_singleton.mp hx]; left; kernel_rfl
  · have hkd : (callEnvC fd121 s.heap.objs.size 121).kindOf (Str.ofString "script") = some .local := by kernel_rfl
    rw [bindL_one hkd, bindC_one hkd] at X
    have hns : s₁.heap.Ns s.heap.objs.size (fun y => [(Str.ofString "script", v)].lookup y) := X.toInCall.ns
    have hfr : ∀ tk, Fr s.heap s.heap.objs.size ({ s₁ with toks := tk } : Shared).heap (fun y => [(Str.ofString "script", v)].lookup y) := fun tk => ⟨hns, X.toInCall.keep, Nat.le_refl _⟩
    have cell : ∀ n j, (callEnvC fd121 s.heap.objs.size 121).cells.lookup n = some (s.heap.objs.size + (j + 1)) → ∃ o, o.data = .cell none ∧ s₁.heap.get? (s.heap.objs.size + (j + 1)) = some o := fun n j hn => by
      obtain ⟨o, h1, h2⟩ := X.cell n _ hn
      exact ⟨o, h2, h1⟩
    obtain ⟨o1, d1, g1⟩ := cell (Str.ofString "length") 0 (by kernel_rfl)
    obtain ⟨o2, d2, g2⟩ := cell (Str.ofString "escaped") 1 (by kernel_rfl)
    obtain ⟨o3, d3, g3⟩ := cell (Str.ofString "first") 2 (by kernel_rfl)
    obtain ⟨o4, d4, g4⟩ := cell (Str.ofString "second") 3 (by kernel_rfl)
    have fresh : ∀ j, s.heap.get? (s.heap.objs.size + j) = none := fun j => by
      cases e : s.heap.get? (s.heap.objs.size + j) with
      | none => rfl
      | some x => exact absurd (Heap.lt_size e) (Nat.not_lt.mpr (Nat.le_add_right _ _))
    refine wpAny_mono (h _ s₁ rfl hns X.toInCall.keep (fun tk htk => ⟨o1, o2, o3, o4, d1, d2, d3, d4, ?_⟩) hA.deeper) (fun f s'' q => ?_) fun _ _ x => x.elim
    · obtain ⟨h', tk', rfl⟩ := X.toInCall.same
      refine ⟨⟨h', tk, rfl⟩, hfr tk, ?_, ?_, htk⟩
      · intro p hp
        simp only [List.mem_cons, List.not_mem_nil, or_false] at hp
        rcases hp with rfl | rfl | rfl | rfl
        · exact ⟨g1, by show s.heap.objs.size + 1 ≠ _; omega, fresh 1⟩
        · exact ⟨g2, by show s.heap.objs.size + 2 ≠ _; omega, fresh 2⟩
        · exact ⟨g3, by show s.heap.objs.size + 3 ≠ _; omega, fresh 3⟩
        · exact ⟨g4, by show s.heap.objs.size + 4 ≠ _; omega, fresh 4⟩
      · simp
    · cases f <;> exact q
end
end Mine
end

section
open PySem PySem.W PyProof.Rows PySem.Calls
set_option Elab.async false
set_option maxRecDepth 100000
namespace Mine
theorem spl_ind {P : List Nat → Prop} (y : List Nat) (hy : y ≠ []) (h0 : P []) (hit : ∀ l, y.isPrefixOf l = true → P (l.drop y.length) → P l) (miss : ∀ c r, y.isPrefixOf (c :: r) = false → P r → P (c :: r)) (l : List Nat) : P l := by
  have h : ∀ n l, List.length l ≤ n → P l := by
    intro n
    induction n with
    | zero => intro l hl; obtain rfl : l = [] := List.length_eq_zero_iff.mp (by omega); exact h0
    | succ n ih =>
      intro l hl
      cases l with
      | nil => exact h0
      | cons c r =>
        have hyl : 0 < y.length := List.length_pos_iff.mpr hy
        cases hp : y.isPrefixOf (c :: r) with
        | true => exact hit _ hp (ih _ (by rw [List.length_drop]; omega))
        | false => exact miss c r hp (ih _ (by simp at hl; omega))
  exact h _ l (Nat.le_refl _)
theorem pre_of {y l : List Nat} (h : y.isPrefixOf l = true) : l = y ++ l.drop y.length := by
  obtain ⟨r, rfl⟩ := List.isPrefixOf_iff_prefix.mp h
  simp
theorem consHead_len {c : Nat} {ps : List (List Nat)} (h : ps ≠ []) : (consHead c ps).length = ps.length := by
  cases ps with
  | nil => exact absurd rfl h
  | cons p r => rfl
theorem consHead_flat (c : Nat) (ps : List (List Nat)) : (consHead c ps).flatten = c :: ps.flatten := by
  cases ps <;> rfl
theorem spl_len (y l : List Nat) (hy : y ≠ []) : (spl y l).length ≤ l.length + 1 := by
  refine spl_ind (P := fun l => (spl y l).length ≤ l.length + 1) y hy ?_ ?_ ?_ l
  · rw [spl_nil]; exact Nat.le_refl _
  · intro l hp ih
    have hyl : 0 < y.length := List.length_pos_iff.mpr hy
    have := congrArg List.length (pre_of hp)
    rw [List.length_append] at this
    rw [spl_hit hy hp, List.length_cons]; omega
  · intro c r hp ih
    rw [spl_miss hp, consHead_len (spl_ne y r), List.length_cons]; omega
theorem spl_flat (y l : List Nat) (hy : y ≠ []) : (spl y l).flatten.length ≤ l.length := by
  refine spl_ind (P := fun l => (spl y l).flatten.length ≤ l.length) y hy ?_ ?_ ?_ l
  · rw [spl_nil]; exact Nat.le_refl _
  · intro l hp ih
    rw [spl_hit hy hp, List.flatten_cons, List.nil_append]
    rw [List.length_drop] at ih; omega
  · intro c r hp ih
    rw [spl_miss hp, consHead_flat, List.length_cons, List.length_cons]; omega
theorem jn_consHead (sep : List Nat) (c : Nat) {ps : List (List Nat)} (h : ps ≠ []) : jn sep (consHead c ps) = c :: jn sep ps := by
  cases ps with
  | nil => exact absurd rfl h
  | cons p r =>
    by_cases hr : r = []
    · subst hr; rfl
    · rw [consHead, jn_cons sep _ r hr, jn_cons sep _ r hr]; rfl
theorem jn_spl (y l : List Nat) (hy : y ≠ []) : jn y (spl y l) = l := by
  refine spl_ind (P := fun l => jn y (spl y l) = l) y hy ?_ ?_ ?_ l
  · rw [spl_nil]; rfl
  · intro l hp ih
    rw [spl_hit hy hp, jn_cons y _ _ (spl_ne y _), ih]
    exact (pre_of hp).symm
  · intro c r hp ih
    rw [spl_miss hp, jn_consHead y c (spl_ne y r), ih]
theorem dl_len : ∀ l : List Nat, (dl l).length ≤ l.length + 1
  | [] => by simp [dl]
  | [c] => by unfold dl; split <;> simp
  | [c, d] => by have := dl_len [d]; unfold dl; simp only [List.length_cons, List.length_nil] at *; omega
  | c :: a :: b :: r => by
    unfold dl
    split
    · have := dl_len r; simp only [List.length_cons]; omega
    · have := dl_len (a :: b :: r); simp only [List.length_cons] at *; omega
theorem rst_len (l : List Nat) : (rst l).length ≤ l.length := by unfold rst; rw [List.length_take]; omega
theorem decAll_len (l : List Nat) : (decAll l).length ≤ 2 * l.length := by
  have h : ∀ ls : List (List Nat), (ls.flatMap fun x => dl (rst x)).length ≤ ls.flatten.length + ls.length := by
    intro ls
    induction ls with
    | nil => simp
    | cons x r ih =>
      have := dl_len (rst x); have := rst_len x
      rw [List.flatMap_cons, List.length_append, List.flatten_cons, List.length_append, List.length_cons]; omega
  have := h (lns l); have := lns_flat l; have := lns_len l
  unfold decAll; omega

/-! tokens -/
def tokB (t : List Nat) (v : Nat) : Bool := match t with
  | [c] => c == v && c != 61
  | [a, b, c] => a == 61 && isHex b && isHex c && (16 * hexVal b + hexVal c == v)
  | _ => false
theorem tok_cases {t : List Nat} {v : Nat} (h : tokB t v = true) : (t = [v] ∧ v ≠ 61) ∨ ∃ b c, t = [61, b, c] ∧ isHex b = true ∧ isHex c = true ∧ 16 * hexVal b + hexVal c = v := by
  unfold tokB at h
  split at h
  · simp only [Bool.and_eq_true, beq_iff_eq, bne_iff_ne] at h
    exact .inl ⟨by rw [h.1], h.1 ▸ h.2⟩
  · simp only [Bool.and_eq_true, beq_iff_eq] at h
    exact .inr ⟨_, _, by rw [h.1.1.1], h.1.1.2, h.1.2, h.2⟩
  · cases h
theorem unq_tok {t : List Nat} {v : Nat} (h : tokB t v = true) (r : List Nat) : unq (t ++ r) = v :: unq r := by
  rcases tok_cases h with ⟨rfl, hv⟩ | ⟨b, c, rfl, hb, hc, rfl⟩
  · refine unq_skip ?_
    cases r with
    | nil => rfl
    | cons a r => cases r with
      | nil => rfl
      | cons b r => simp [hasEsc, hv]
  · exact unq_hit hb hc
theorem dl_tok {t : List Nat} {v : Nat} (h : tokB t v = true) (r : List Nat) : dl (t ++ r) = v :: dl r := by
  rcases tok_cases h with ⟨rfl, hv⟩ | ⟨b, c, rfl, hb, hc, rfl⟩
  · exact dl_plain hv
  · exact dl_hit hb hc
theorem unq_toks {h : Nat → List Nat} : ∀ (l r : List Nat), (∀ c ∈ l, tokB (h c) c = true) → unq (l.flatMap h ++ r) = l ++ unq r
  | [], r, _ => rfl
  | c :: l, r, hc => by
    rw [List.flatMap_cons, List.append_assoc, unq_tok (hc c (.head _)), unq_toks l r fun d hd => hc d (.tail _ hd)]; rfl
theorem dl_toks {h : Nat → List Nat} : ∀ (l r : List Nat), (∀ c ∈ l, tokB (h c) c = true) → dl (l.flatMap h ++ r) = l ++ dl r
  | [], r, _ => rfl
  | c :: l, r, hc => by
    rw [List.flatMap_cons, List.append_assoc, dl_tok (hc c (.head _)), dl_toks l r fun d hd => hc d (.tail _ hd)]; rfl
theorem rep1_flat (c : Nat) (z : List Nat) (l : List Nat) (h : Nat → List Nat) : rep1 c z (l.flatMap h) = l.flatMap fun x => rep1 c z (h x) := by
  unfold rep1; rw [List.flatMap_assoc]

def lowH : List Nat := [48, 49, 50, 51, 52, 53, 54, 55, 56, 57, 97, 98, 99, 100, 101, 102]
def uppH : List Nat := [48, 49, 50, 51, 52, 53, 54, 55, 56, 57, 65, 66, 67, 68, 69, 70]
def brk : List Nat := [61, 10, 13, 11, 12, 28, 29, 30, 133]
/-- one spelling of a sign -/
def sp (e f g : List Nat) (c : Nat) : List Nat := if c ∈ e then [61] ++ [f.getD (c / 16) 0] ++ [g.getD (c % 16) 0] else [c]
structure Spell (e f g l : List Nat) : Prop where
  e : ∀ c ∈ l, c = 61 ∨ isLB c = true → c ∈ e
  f : f = lowH ∨ f = uppH
  g : g = lowH ∨ g = uppH
  l : ∀ c ∈ l, c < 256
def chain1 (t : List Nat) : List Nat := rep1 95 [32] (rep1 32 [95] (rep1 95 [61, 53, 70] t))
def okSp (t : List Nat) (c : Nat) : Bool := tokB t c && t.all (fun x => !isLB x) && tokB (chain1 t) c
theorem sp_ok {e f g l : List Nat} (h : Spell e f g l) : ∀ c ∈ l, okSp (sp e f g c) c = true := by
  intro c hc
  have h256 := h.l c hc
  unfold sp
  split
  · rcases h.f with rfl | rfl <;> rcases h.g with rfl | rfl
    · exact (show ∀ c < 256, okSp ([61] ++ [lowH.getD (c / 16) 0] ++ [lowH.getD (c % 16) 0]) c = true by decide +kernel) c h256
    · exact (show ∀ c < 256, okSp ([61] ++ [lowH.getD (c / 16) 0] ++ [uppH.getD (c % 16) 0]) c = true by decide +kernel) c h256
    · exact (show ∀ c < 256, okSp ([61] ++ [uppH.getD (c / 16) 0] ++ [lowH.getD (c % 16) 0]) c = true by decide +kernel) c h256
    · exact (show ∀ c < 256, okSp ([61] ++ [uppH.getD (c / 16) 0] ++ [uppH.getD (c % 16) 0]) c = true by decide +kernel) c h256
  · rename_i hne
    have hn : c ≠ 61 ∧ isLB c = false := by
      constructor
      · intro h0; exact hne (h.e c hc (.inl h0))
      · cases hb : isLB c with
        | false => rfl
        | true => exact absurd (h.e c hc (.inr hb)) hne
    exact (show ∀ c < 256, c ≠ 61 ∧ isLB c = false → okSp [c] c = true by decide +kernel) c h256 hn
theorem law1 {e f g l : List Nat} (h : Spell e f g l) : unq (rep1 95 [32] (rep1 32 [95] (rep1 95 [61, 53, 70] (l.flatMap (sp e f g))))) = l := by
  rw [rep1_flat, rep1_flat, rep1_flat]
  have := unq_toks (h := fun c => chain1 (sp e f g c)) l [] fun c hc => by
    have := sp_ok h c hc
    simp only [okSp, Bool.and_eq_true] at this
    exact this.2
  rw [List.append_nil, show unq [] = [] from rfl, List.append_nil] at this
  exact this
/-! lines -/
theorem lns_line : ∀ (x r : List Nat), (∀ c ∈ x, isLB c = false) → lns (x ++ 10 :: r) = x :: lns r
  | [], r, _ => by
    rw [List.nil_append, lns_brk (by decide)]; rfl
  | c :: x, r, h => by
    rw [List.cons_append, lns_go (h c (.head _)), lns_line x r fun d hd => h d (.tail _ hd)]; rfl
theorem lns_one : ∀ (x : List Nat), x ≠ [] → (∀ c ∈ x, isLB c = false) → lns x = [x]
  | [], h, _ => absurd rfl h
  | [c], _, h => by rw [lns_go (h c (.head _)), lns_nil]; rfl
  | c :: d :: r, _, h => by rw [lns_go (h c (.head _)), lns_one (d :: r) (by simp) fun x hx => h x (.tail _ hx)]; rfl
theorem rst_blank (x : List Nat) : rst (x ++ [61] ++ [32, 9]) = x ++ [61] := by
  unfold rst
  have e : ((x ++ [61] ++ [32, 9]).reverse.takeWhile Unicode.isSpace) = [9, 32] := by
    rw [List.reverse_append, List.reverse_append]
    show List.takeWhile Unicode.isSpace (9 :: 32 :: 61 :: x.reverse) = _
    rw [List.takeWhile_cons_of_pos (by decide +kernel), List.takeWhile_cons_of_pos (by decide +kernel), List.takeWhile_cons_of_neg (by decide +kernel)]
  have e3 : (x ++ [61] ++ [32, 9]).length - ([9, 32] : List Nat).length = (x ++ [61]).length := by simp
  rw [e, e3]
  exact List.take_left
theorem rst_id {x : List Nat} (h : ∀ c ∈ x.getLast?, Unicode.isSpace c = false) : rst x = x := by
  unfold rst
  have e : (x.reverse.takeWhile Unicode.isSpace) = [] := by
    cases hr : x.reverse with
    | nil => rfl
    | cons a r =>
      have : x.getLast? = some a := by rw [← List.head?_reverse, hr]; rfl
      rw [List.takeWhile_cons_of_neg (by rw [h a this]; exact Bool.false_ne_true)]
  rw [e]; simp
theorem jn_snoc (sep q : List Nat) : ∀ ps : List (List Nat), jn sep (ps ++ [q]) = (ps.flatMap (· ++ sep)) ++ q
  | [] => rfl
  | p :: r => by
    rw [List.cons_append, jn_cons sep p _ (by simp), jn_snoc sep q r, List.flatMap_cons]; simp
theorem law2 {e f g l : List Nat} (h : Spell e f g l) : dec (jn [61, 32, 9, 10] (l.map (sp e f g) ++ [[10]])) = l ++ [10] := by
  rw [jn_snoc, List.flatMap_map]
  have hl : ∀ m : List Nat, (∀ c ∈ m, okSp (sp e f g c) c = true) → decAll (m.flatMap (fun c => sp e f g c ++ [61, 32, 9, 10]) ++ [10]) = m ++ [10] := by
    intro m
    induction m with
    | nil => intro _; unfold decAll; rw [List.flatMap_nil, List.nil_append, lns_brk (by decide)]; simp [lns_nil, rst, dl]
    | cons c r ih =>
      intro hm
      have hc := hm c (.head _)
      simp only [okSp, Bool.and_eq_true] at hc
      have hnb : ∀ x ∈ sp e f g c ++ [61] ++ [32, 9], isLB x = false := by
        intro x hx
        rcases List.mem_append.mp hx with hx | hx
        · rcases List.mem_append.mp hx with hx | hx
          · have := List.all_eq_true.mp hc.1.2 x hx; simpa using this
          · rw [List.mem_singleton.mp hx]; decide
        · rcases List.mem_cons.mp hx with rfl | hx
          · decide
          · rw [List.mem_singleton.mp hx]; decide
      have ih := ih fun d hd => hm d (.tail _ hd)
      unfold decAll at ih ⊢
      rw [List.flatMap_cons, show sp e f g c ++ [61, 32, 9, 10] ++ r.flatMap (fun c => sp e f g c ++ [61, 32, 9, 10]) ++ [10] = (sp e f g c ++ [61] ++ [32, 9]) ++ 10 :: (r.flatMap (fun c => sp e f g c ++ [61, 32, 9, 10]) ++ [10]) by simp]
      rw [lns_line _ _ hnb, List.flatMap_cons, ih, rst_blank, dl_tok hc.1.1, dl_soft]; rfl
  unfold dec
  rw [if_neg (by simp), hl l (sp_ok h)]
  unfold decEnd
  rw [if_neg (by simp)]
theorem sl_mid {a m b : List Nat} {i j : Nat} (ha : a.length = i) (hb : b.length = j) (hj : 0 < j) : sl (a ++ m ++ b) (some (i : Int)) (some (-(j : Int))) = m := by
  unfold sl
  have c1 : clip (a ++ m ++ b).length 0 (some (i : Int)) = i := by simp only [clip, List.length_append]; omega
  have c2 : clip (a ++ m ++ b).length (a ++ m ++ b).length (some (-(j : Int))) = i + m.length := by simp only [clip, List.length_append]; omega
  rw [c1, c2, List.append_assoc, ← ha, List.drop_left, show a.length + m.length - a.length = m.length by omega, List.take_left]
def okH (c : Nat) : Bool := tokB (rep1 95 [61, 50, 48] (hmap c)) c && (rep1 95 [61, 50, 48] (hmap c)).all (fun x => !isLB x && !Unicode.isSpace x)
theorem hmap_ok : ∀ c < 256, okH c = true := by decide +kernel
theorem law5 {l : List Nat} : (sl (hword l) none (some 6), sl (hword l) (some (-2)) none) = if l = [] then ([], []) else ([61, 63, 120, 63, 113, 63], [63, 61]) := by
  unfold hword
  split
  · rfl
  · refine Prod.ext ?_ ?_
    · unfold sl
      have c2 : clip ([61, 63, 120, 63, 113, 63] ++ l.flatMap hmap ++ [63, 61]).length ([61, 63, 120, 63, 113, 63] ++ l.flatMap hmap ++ [63, 61]).length (some 6) = 6 := by simp only [clip, List.length_append, List.length_cons, List.length_nil]; omega
      rw [c2]; simp [clip]
    · unfold sl
      have c1 : clip ([61, 63, 120, 63, 113, 63] ++ l.flatMap hmap ++ [63, 61]).length 0 (some (-2)) = ([61, 63, 120, 63, 113, 63] ++ l.flatMap hmap).length := by simp only [clip, List.length_append, List.length_cons, List.length_nil]; omega
      rw [c1, List.drop_left]; simp [clip]
theorem law6 {l : List Nat} (hl : ∀ c ∈ l, c < 256) : dec (rep1 95 [61, 50, 48] (sl (hword l) (some 6) (some (-2)))) = l := by
  by_cases h0 : l = []
  · subst h0; rfl
  · have e : sl (hword l) (some 6) (some (-2)) = l.flatMap hmap := by
      unfold hword; rw [if_neg h0]
      exact sl_mid (a := [61, 63, 120, 63, 113, 63]) (b := [63, 61]) (i := 6) (j := 2) rfl rfl (by decide)
    rw [e, rep1_flat]
    have hok : ∀ c ∈ l, tokB (rep1 95 [61, 50, 48] (hmap c)) c = true ∧ ∀ x ∈ rep1 95 [61, 50, 48] (hmap c), isLB x = false ∧ Unicode.isSpace x = false := by
      intro c hc
      have := hmap_ok c (hl c hc)
      simp only [okH, Bool.and_eq_true] at this
      refine ⟨this.1, fun x hx => ?_⟩
      have := List.all_eq_true.mp this.2 x hx
      simpa using this
    have hall : ∀ x ∈ l.flatMap (fun c => rep1 95 [61, 50, 48] (hmap c)), isLB x = false ∧ Unicode.isSpace x = false := by
      intro x hx
      obtain ⟨c, hc, hx⟩ := List.mem_flatMap.mp hx
      exact (hok c hc).2 x hx
    have hdl := dl_toks (h := fun c => rep1 95 [61, 50, 48] (hmap c)) l [] fun c hc => (hok c hc).1
    rw [List.append_nil] at hdl
    have hne : l.flatMap (fun c => rep1 95 [61, 50, 48] (hmap c)) ≠ [] := by
      intro h
      rw [h] at hdl
      have := congrArg List.length hdl
      cases l with
      | nil => exact h0 rfl
      | cons a r => simp [dl] at this
    generalize l.flatMap (fun c => rep1 95 [61, 50, 48] (hmap c)) = x at *
    have hlast : ∀ c ∈ x.getLast?, isLB c = false ∧ Unicode.isSpace c = false := fun c hc => hall c (List.mem_of_getLast? hc)
    have hda : decAll x = l ++ [10] := by
      unfold decAll
      rw [lns_one x hne fun c hc => (hall c hc).1]
      simp only [List.flatMap_cons, List.flatMap_nil, List.append_nil]
      rw [rst_id fun c hc => (hlast c hc).2, hdl]; rfl
    unfold dec
    rw [if_neg hne, hda]
    unfold decEnd
    rw [if_pos ?_]
    · simp
    · obtain ⟨c, hc⟩ : ∃ c, x.getLast? = some c := by
        cases e : x.getLast? with
        | none => exact absurd (List.getLast?_eq_none_iff.mp e) hne
        | some c => exact ⟨c, rfl⟩
      have h1 := (hlast c hc).1
      rw [hc]
      have : c ≠ 13 ∧ c ≠ 10 := by
        constructor
        · rintro rfl; revert h1; decide
        · rintro rfl; revert h1; decide
      simp [this.1, this.2]
end Mine
end

section
open PySem PySem.W PyProof.Rows PySem.Calls
set_option Elab.async false
set_option maxRecDepth 100000
namespace Mine
/-- the text with LF for each line end -/
def nrm (l : List Nat) : List Nat := jn [10] (spl [13] (jn [10] (spl [13, 10] l)))
/-- its rows -/
def rws : List Nat → List (List Nat)
  | [] => [[]]
  | [c] => if c = 13 ∨ c = 10 then [[], []] else [[c]]
  | c :: d :: r => if c = 13 ∧ d = 10 then [] :: rws r else if c = 13 ∨ c = 10 then [] :: rws (d :: r) else consHead c (rws (d :: r))
theorem rws_ne : ∀ l : List Nat, rws l ≠ []
  | [] => by simp [rws]
  | [c] => by unfold rws; split <;> simp
  | c :: d :: r => by
    unfold rws
    split
    · simp
    · split
      · simp
      · cases h : rws (d :: r) <;> simp [consHead]
theorem rws_nil : rws [] = [[]] := rfl
theorem rws_crlf (r : List Nat) : rws (13 :: 10 :: r) = [] :: rws r := by rw [rws, if_pos ⟨rfl, rfl⟩]
theorem rws_brk {c : Nat} {r : List Nat} (h : c = 13 ∨ c = 10) (hn : ¬(c = 13 ∧ r.head? = some 10)) : rws (c :: r) = [] :: rws r := by
  cases r with
  | nil => simp only [rws, if_pos h]
  | cons d r => rw [rws, if_neg (by simpa using hn), if_pos h]
theorem rws_go {c : Nat} {r : List Nat} (h : ¬(c = 13 ∨ c = 10)) : rws (c :: r) = consHead c (rws r) := by
  cases r with
  | nil => simp only [rws, if_neg h]; rfl
  | cons d r => rw [rws, if_neg (fun e => h (.inl e.1)), if_neg h]
theorem rws_ind {P : List Nat → Prop} (h0 : P []) (hcrlf : ∀ r, P r → P (13 :: 10 :: r)) (hbrk : ∀ c r, (c = 13 ∨ c = 10) → ¬(c = 13 ∧ r.head? = some 10) → P r → P (c :: r)) (hgo : ∀ c r, ¬(c = 13 ∨ c = 10) → P r → P (c :: r)) (l : List Nat) : P l := by
  have h : ∀ n l, List.length l ≤ n → P l := by
    intro n
    induction n with
    | zero => intro l hl; obtain rfl : l = [] := List.length_eq_zero_iff.mp (by omega); exact h0
    | succ n ih =>
      intro l hl
      cases l with
      | nil => exact h0
      | cons c r =>
        simp only [List.length_cons] at hl
        by_cases h1 : c = 13 ∧ r.head? = some 10
        · obtain ⟨rfl, hr⟩ := h1
          cases r with
          | nil => cases hr
          | cons d r =>
            have : d = 10 := by simpa using hr
            subst this
            exact hcrlf r (ih r (by simp only [List.length_cons] at hl; omega))
        · by_cases h2 : c = 13 ∨ c = 10
          · exact hbrk c r h2 h1 (ih r (by omega))
          · exact hgo c r h2 (ih r (by omega))
  exact h _ l (Nat.le_refl _)
theorem jn_empty (sep : List Nat) {ps : List (List Nat)} (h : ps ≠ []) : jn sep ([] :: ps) = sep ++ jn sep ps := by rw [jn_cons sep [] ps h]; rfl
theorem q_hit (r : List Nat) : jn [10] (spl [13, 10] (13 :: 10 :: r)) = 10 :: jn [10] (spl [13, 10] r) := by
  rw [spl_hit (by simp) (by simp [List.isPrefixOf]), jn_empty _ (spl_ne _ _)]; rfl
theorem q_miss {c : Nat} {r : List Nat} (h : ¬(c = 13 ∧ r.head? = some 10)) : jn [10] (spl [13, 10] (c :: r)) = c :: jn [10] (spl [13, 10] r) := by
  have hp : ([13, 10] : List Nat).isPrefixOf (c :: r) = false := by
    cases r with
    | nil => simp [List.isPrefixOf]
    | cons d r =>
      simp only [List.head?_cons, Option.some.injEq, not_and] at h
      by_cases hc : c = 13
      · have := h hc; simp [List.isPrefixOf, hc, Ne.symm this]
      · simp [List.isPrefixOf, Ne.symm hc]
  rw [spl_miss hp, jn_consHead _ _ (spl_ne _ _)]
theorem nrm_rows (l : List Nat) : nrm l = jn [10] (rws l) := by
  unfold nrm
  rw [rep1_eq]
  refine rws_ind (P := fun l => rep1 13 [10] (jn [10] (spl [13, 10] l)) = jn [10] (rws l)) ?_ ?_ ?_ ?_ l
  · rw [spl_nil]; rfl
  · intro r ih
    rw [q_hit, rws_crlf, jn_empty _ (rws_ne r), ← ih]; rfl
  · intro c r h1 h2 ih
    rw [q_miss h2, rws_brk h1 h2, jn_empty _ (rws_ne r), ← ih]
    rcases h1 with rfl | rfl <;> rfl
  · intro c r h1 ih
    rw [q_miss (fun e => h1 (.inl e.1)), rws_go h1, jn_consHead _ _ (rws_ne r), ← ih]
    simp only [not_or] at h1
    show (if c = 13 then [10] else [c]) ++ _ = _
    rw [if_neg h1.1]; rfl
/-! the encoded rows -/
def appHead (t : List Nat) : List (List Nat) → List (List Nat)
  | [] => [t]
  | p :: ps => (t ++ p) :: ps
theorem lns_app : ∀ (t r : List Nat), t ≠ [] → (∀ c ∈ t, isLB c = false) → lns (t ++ r) = appHead t (lns r)
  | [], _, h, _ => absurd rfl h
  | [c], r, _, h => by
    rw [List.cons_append, List.nil_append, lns_go (h c (.head _))]
    cases lns r <;> rfl
  | c :: d :: t, r, _, h => by
    rw [List.cons_append, lns_go (h c (.head _)), lns_app (d :: t) r (by simp) fun x hx => h x (.tail _ hx)]
    cases lns r <;> rfl
def bm (r : List Nat) : List Nat := r.flatMap bmap
def okB (c : Nat) : Bool := (c == 10 || c == 13) || ((bmap c).all (fun x => !isLB x) && (bmap c) != [])
theorem bmap_ok : ∀ c < 256, okB c = true := by decide +kernel
theorem bmap_nl {c : Nat} (hc : c < 256) (h : ¬(c = 13 ∨ c = 10)) : bmap c ≠ [] ∧ ∀ x ∈ bmap c, isLB x = false := by
  have := bmap_ok c hc
  simp only [okB, Bool.or_eq_true, Bool.and_eq_true, beq_iff_eq, bne_iff_ne] at this
  rcases this with h1 | h1
  · exact absurd (h1.symm) (by simpa [or_comm] using h)
  · exact ⟨h1.2, fun x hx => by have := List.all_eq_true.mp h1.1 x hx; simpa using this⟩
theorem bmap_head {d : Nat} (hd : d < 256) (h : d ≠ 10) (r : List Nat) : (bmap d ++ r).head? ≠ some 10 := by
  have : ∀ d < 256, d ≠ 10 → (bmap d).head? ≠ some 10 ∧ bmap d ≠ [] := by decide +kernel
  obtain ⟨h1, h2⟩ := this d hd h
  cases e : bmap d with
  | nil => exact absurd e h2
  | cons a t => rw [e] at h1; simpa using h1
def tl (B : List Nat) : List (List Nat) := if B.getLast? = some 13 ∨ B.getLast? = some 10 then [[]] else []
theorem bm_ne {r : List Nat} (h : r ≠ []) : bm r ≠ [] := by
  cases r with
  | nil => exact absurd rfl h
  | cons c r => unfold bm; rw [List.flatMap_cons]; unfold bmap; split <;> simp [esc]
theorem last_app {a b : List Nat} (h : b ≠ []) : (a ++ b).getLast? = b.getLast? := by
  rw [List.getLast?_append]
  cases e : b.getLast? with
  | none => exact absurd (List.getLast?_eq_none_iff.mp e) h
  | some c => rfl
theorem lns_ne {B : List Nat} (h : B ≠ []) : lns B ≠ [] := by
  cases B with
  | nil => exact absurd rfl h
  | cons c r =>
    cases hc : isLB c with
    | true => rw [lns_brk hc]; simp
    | false => rw [lns_go hc]; cases lns r <;> simp [consHead]
theorem appHead_app {t : List Nat} {ps qs : List (List Nat)} (h : ps ≠ []) : appHead t ps ++ qs = appHead t (ps ++ qs) := by
  cases ps with
  | nil => exact absurd rfl h
  | cons p r => rfl
theorem rows_enc (l : List Nat) : (∀ c ∈ l, c < 256) → l ≠ [] → lns (bm l) ++ tl (bm l) = (rws l).map bm := by
  refine rws_ind (P := fun l => (∀ c ∈ l, c < 256) → l ≠ [] → lns (bm l) ++ tl (bm l) = (rws l).map bm) ?_ ?_ ?_ ?_ l
  · intro _ h; exact absurd rfl h
  · intro r ih hl _
    have e : bm (13 :: 10 :: r) = 13 :: 10 :: bm r := rfl
    rw [e, rws_crlf, lns_brk (by decide)]
    show [] :: lns (if (13 == 13 && (10 :: bm r).head? == some 10) = true then (10 :: bm r).drop 1 else _) ++ _ = _
    rw [if_pos (by simp)]
    by_cases hr : r = []
    · subst hr
      show [] :: lns [] ++ tl [13, 10] = _
      rw [lns_nil]; rfl
    · have := ih (fun c hc => hl c (.tail _ (.tail _ hc))) hr
      rw [List.map_cons, ← this]
      have et : tl (13 :: 10 :: bm r) = tl (bm r) := by
        unfold tl
        rw [show 13 :: 10 :: bm r = [13, 10] ++ bm r from rfl, last_app (bm_ne hr)]
      rw [et]; rfl
  · intro c r h1 h2 ih hl _
    have e : bm (c :: r) = c :: bm r := by rcases h1 with rfl | rfl <;> rfl
    have hlb : isLB c = true := by rcases h1 with rfl | rfl <;> decide
    rw [e, rws_brk h1 h2, lns_brk hlb]
    have hno : (c == 13 && (bm r).head? == some 10) = false := by
      cases hc : (c == 13) with
      | false => rfl
      | true =>
        have hc13 : c = 13 := by simpa using hc
        cases r with
        | nil => rfl
        | cons d r =>
          have hd : d ≠ 10 := fun h => h2 ⟨hc13, by rw [h]; rfl⟩
          have := bmap_head (hl d (.tail _ (.head _))) hd (bm r)
          show ((bmap d ++ bm r).head? == some 10) = false
          simpa using this
    rw [if_neg (by rw [hno]; exact Bool.false_ne_true)]
    by_cases hr : r = []
    · subst hr
      have et : tl (c :: bm []) = [[]] := by unfold tl; rcases h1 with rfl | rfl <;> rfl
      rw [et]
      show [] :: lns [] ++ [[]] = _
      rw [lns_nil]; rfl
    · have := ih (fun d hd => hl d (.tail _ hd)) hr
      rw [List.map_cons, ← this]
      have et : tl (c :: bm r) = tl (bm r) := by
        unfold tl
        rw [show c :: bm r = [c] ++ bm r from rfl, last_app (bm_ne hr)]
      rw [et]; rfl
  · intro c r h1 ih hl _
    obtain ⟨hne, hnb⟩ := bmap_nl (hl c (.head _)) h1
    have e : bm (c :: r) = bmap c ++ bm r := by unfold bm; rw [List.flatMap_cons]
    rw [e, rws_go h1, lns_app _ _ hne hnb]
    by_cases hr : r = []
    · subst hr
      show appHead (bmap c) (lns []) ++ tl (bmap c ++ []) = _
      rw [lns_nil, List.append_nil]
      have et : tl (bmap c) = [] := by
        unfold tl
        rw [if_neg]
        rintro (h | h)
        · have := hnb _ (List.mem_of_getLast? h); revert this; decide
        · have := hnb _ (List.mem_of_getLast? h); revert this; decide
      rw [et]
      show [bmap c] ++ [] = [bm [c]]
      unfold bm; simp
    · have := ih (fun d hd => hl d (.tail _ hd)) hr
      have et : tl (bmap c ++ bm r) = tl (bm r) := by unfold tl; rw [last_app (bm_ne hr)]
      rw [et, appHead_app (lns_ne (bm_ne hr)), this]
      cases er : rws r with
      | nil => exact absurd er (rws_ne r)
      | cons p ps =>
        show (bmap c ++ bm p) :: ps.map bm = bm (c :: p) :: ps.map bm
        unfold bm; rw [List.flatMap_cons]
theorem wps_nil (M : Nat) : wps M [] = [[]] := by rw [wps_end (by simp)]; rfl
theorem benc_rows {M : Nat} {l : List Nat} (hl : ∀ c ∈ l, c < 256) : benc M l = jn [10] ((rws l).flatMap fun r => wps M (bm r)) := by
  unfold benc
  by_cases h0 : l = []
  · subst h0
    rw [if_pos rfl, rws_nil]
    show [] = jn [10] (wps M [] ++ [])
    rw [wps_nil]; rfl
  · rw [if_neg h0]
    have h := rows_enc l hl h0
    have e : bpcs M (bm l) = (lns (bm l) ++ tl (bm l)).flatMap (wps M) := by
      unfold bpcs tl
      rw [List.flatMap_append]
      split
      · show _ = _ ++ (wps M [] ++ []); rw [wps_nil]; rfl
      · rfl
    show jn [10] (bpcs M (bm l)) = _
    rw [e, h, List.flatMap_map]
end Mine
end

section
open PySem PySem.W PyProof.Rows PySem.Calls
set_option Elab.async false
set_option maxRecDepth 100000
namespace Mine
/-- what header_decode reads from a stretch, =5F written for each _ -/
def dcd (p : List Nat) : List Nat := unq (rep1 95 [32] (rep1 95 [61, 53, 70] p))
theorem rep_rep (p : List Nat) : rep1 95 [32] (rep1 95 [61, 53, 70] p) = rep1 95 [61, 53, 70] p := by
  unfold rep1
  rw [List.flatMap_assoc]
  congr 1
  funext x
  split
  · rfl
  · rename_i h
    show (if x = 95 then [32] else [x]) ++ [] = [x]
    rw [if_neg h]; rfl
theorem dcd_eq (p : List Nat) : dcd p = unq (rep1 95 [61, 53, 70] p) := by unfold dcd; rw [rep_rep]
theorem rep_app (c : Nat) (z a b : List Nat) : rep1 c z (a ++ b) = rep1 c z a ++ rep1 c z b := by unfold rep1; rw [List.flatMap_append]
/-- one token of an encoded text -/
def okT (t : List Nat) (v : Nat) : Bool := (match t with
  | [c] => c != 61
  | [a, b, c] => a == 61 && isHex b && isHex c
  | _ => false) && tokB (rep1 95 [61, 53, 70] t) v
theorem okT_cases {t : List Nat} {v : Nat} (h : okT t v = true) : ((∃ c, t = [c] ∧ c ≠ 61) ∨ ∃ b c, t = [61, b, c] ∧ isHex b = true ∧ isHex c = true) ∧ tokB (rep1 95 [61, 53, 70] t) v = true := by
  unfold okT at h
  rw [Bool.and_eq_true] at h
  refine ⟨?_, h.2⟩
  have h1 := h.1
  split at h1
  · exact .inl ⟨_, rfl, by simpa using h1⟩
  · simp only [Bool.and_eq_true, beq_iff_eq] at h1
    exact .inr ⟨_, _, by rw [h1.1.1], h1.1.2, h1.2⟩
  · cases h1
inductive Sm : List Nat → List Nat → Prop
  | nil : Sm [] []
  | soft {x vs : List Nat} : Sm x vs → Sm ([61, 10] ++ x) vs
  | tok {t x vs : List Nat} {v : Nat} : okT t v = true → Sm x vs → Sm (t ++ x) (v :: vs)
theorem Sm.app {x vs y ws : List Nat} (h : Sm x vs) (h2 : Sm y ws) : Sm (x ++ y) (vs ++ ws) := by
  induction h with
  | nil => exact h2
  | soft _ ih => rw [List.append_assoc]; exact .soft ih
  | tok ht _ ih => rw [List.append_assoc, List.cons_append]; exact .tok ht ih
theorem not_hex_10 {c : Nat} (h : isHex c = true) : c ≠ 10 ∧ c ≠ 61 := by
  constructor
  · rintro rfl; revert h; decide
  · rintro rfl; revert h; decide
theorem spl_plain {c : Nat} (h : c ≠ 61) (r : List Nat) : spl [61, 10] (c :: r) = consHead c (spl [61, 10] r) := spl_miss (by simp [List.isPrefixOf, Ne.symm h])
theorem spl_tok {t : List Nat} {v : Nat} (h : okT t v = true) (r : List Nat) : spl [61, 10] (t ++ r) = appHead t (spl [61, 10] r) := by
  have hne := spl_ne [61, 10] r
  rcases (okT_cases h).1 with ⟨c, rfl, hc⟩ | ⟨b, c, rfl, hb, hc⟩
  · rw [List.cons_append, List.nil_append, spl_plain hc]
    cases e : spl [61, 10] r with
    | nil => exact absurd e hne
    | cons p ps => rfl
  · show spl [61, 10] (61 :: b :: c :: r) = _
    rw [spl_miss (by simp [List.isPrefixOf, Ne.symm (not_hex_10 hb).1]), spl_plain (not_hex_10 hb).2, spl_plain (not_hex_10 hc).2]
    cases e : spl [61, 10] r with
    | nil => exact absurd e hne
    | cons p ps => rfl
theorem Sm.reads {x vs : List Nat} (h : Sm x vs) : ((spl [61, 10] x).map dcd).flatten = vs := by
  induction h with
  | nil => rw [spl_nil]; rfl
  | @soft x vs _ ih =>
    rw [spl_hit (by simp) (by simp [List.isPrefixOf])]
    show (dcd [] :: (spl [61, 10] x).map dcd).flatten = _
    rw [List.flatten_cons, ih]; rfl
  | @tok t x vs v ht _ ih =>
    rw [spl_tok ht]
    cases e : spl [61, 10] x with
    | nil => exact absurd e (spl_ne _ _)
    | cons p ps =>
      rw [e] at ih
      show ((dcd (t ++ p)) :: ps.map dcd).flatten = _
      rw [List.map_cons, List.flatten_cons] at ih
      rw [List.flatten_cons, dcd_eq, rep_app, unq_tok (okT_cases ht).2, List.cons_append, ← dcd_eq, ih]
theorem bmap_tok : ∀ c < 256, okT (bmap c) c = true := by decide +kernel
theorem Sm.toks : ∀ r : List Nat, (∀ c ∈ r, c < 256) → Sm (bm r) r
  | [], _ => .nil
  | c :: r, h => by
    have e : bm (c :: r) = bmap c ++ bm r := by unfold bm; rw [List.flatMap_cons]
    rw [e]
    exact .tok (bmap_tok c (h c (.head _))) (Sm.toks r fun d hd => h d (.tail _ hd))
/-- a cut that falls before a = , or not within two signs behind one, splits no token -/
theorem bnd : ∀ (r : List Nat) (k : Nat), (∀ c ∈ r, c < 256) → k ≤ (bm r).length → ((bm r)[k]? = some 61 ∨ (¬(1 ≤ k ∧ (bm r)[k - 1]? = some 61) ∧ ¬(2 ≤ k ∧ (bm r)[k - 2]? = some 61))) →
    ∃ r1 r2, r = r1 ++ r2 ∧ (bm r).take k = bm r1 ∧ (bm r).drop k = bm r2
  | r, 0, _, _, _ => ⟨[], r, rfl, rfl, rfl⟩
  | [], k + 1, _, hk, _ => by simp [bm] at hk
  | c :: r, k + 1, hr, hk, h => by
    have e : bm (c :: r) = bmap c ++ bm r := by unfold bm; rw [List.flatMap_cons]
    have hr' : ∀ d ∈ r, d < 256 := fun d hd => hr d (.tail _ hd)
    have go : ∀ r1 r2, r = r1 ++ r2 → c :: r = (c :: r1) ++ r2 := fun r1 r2 h => by rw [h]; rfl
    have ebm : ∀ r1, bm (c :: r1) = bmap c ++ bm r1 := fun r1 => by unfold bm; rw [List.flatMap_cons]
    rw [e] at hk h ⊢
    rcases (okT_cases (bmap_tok c (hr c (.head _)))).1 with ⟨d, hd, hd61⟩ | ⟨a, b, hd, ha, hb⟩
    · rw [hd] at hk h ⊢
      simp only [List.cons_append, List.nil_append, List.length_cons] at hk h ⊢
      obtain ⟨r1, r2, h1, h2, h3⟩ := bnd r k hr' (by omega) (by
        rcases h with h | ⟨h1, h2⟩
        · exact .inl (by simpa using h)
        · refine .inr ⟨fun ⟨hk1, hx⟩ => h1 ⟨by omega, ?_⟩, fun ⟨hk2, hx⟩ => h2 ⟨by omega, ?_⟩⟩
          · rw [show k + 1 - 1 = (k - 1) + 1 by omega]; simpa using hx
          · rw [show k + 1 - 2 = (k - 2) + 1 by omega]; simpa using hx)
      refine ⟨c :: r1, r2, go _ _ h1, ?_, ?_⟩
      · rw [List.take_succ_cons, h2, ebm, hd]; rfl
      · rw [List.drop_succ_cons, h3]
    · rw [hd] at hk h ⊢
      simp only [List.cons_append, List.nil_append, List.length_cons] at hk h ⊢
      match k, hk, h with
      | 0, _, h =>
        exfalso
        rcases h with h | ⟨h1, _⟩
        · have : a = 61 := by simpa using h
          exact (not_hex_10 ha).2 this
        · exact h1 ⟨by omega, by simp⟩
      | 1, _, h =>
        exfalso
        rcases h with h | ⟨_, h2⟩
        · have : b = 61 := by simpa using h
          exact (not_hex_10 hb).2 this
        · exact h2 ⟨by omega, by simp⟩
      | k + 2, hk, h =>
        obtain ⟨r1, r2, h1, h2, h3⟩ := bnd r k hr' (by omega) (by
          rcases h with h | ⟨h1, h2⟩
          · exact .inl (by simpa using h)
          · refine .inr ⟨fun ⟨hk1, hx⟩ => h1 ⟨by omega, ?_⟩, fun ⟨hk2, hx⟩ => h2 ⟨by omega, ?_⟩⟩
            · rw [show k + 2 + 1 - 1 = (k - 1) + 3 by omega]; simpa using hx
            · rw [show k + 2 + 1 - 2 = (k - 2) + 3 by omega]; simpa using hx)
        refine ⟨c :: r1, r2, go _ _ h1, ?_, ?_⟩
        · rw [ebm, hd, ← h2]; rfl
        · rw [← h3]; rfl
end Mine
end

section
open PySem PySem.W PyProof.Rows PySem.Calls
set_option Elab.async false
set_option maxRecDepth 100000
namespace Mine
theorem cut_rows {M : Nat} {r : List Nat} (hM : 4 ≤ M) (hr : ∀ c ∈ r, c < 256) (h : M + 1 ≤ (bm r).length) : ∃ r1 r2, r = r1 ++ r2 ∧ (bm r).take (wcut M (bm r)) = bm r1 ∧ (bm r).drop (wcut M (bm r)) = bm r2 := by
  have hlo := wcut_lo hM (bm r)
  refine bnd r _ hr (by omega) ?_
  unfold wcut
  split
  · rename_i h1; exact .inl h1
  · rename_i h1
    split
    · rename_i h2; exact .inl h2
    · rename_i h2
      exact .inr ⟨fun ⟨_, hx⟩ => h2 hx, fun ⟨_, hx⟩ => h1 hx⟩
theorem last_blank : ∀ d < 256, (bmap d).getLast? = some 32 ∨ (bmap d).getLast? = some 9 → (d = 32 ∨ d = 9) ∧ bmap d = [d] := by decide +kernel
theorem blank_rows {r : List Nat} (hr : ∀ c ∈ r, c < 256) (h : blankE (bm r) = true) : ∃ r' c, r = r' ++ [c] ∧ (c = 32 ∨ c = 9) ∧ bmap c = [c] ∧ bm r = bm r' ++ [c] := by
  rcases List.eq_nil_or_concat r with rfl | ⟨r', d, rfl⟩
  · cases h
  · rw [List.concat_eq_append] at *
    have e : bm (r' ++ [d]) = bm r' ++ bmap d := by unfold bm; rw [List.flatMap_append]; simp
    have hd : d < 256 := hr d (by simp)
    have hne : bmap d ≠ [] := by unfold bmap; split <;> simp [esc]
    rw [e] at h
    unfold blankE at h
    rw [last_app hne] at h
    have hl : (bmap d).getLast? = some 32 ∨ (bmap d).getLast? = some 9 := by
      cases e2 : (bmap d).getLast? with
      | none => rw [e2] at h; cases h
      | some c =>
        rw [e2] at h
        have : c = 32 ∨ c = 9 := by simpa using h
        rcases this with rfl | rfl
        · exact .inl rfl
        · exact .inr rfl
    obtain ⟨h1, h2⟩ := last_blank d hd hl
    exact ⟨r', d, rfl, h1, h2, by rw [e, h2]⟩
theorem wfin_blank {M : Nat} {a : List Nat} {c : Nat} (h : c = 32 ∨ c = 9) : wfin M (a ++ [c]) = a ++ wq M (a.length + 1) c := by
  unfold wfin
  have hb : blankE (a ++ [c]) = true := by
    unfold blankE
    rw [show (a ++ [c]).getLast? = some c by simp]
    rcases h with rfl | rfl <;> rfl
  rw [if_pos hb]
  simp [List.getLastD_eq_getLast?]
theorem Sm.row {M : Nat} (hM : 4 ≤ M) : ∀ (n : Nat) (r : List Nat), (bm r).length ≤ n → (∀ c ∈ r, c < 256) → Sm (jn [10] (wps M (bm r))) r := by
  intro n
  induction n with
  | zero =>
    intro r hn hr
    have : bm r = [] := List.length_eq_zero_iff.mp (by omega)
    have hr0 : r = [] := by
      cases r with
      | nil => rfl
      | cons c r => exact absurd this (bm_ne (by simp))
    subst hr0
    show Sm (jn [10] (wps M [])) []
    rw [wps_nil]; exact .nil
  | succ n ih =>
    intro r hn hr
    by_cases hgo : M + 1 ≤ (bm r).length
    · obtain ⟨r1, r2, rfl, h2, h3⟩ := cut_rows hM hr hgo
      have hlo := wcut_lo hM (bm (r1 ++ r2))
      have hlen := congrArg List.length h3
      rw [List.length_drop] at hlen
      rw [wps_go hM hgo, h2, h3, jn_cons _ _ _ (wps_ne M _)]
      have := ih r2 (by omega) fun c hc => hr c (List.mem_append.mpr (.inr hc))
      rw [List.append_assoc, List.append_assoc]
      exact (Sm.toks r1 fun c hc => hr c (List.mem_append.mpr (.inl hc))).app (.soft this)
    · rw [wps_end (by omega)]
      show Sm (wfin M (bm r)) r
      cases hb : blankE (bm r) with
      | false => unfold wfin; rw [if_neg (by rw [hb]; exact Bool.false_ne_true)]; exact Sm.toks r hr
      | true =>
        obtain ⟨r', c, rfl, hc, hbc, e⟩ := blank_rows hr hb
        rw [e, wfin_blank hc]
        refine (Sm.toks r' fun d hd => hr d (List.mem_append.mpr (.inl hd))).app ?_
        have t1 : okT (esc c) c = true := by rcases hc with rfl | rfl <;> decide
        have t2 : okT [c] c = true := by rcases hc with rfl | rfl <;> decide
        unfold wq
        split
        · have := Sm.tok t1 Sm.nil; rwa [List.append_nil] at this
        · split
          · exact .tok t2 (.soft .nil)
          · have := Sm.soft (Sm.tok t1 Sm.nil); rwa [List.append_nil] at this
theorem jn_app (sep : List Nat) : ∀ (ps qs : List (List Nat)), ps ≠ [] → qs ≠ [] → jn sep (ps ++ qs) = jn sep ps ++ sep ++ jn sep qs
  | [], _, h, _ => absurd rfl h
  | [p], qs, _, h => jn_cons sep p qs h
  | p :: q :: r, qs, _, h => by
    rw [List.cons_append, jn_cons sep p _ (by simp), jn_app sep (q :: r) qs (by simp) h, jn_cons sep p (q :: r) (by simp)]
    simp
theorem Sm.rows {M : Nat} (hM : 4 ≤ M) : ∀ rs : List (List Nat), rs ≠ [] → (∀ r ∈ rs, ∀ c ∈ r, c < 256) → Sm (jn [10] (rs.flatMap fun r => wps M (bm r))) (jn [10] rs)
  | [], h, _ => absurd rfl h
  | [r], _, h => by
    rw [List.flatMap_cons, List.flatMap_nil, List.append_nil]
    exact Sm.row hM _ r (Nat.le_refl _) (h r (.head _))
  | r :: q :: t, _, h => by
    have hne : ((q :: t).flatMap fun r => wps M (bm r)) ≠ [] := by
      rw [List.flatMap_cons]
      intro h0
      exact wps_ne M (bm q) (List.append_eq_nil_iff.mp h0).1
    rw [List.flatMap_cons, jn_app _ _ _ (wps_ne M _) hne, jn_cons _ r (q :: t) (by simp), List.append_assoc, List.append_assoc]
    exact (Sm.row hM _ r (Nat.le_refl _) (h r (.head _))).app (.tok (by decide) (Sm.rows hM (q :: t) (by simp) fun x hx => h x (.tail _ hx)))
theorem rws_mem (l : List Nat) : ∀ r ∈ rws l, ∀ c ∈ r, c ∈ l ∧ ¬(c = 13 ∨ c = 10) := by
  refine rws_ind (P := fun l => ∀ r ∈ rws l, ∀ c ∈ r, c ∈ l ∧ ¬(c = 13 ∨ c = 10)) ?_ ?_ ?_ ?_ l
  · intro r hr c hc
    rw [rws_nil, List.mem_singleton] at hr
    subst hr; cases hc
  · intro l ih r hr c hc
    rw [rws_crlf] at hr
    rcases List.mem_cons.mp hr with rfl | hr
    · cases hc
    · exact ⟨.tail _ (.tail _ (ih r hr c hc).1), (ih r hr c hc).2⟩
  · intro d l h1 h2 ih r hr c hc
    rw [rws_brk h1 h2] at hr
    rcases List.mem_cons.mp hr with rfl | hr
    · cases hc
    · exact ⟨.tail _ (ih r hr c hc).1, (ih r hr c hc).2⟩
  · intro d l h1 ih r hr c hc
    rw [rws_go h1] at hr
    cases e : rws l with
    | nil => exact absurd e (rws_ne l)
    | cons p ps =>
      rw [e] at hr ih
      rcases List.mem_cons.mp hr with rfl | hr
      · rcases List.mem_cons.mp hc with rfl | hc
        · exact ⟨.head _, h1⟩
        · exact ⟨.tail _ (ih p (.head _) c hc).1, (ih p (.head _) c hc).2⟩
      · exact ⟨.tail _ (ih r (.tail _ hr) c hc).1, (ih r (.tail _ hr) c hc).2⟩
theorem law4 {M : Nat} {l : List Nat} (hM : 4 ≤ M) (hl : ∀ c ∈ l, c < 256) : ((spl [61, 10] (benc M l)).map fun p => unq (rep1 95 [32] (rep1 95 [61, 53, 70] p))).flatten = nrm l := by
  rw [benc_rows hl, nrm_rows]
  exact (Sm.rows hM (rws l) (rws_ne l) fun r hr c hc => hl c (rws_mem l r hr c hc).1).reads
/-! the lines -/
theorem spl10_none : ∀ a : List Nat, 10 ∉ a → spl [10] a = [a]
  | [], _ => spl_nil _
  | c :: a, h => by
    have hc : c ≠ 10 := fun e => h (e ▸ .head _)
    rw [spl_miss (by simp [List.isPrefixOf, Ne.symm hc]), spl10_none a fun hm => h (.tail _ hm)]; rfl
theorem spl10_app : ∀ a b : List Nat, spl [10] (a ++ 10 :: b) = spl [10] a ++ spl [10] b
  | [], b => by rw [List.nil_append, spl_hit (by simp) (by simp [List.isPrefixOf]), spl_nil]; rfl
  | c :: a, b => by
    have ih := spl10_app a b
    by_cases hc : c = 10
    · subst hc
      rw [List.cons_append, spl_hit (by simp) (by simp [List.isPrefixOf]), spl_hit (l := 10 :: a) (by simp) (by simp [List.isPrefixOf])]
      show [] :: spl [10] (a ++ 10 :: b) = _
      rw [ih]; rfl
    · rw [List.cons_append, spl_miss (by simp [List.isPrefixOf, Ne.symm hc]), spl_miss (r := a) (by simp [List.isPrefixOf, Ne.symm hc]), ih]
      cases e : spl [10] a with
      | nil => exact absurd e (spl_ne _ _)
      | cons p ps => rfl
theorem spl10_jn : ∀ ps : List (List Nat), ps ≠ [] → spl [10] (jn [10] ps) = ps.flatMap (spl [10])
  | [], h => absurd rfl h
  | [p], _ => by rw [List.flatMap_cons, List.flatMap_nil, List.append_nil]; rfl
  | p :: q :: r, _ => by
    rw [jn_cons _ p _ (by simp), List.append_assoc]
    show spl [10] (p ++ 10 :: jn [10] (q :: r)) = _
    rw [spl10_app, spl10_jn (q :: r) (by simp)]; rfl
theorem blank_app {a b : List Nat} (h : b ≠ []) : blankE (a ++ b) = blankE b := by unfold blankE; rw [last_app h]
theorem no10 {r : List Nat} (h : ∀ c ∈ r, c < 256 ∧ ¬(c = 13 ∨ c = 10)) : 10 ∉ bm r := by
  intro hm
  obtain ⟨c, hc, hx⟩ := List.mem_flatMap.mp hm
  have := (bmap_nl (h c hc).1 (h c hc).2).2 10 hx
  revert this; decide
theorem row_lines {M : Nat} (hM : 4 ≤ M) : ∀ (n : Nat) (r : List Nat), (bm r).length ≤ n → (∀ c ∈ r, c < 256 ∧ ¬(c = 13 ∨ c = 10)) → ∀ p ∈ wps M (bm r), ∀ q ∈ spl [10] p, q.length ≤ M ∧ blankE q = false := by
  intro n
  induction n with
  | zero =>
    intro r hn hr p hp q hq
    have : bm r = [] := List.length_eq_zero_iff.mp (by omega)
    rw [this, wps_nil, List.mem_singleton] at hp
    subst hp
    rw [spl_nil, List.mem_singleton] at hq
    subst hq
    exact ⟨Nat.zero_le _, rfl⟩
  | succ n ih =>
    intro r hn hr p hp q hq
    have hr1 : ∀ c ∈ r, c < 256 := fun c hc => (hr c hc).1
    have h10 := no10 hr
    by_cases hgo : M + 1 ≤ (bm r).length
    · have hlo := wcut_lo hM (bm r)
      obtain ⟨r1, r2, h1, h2, h3⟩ := cut_rows hM hr1 hgo
      have hlen := congrArg List.length h3
      rw [List.length_drop] at hlen
      rw [wps_go hM hgo, h3] at hp
      rcases List.mem_cons.mp hp with rfl | hp
      · have hno : 10 ∉ (bm r).take (wcut M (bm r)) ++ [61] := by
          intro hm
          rcases List.mem_append.mp hm with hm | hm
          · exact h10 (List.mem_of_mem_take hm)
          · simp at hm
        rw [spl10_none _ hno, List.mem_singleton] at hq
        subst hq
        refine ⟨?_, by rw [blank_app (by simp)]; rfl⟩
        rw [List.length_append, List.length_take]; simp only [List.length_cons, List.length_nil]; omega
      · exact ih r2 (by omega) (fun c hc => hr c (by rw [h1]; exact List.mem_append.mpr (.inr hc))) p hp q hq
    · rw [wps_end (by omega), List.mem_singleton] at hp
      subst hp
      cases hb : blankE (bm r) with
      | false =>
        unfold wfin at hq
        rw [if_neg (by rw [hb]; exact Bool.false_ne_true), spl10_none _ h10, List.mem_singleton] at hq
        subst hq
        exact ⟨by omega, hb⟩
      | true =>
        obtain ⟨r', c, hrc, hc, hbc, e⟩ := blank_rows hr1 hb
        have hl := congrArg List.length e
        rw [List.length_append] at hl
        simp only [List.length_cons, List.length_nil] at hl
        have h10' : 10 ∉ bm r' := fun hm => h10 (by rw [e]; exact List.mem_append.mpr (.inl hm))
        have e1 : 10 ∉ esc c ∧ blankE (esc c) = false := by rcases hc with rfl | rfl <;> decide
        have hc10 : c ≠ 10 := by rcases hc with rfl | rfl <;> decide
        rw [e, wfin_blank hc] at hq
        unfold wq at hq
        split at hq
        · rw [spl10_none _ (by intro hm; rcases List.mem_append.mp hm with hm | hm; exact h10' hm; exact e1.1 hm), List.mem_singleton] at hq
          subst hq
          refine ⟨?_, by rw [blank_app (by simp [esc])]; exact e1.2⟩
          rw [List.length_append]; show _ + 3 ≤ M; omega
        · split at hq
          · rw [show bm r' ++ ([c] ++ [61, 10]) = (bm r' ++ [c] ++ [61]) ++ 10 :: [] by simp, spl10_app, spl_nil] at hq
            rw [spl10_none _ (by
              intro hm
              rcases List.mem_append.mp hm with hm | hm
              · rcases List.mem_append.mp hm with hm | hm
                · exact h10' hm
                · rw [List.mem_singleton] at hm; exact hc10 hm.symm
              · simp at hm)] at hq
            rcases List.mem_append.mp hq with hq | hq
            · rw [List.mem_singleton] at hq
              subst hq
              refine ⟨?_, by rw [blank_app (by simp)]; rfl⟩
              simp only [List.length_append, List.length_cons, List.length_nil]; omega
            · rw [List.mem_singleton] at hq
              subst hq
              exact ⟨Nat.zero_le _, rfl⟩
          · rw [show bm r' ++ ([61, 10] ++ esc c) = (bm r' ++ [61]) ++ 10 :: esc c by simp, spl10_app, spl10_none _ e1.1] at hq
            rw [spl10_none _ (by
              intro hm
              rcases List.mem_append.mp hm with hm | hm
              · exact h10' hm
              · simp at hm)] at hq
            rcases List.mem_append.mp hq with hq | hq
            · rw [List.mem_singleton] at hq
              subst hq
              refine ⟨?_, by rw [blank_app (by simp)]; rfl⟩
              simp only [List.length_append, List.length_cons, List.length_nil]; omega
            · rw [List.mem_singleton] at hq
              subst hq
              exact ⟨by show 3 ≤ M; omega, e1.2⟩
theorem law3 {M : Nat} {l : List Nat} (hM : 4 ≤ M) (hl : ∀ c ∈ l, c < 256) : ∀ p ∈ spl [10] (benc M l), p.length ≤ M ∧ blankE p = false := by
  rw [benc_rows hl, spl10_jn _ (by
    cases e : rws l with
    | nil => exact absurd e (rws_ne l)
    | cons r rs =>
      rw [List.flatMap_cons]
      intro h0
      exact wps_ne M (bm r) (List.append_eq_nil_iff.mp h0).1)]
  intro q hq
  obtain ⟨p, hp, hq⟩ := List.mem_flatMap.mp hq
  obtain ⟨r, hr, hp⟩ := List.mem_flatMap.mp hp
  exact row_lines hM _ r (Nat.le_refl _) (fun c hc => ⟨hl c (rws_mem l r hr c hc).1, (rws_mem l r hr c hc).2⟩) p hp q hq
end Mine
end

section
open PySem PySem.W PyProof.Rows PySem.Calls
set_option Elab.async false
set_option maxRecDepth 100000
namespace Mine
theorem sp_len (e f g : List Nat) (c : Nat) : (sp e f g c).length ≤ 3 := by unfold sp; split <;> simp
theorem rep1_len3 (c : Nat) (z l : List Nat) (hz : z.length ≤ 3) : (rep1 c z l).length ≤ 3 * l.length := by
  unfold rep1
  induction l with
  | nil => simp
  | cons a r ih =>
    rw [List.flatMap_cons, List.length_append, List.length_cons]
    have : (if a = c then z else [a]).length ≤ 3 := by split; exact hz; simp
    omega
theorem mem_flat_len {ps : List (List Nat)} {p : List Nat} (h : p ∈ ps) : p.length ≤ ps.flatten.length := by
  induction ps with
  | nil => cases h
  | cons q r ih =>
    rw [List.flatten_cons, List.length_append]
    rcases List.mem_cons.mp h with rfl | h
    · omega
    · have := ih h; omega
theorem sl_last (p : List Nat) : sl p (some (-1)) none = p.drop (p.length - 1) := by
  unfold sl
  have c1 : clip p.length 0 (some (-1)) = p.length - 1 := by simp only [clip]; omega
  rw [c1]
  simp only [clip]
  exact List.take_of_length_le (by rw [List.length_drop]; omega)
theorem blank_last {p : List Nat} (h : blankE p = false) : ([[32], [9]] : List (List Nat)).any (fun q => q == sl p (some (-1)) none) = false := by
  rw [sl_last]
  unfold blankE at h
  cases hp : p.getLast? with
  | none => rw [List.getLast?_eq_none_iff.mp hp]; rfl
  | some c =>
    rw [hp] at h
    obtain ⟨pre, rfl⟩ := List.getLast?_eq_some_iff.mp hp
    have e : (pre ++ [c]).drop ((pre ++ [c]).length - 1) = [c] := by simp
    rw [e]
    simp only [decide_eq_false_iff_not, List.mem_cons, List.not_mem_nil, or_false, not_or] at h
    simp [Ne.symm h.1, Ne.symm h.2]
theorem nrm_len (l : List Nat) : (nrm l).length ≤ 4 * l.length + 4 := by
  have hj1 := jn_len [10] (spl [13, 10] l)
  have hj2 := spl_len [13, 10] l (by simp)
  have hj3 := spl_flat [13, 10] l (by simp)
  have hk1 := jn_len [10] (spl [13] (jn [10] (spl [13, 10] l)))
  have hk2 := spl_len [13] (jn [10] (spl [13, 10] l)) (by simp)
  have hk3 := spl_flat [13] (jn [10] (spl [13, 10] l)) (by simp)
  simp only [List.length_cons, List.length_nil] at hj1 hk1
  unfold nrm
  omega
end Mine
end

section
open PySem PySem.W PyProof.Rows PySem.Calls
set_option Elab.async false
set_option maxRecDepth 100000
namespace Mine
open Builtin
section
variable {w : World} {A : Around} {E : Value → Shared → Prop} {s₀ s : Shared} {L : Addr} {bs : Binds} {N : List (Addr × Obj)} {Q : Value → Shared → Prop}
theorem call_replace2 {l y z : List Nat} {t u v : Tok} (S : St s₀ L bs N s) (hu : 0 < u) (huv : u < v) (hz : z.length ≤ 3) (hl : l.length ≤ 1000000) (hy : y ≠ []) (hne : (y == z) = false) (h : ∀ t' s', St s₀ L bs N s' → Q (.str (tx (jn z (spl y l))) t') s') :
    wpAny (model PG w) A (call (.builtin "str.replace") [.str (tx l) t, .str (tx y) u, .str (tx z) v]) Q E s := by
  have hm : (l.length + 1) * z.length ≤ (l.length + 1) * 3 := Nat.mul_le_mul_left _ hz
  refine mono_toks (SC.replace (show (u : Nat) ≠ 0 from Nat.ne_of_gt hu) (show (v : Nat) ≠ 0 from Nat.ne_of_gt (Nat.lt_trans hu huv)) (show (u : Nat) ≠ v from Nat.ne_of_lt huv) (by rw [tx_beq]; exact hne) (by rw [tx_len, tx_len]; omega) fun t3 k3 hk3 => ?_)
  rw [replace_tx _ _ _ hy]
  exact h _ _ (S.toks hk3)
end
section
variable {w : World} {A : Around} {E : Value → Shared → Prop} {s₀ s : Shared} {L : Addr} {bs : Binds} {N : List (Addr × Obj)} {env : Env}
theorem ev_strl {x : Str} {k : Nat} {pos : Pos} {Q : Value → Shared → Prop} (S : St s₀ L bs N s) (h : ∀ t s', St s₀ L bs N s' → s.toks ≤ t → t < s'.toks → Q (.str (tx x.cps.toList) t) s') :
    wpAny (model PG w) A (eval (.Constant (.str x) k pos) env) Q E s := ev_str S fun t s' S' h1 h2 => by have := h t s' S' h1 h2; rw [tx_of] at this; exact this
end
noncomputable def lawBody (P : Params) : List Stmt := fp27.1.2.2.1
noncomputable abbrev lawEnv (P : Params) (L : Addr) : Env := callEnvC fd121 L 121
theorem ints_mem {vs : List Value} {ns : List Int} (h : IntsAre vs ns) : ∀ v ∈ vs, ∃ n t, v = .int n t := h.all
theorem itep {c : Bool} {P R : Prop} (h : c = false) (r : R) : (if c = true then P else R) := by subst h; exact r
end Mine
end

section
open PySem PySem.W PyProof.Rows PySem.Calls
set_option Elab.async false
set_option maxRecDepth 100000
namespace Mine
open Builtin
section
variable {w : World} {A : Around} {s sb : Shared} {Q : Flow → Shared → Prop} {E : Value → Shared → Prop}
theorem item0 {Q : Value → Shared → Prop} {value slice : Expr} {l : List Nat} {t u : Tok} {i : Int} {c : Nat} (hl : l.length ≤ 1000000) (h0 : 0 ≤ i) (hc : l[i.toNat]? = some c) (h : ∀ t', Q (.str (tx [c]) t') { s with toks := s.toks + 1 })
    (hs : subscripted slice false (.str (tx l) t) (.int i u) = operate [.str (tx l) t, .int i u] (getItem (.str (tx l) t) (.int i u)) := by with_unfolding_all rfl)
    (ht : ∀ r, letTemporaryGo value (.str (tx l) t) r = pure () := by intro _; with_unfolding_all rfl) :
    wpAny (model PG w) A (subscriptTail value slice (.str (tx l) t) (.int i u)) Q E s := by
  have hlt : i.toNat < l.length := (List.getElem?_eq_some_iff.mp hc).1
  have e : Txt.charAt (tx l) i = some c := StrLaws.at_nonneg h0 (by rw [get_tx]; exact hc)
  refine item_str (by unfold fitsSsize; simp; omega) (by rw [tx_len]; omega) (by rw [tx_len]; omega) (fun _ => ?_) hs ht
  have e2 : Txt.item (tx l) i = tx [c] := by unfold Txt.item; rw [e]; rfl
  rw [e2]
  exact h _
theorem add0 {Q : Value → Shared → Prop} {a b : List Nat} {t u : Tok} (hl : a.length + b.length ≤ 1000000) (h : ∀ t' k, Q (.str (tx (a ++ b)) t') { s with toks := k }) :
    wpAny (model PG w) A (binaryOp .Add (.str (tx a) t) (.str (tx b) u)) Q E s := by
  refine add_str (fun t' k => ?_) (by rw [tx_len, tx_len, show sizeLine = 16777216 by decide]; omega)
  rw [tx_app]
  exact h _ _
noncomputable def forT (P : Params) : Expr := match ((lawBody P)[6]? : Option PySem.Stmt) with | some (PySem.Stmt.For t _ _ _ _) => t | _ => PySem.Expr.Constant .none 0 ⟨0, 0, 0, 0⟩
noncomputable def forB (P : Params) : List Stmt := match ((lawBody P)[6]? : Option PySem.Stmt) with | some (PySem.Stmt.For _ _ b _ _) => b | _ => []
set_option maxHeartbeats 4000000 in
theorem law_turn {Q : Flow → Shared → Prop} {L : Addr} {l e f g : List Nat} {bs : Binds} {FX : List (Addr × Obj)} {Dr Dv : Addr} {vr : List Value} {o1 o2 o3 o4 : Obj} {v2 v3 v4 : Option Value} {te tf tg tt : Tok} (hA : AOk A 19) (Gb : Gnd w sb.heap)
    (S : St sb L bs (FX ++ [(Dr, listObj vr), (L + 1, o1), (L + 2, o2), (L + 3, o3), (L + 4, o4)]) s) (hm : (Dv, tupObj [.str (tx e) te, .str (tx f) tf, .str (tx g) tg]) ∈ FX) (hsp : Spell e f g l) (hlen : l.length ≤ 4000)
    (d2 : o2.data = .cell v2) (d3 : o3.data = .cell v3) (d4 : o4.data = .cell v4) (htx : lk bs "text" = some (.str (tx l) tt)) (hrw : lk bs "rows" = some (.ref Dr))
    (k : ∀ bs' s' o2 o3 o4 v2 v3 v4, o2.data = .cell v2 → o3.data = .cell v3 → o4.data = .cell v4 → St sb L bs' (FX ++ [(Dr, listObj vr), (L + 1, o1), (L + 2, o2), (L + 3, o3), (L + 4, o4)]) s' → lk bs' "text" = some (.str (tx l) tt) → lk bs' "rows" = some (.ref Dr) → Q .next s') :
    wpAny (model PG w) A (assign (forT w.params) (lawEnv w.params L) (.ref Dv)) (fun _ s₂ => wpAny (model PG w) A (execs (forB w.params) (lawEnv w.params L)) Q (fun _ _ => False) s₂) (fun _ _ => False) s := by
  refine assign_Tuple_tuple (items := #[.str (tx e) te, .str (tx f) tf, .str (tx g) tg]) hA.handled ⟨_, S.get (List.mem_append.mpr (.inl hm)), rfl, _, rfl⟩ rfl rfl fun h' he => ?_
  have S1 := S.ext he
  rw [show FX ++ [(Dr, listObj vr), (L + 1, o1), (L + 2, o2), (L + 3, o3), (L + 4, o4)] = (FX ++ [(Dr, listObj vr), (L + 1, o1)]) ++ (L + 2, o2) :: [(L + 3, o3), (L + 4, o4)] by simp] at S1
  refine assignInOrder_cons (assign_Name (st_cell S1 d2 fun o2' s2 d2' S2 => ?_))
  rw [show (FX ++ [(Dr, listObj vr), (L + 1, o1)]) ++ (L + 2, o2') :: [(L + 3, o3), (L + 4, o4)] = (FX ++ [(Dr, listObj vr), (L + 1, o1), (L + 2, o2')]) ++ (L + 3, o3) :: [(L + 4, o4)] by simp] at S2
  refine assignInOrder_cons (assign_Name (st_cell S2 d3 fun o3' s3 d3' S3 => ?_))
  rw [show (FX ++ [(Dr, listObj vr), (L + 1, o1), (L + 2, o2')]) ++ (L + 3, o3') :: [(L + 4, o4)] = (FX ++ [(Dr, listObj vr), (L + 1, o1), (L + 2, o2'), (L + 3, o3')]) ++ (L + 4, o4) :: [] by simp] at S3
  refine assignInOrder_cons (assign_Name (st_cell S3 d4 fun o4' s4 d4' S4 => assignInOrder_nil ?_))
  rw [show (FX ++ [(Dr, listObj vr), (L + 1, o1), (L + 2, o2'), (L + 3, o3')]) ++ (L + 4, o4') :: [] = FX ++ [(Dr, listObj vr), (L + 1, o1), (L + 2, o2'), (L + 3, o3'), (L + 4, o4')] by simp] at S4
  clear S1 S2 S3
  have hfl : f.length = 16 := by rcases hsp.f with rfl | rfl <;> rfl
  have hgl : g.length = 16 := by rcases hsp.g with rfl | rfl <;> rfl
  refine wpAny_execs_cons (comp_str_as (cl := ?cl) (l := l) (t := tt) (fun _ => true) (fun p y => ∃ u, y = .str (tx (p.flatMap (sp e f g))) u) hA.handled S4 ?hsw ?hclos ?hcell ?hkind ?hnames ?hx ?hy ?hp rfl (by omega) (ev_loc S4 htx ⟨rfl, rfl⟩) (fun C p u s₃ m₃ E' hp hns hm hk ht => wpAny_pure ⟨rfl, keeps_refl _⟩) (fun C p u s₃ m₃ E' hp _ hns hm hk ht => ?helt) (fun Do ys n s5 hys S5 => ?hrest))
  case hsw => with_unfolding_all rfl
  case hclos => with_unfolding_all rfl
  case hcell => decide
  case hkind => rfl
  case hnames => decide
  case hx => rfl
  case hy => rfl
  case hp => rfl
  case helt =>
    obtain ⟨c, hc, rfl⟩ := List.mem_map.mp hp
    have Gk : Gnd w s₃.heap := (Gb.st S4).keeps hk
    have hc256 := hsp.l c hc
    have c2 : s₃.heap.IsCell (L + 2) (some (.str (tx e) te)) := ⟨o2', hk _ _ (S4.get (by simp)), d2'⟩
    have c3 : s₃.heap.IsCell (L + 3) (some (.str (tx f) tf)) := ⟨o3', hk _ _ (S4.get (by simp)), d3'⟩
    have c4 : s₃.heap.IsCell (L + 4) (some (.str (tx g) tg)) := ⟨o4', hk _ _ (S4.get (by simp)), d4'⟩
    refine IfExp_ (wpAny_isTrue_Compare1 (wpAny_Name (wpAny_loadName_local rfl rfl hns hm ?_) (by decide)))
    refine wpAny_Name (wpAny_loadName_cell rfl rfl rfl c2 (in_tx (wpAny_truthy_bool ?_))) (by decide)
    have hflat : [c].flatMap (sp e f g) = sp e f g c := by simp
    by_cases hce : c ∈ e
    · rw [if_pos (by simpa using hce)]
      have hspc : sp e f g c = [61] ++ [f.getD (c / 16) 0] ++ [g.getD (c % 16) 0] := by unfold sp; rw [if_pos hce]
      have i1 : f[((c : Int).fdiv 16).toNat]? = some (f.getD (c / 16) 0) := by
        rw [Int.fdiv_eq_ediv_of_nonneg _ (by decide), show ((c : Int) / 16).toNat = c / 16 by omega, List.getD_eq_getElem?_getD, List.getElem?_eq_getElem (by omega)]; rfl
      have i2 : g[((c : Int).fmod 16).toNat]? = some (g.getD (c % 16) 0) := by
        rw [Int.fmod_eq_emod_of_nonneg _ (by decide), show ((c : Int) % 16).toNat = c % 16 by omega, List.getD_eq_getElem?_getD, List.getElem?_eq_getElem (by omega)]; rfl
      have n1 : 0 ≤ (c : Int).fdiv 16 := by rw [Int.fdiv_eq_ediv_of_nonneg _ (by decide)]; omega
      have n2 : 0 ≤ (c : Int).fmod 16 := by rw [Int.fmod_eq_emod_of_nonneg _ (by decide)]; omega
      refine wpAny_BinOp (wpAny_BinOp (Constant_str ?_))
      rw [show Str.ofString "=" = tx [61] from by decide +kernel]
      refine Subscript_ (wpAny_Name (wpAny_loadName_cell rfl rfl rfl c3 ?_) (by decide))
      refine wpAny_BinOp (Call_ (ev_built Gk (gn_ord _) boot_ord (PyProof.Rows.callWith_builtin1 (spliced_more ?_))))
      refine wpAny_Name (wpAny_loadName_local rfl rfl hns hm ?_) (by decide)
      refine spliced_none (P.ord_of_char (wpAny_Constant_int (floordiv_int (by decide) ?_ (.inl (PyProof.noPylong_small (by decide))))))
      refine item0 (by omega) n1 i1 fun t1 => add0 (by simp) fun t2 k2 => ?_
      refine Subscript_ (wpAny_Name (wpAny_loadName_cell rfl rfl rfl c4 ?_) (by decide))
      refine wpAny_BinOp (Call_ (ev_built Gk (gn_ord _) boot_ord (PyProof.Rows.callWith_builtin1 (spliced_more ?_))))
      refine wpAny_Name (wpAny_loadName_local rfl rfl hns hm ?_) (by decide)
      refine spliced_none (P.ord_of_char (wpAny_Constant_int (mod_int (by decide) ?_)))
      refine item0 (by omega) n2 i2 fun t3 => add0 (by simp) fun t4 k4 => ?_
      exact ⟨⟨t4, by rw [hflat, hspc]⟩, keeps_toks⟩
    · rw [if_neg (by simpa using hce)]
      have hspc : sp e f g c = [c] := by unfold sp; rw [if_neg hce]
      exact wpAny_Name (wpAny_loadName_local rfl rfl hns hm ⟨⟨u, by rw [hflat, hspc]⟩, keeps_refl _⟩) (by decide)
  case hrest =>
    have hys' : txs (l.map (sp e f g)) ys := by
      have := paired_txs (g := fun p => p.flatMap (sp e f g)) hys
      rw [List.filter_eq_self.mpr (fun _ _ => rfl), List.map_map] at this
      have e1 : ((fun p => p.flatMap (sp e f g)) ∘ fun c => [c]) = sp e f g := by funext c; simp
      rw [e1] at this
      exact this
    have hjl := jn_len [] (l.map (sp e f g))
    have hfl3 : (l.map (sp e f g)).flatten.length ≤ 3 * l.length := by rw [← List.flatMap_def]; exact flat_len (sp e f g) (sp_len e f g) l
    refine wpAny_execs_cons (wpAny_If (wpAny_isTrue_Compare1 (Call_ (ev_glob (Gb.st S5) (gl_header_decode _) (cw_fn (by kernel_rfl) (spliced_more (MethodCall_ (MethodCall_ (MethodCall_ (ev_str S5 fun t6 s6 S6 _ _ => GM.join (callWith_method1 (spliced_more (ev_loc S6 rfl (spliced_none ?_))))))))))))))
    rw [show Str.ofString "" = tx [] from by decide +kernel]
    refine call_join S6 ⟨_, S6.get (.head _), rfl, n, rfl⟩ hys' (by simp only [List.length_nil, Nat.mul_zero]; omega) fun t7 s7 S7 => ?_
    rw [jn_nil, ← List.flatMap_def]
    have hfm : (l.flatMap (sp e f g)).length ≤ 3 * l.length := flat_len (sp e f g) (sp_len e f g) l
    have hp5 := S5.pos
    have hp7 := S7.pos
    refine GM.replace (callWith_method1 (spliced_more (ev_str S7 fun t8 s8 S8 h8 h8' => spliced_more (ev_str S8 fun t9 s9 S9 h9 h9' => spliced_none ?_))))
    rw [show Str.ofString "_" = tx [95] from by decide +kernel, show Str.ofString "=5F" = tx [61, 53, 70] from by decide +kernel, show Str.ofString " " = tx [32] from by decide +kernel]
    have hr1 := rep1_len3 95 [61, 53, 70] (l.flatMap (sp e f g)) (by simp)
    have hr2 := rep1_len3 32 [95] (rep1 95 [61, 53, 70] (l.flatMap (sp e f g))) (by simp)
    refine call_replace1 S9 (show 0 < t8 by omega) (show t8 < t9 by omega) (by simp) (by omega) (by decide) fun t10 s10 S10 => ?_
    have hp10 := S10.pos
    refine GM.replace (callWith_method1 (spliced_more (ev_str S10 fun t11 s11 S11 h11 h11' => spliced_more (ev_str S11 fun t12 s12 S12 h12 h12' => spliced_none ?_))))
    refine call_replace1 S12 (show 0 < t11 by omega) (show t11 < t12 by omega) (by simp) (by omega) (by decide) fun t13 s13 S13 => ?_
    refine spliced_none ⟨Gb.st S13, wpAny_call (fn_header_decode (by omega) (hA.le (by omega)) (Gb.st S13) fun v s14 hv hk ht => ?_)⟩
    obtain ⟨tv, rfl⟩ := hv
    have S14 := S13.keeps hk ht
    rw [law1 hsp]
    refine ev_loc S14 htx (ne_tx (wpAny_truthy_bool ?_))
    rw [if_neg (by simp)]
    refine wpAny_execs_nil ?_
    clear S6 S7 S8 S9 S10 S11 S12 S13
    refine wpAny_execs_cons (wpAny_If (wpAny_isTrue_Compare1 (Call_ (ev_glob (Gb.st S14) (gl_decode _) (cw_fn (by kernel_rfl) (spliced_more (MethodCall_ (ev_str S14 fun t15 s15 S15 _ _ => GM.join (callWith_method1 (spliced_more (wpAny_BinOp (ev_loc S15 rfl (List_ (spliced_more (ev_str S15 fun t16 s16 S16 _ _ => spliced_none (new_list S16 (by show 1 ≤ sizeLine; decide) fun Dn s17 S17 => ?_))))))))))))))))
    rw [show Str.ofString "\n" = tx [10] from by decide +kernel] at S17
    have hyl : ys.length = l.length := by rw [txs_len hys', List.length_map]
    refine add_lists S17.fr S17.nw (vs := ys) (ws := [.str (tx [10]) t16]) ⟨_, S17.get (.tail _ (.head _)), rfl, n, rfl⟩ ⟨_, S17.get (.head _), rfl, 0, rfl⟩ (fun h' F18 N18 => ?_) (by rw [hyl, show sizeLine = 16777216 by decide]; simp; omega)
    have S18 := S17.of_new F18 N18 (Nat.le_refl _)
    rw [show Str.ofString "= \t\n" = tx [61, 32, 9, 10] from by decide +kernel]
    have hps := txs_snoc hys' [10] t16
    have hjs : (l.map (sp e f g) ++ [[10]]).flatten.length + (l.map (sp e f g) ++ [[10]]).length * ([61, 32, 9, 10] : List Nat).length ≤ 7 * l.length + 5 := by
      rw [List.flatten_append, List.length_append, List.length_append, List.length_map]; simp only [List.flatten_cons, List.flatten_nil, List.length_append, List.length_cons, List.length_nil]; omega
    have hjj := jn_len [61, 32, 9, 10] (l.map (sp e f g) ++ [[10]])
    have hda := decAll_len (jn [61, 32, 9, 10] (l.map (sp e f g) ++ [[10]]))
    refine spliced_none (call_join S18 ⟨_, S18.get (.head _), rfl, 0, rfl⟩ hps (by omega) fun t19 s19 S19 => spliced_none ⟨Gb.st S19, wpAny_call (fn_decode (by omega) (by omega) (hA.le (by omega)) (Gb.st S19) fun v s20 hv hk ht => ?_)⟩)
    obtain ⟨tv, rfl⟩ := hv
    have S20 := S19.keeps hk ht
    rw [law2 hsp]
    refine wpAny_BinOp (ev_loc S20 htx (ev_str S20 fun t21 s21 S21 _ _ => ?_))
    rw [show Str.ofString "\n" = tx [10] from by decide +kernel]
    refine add_tx S21 (by simp; omega) fun t22 s22 S22 => ne_tx (wpAny_truthy_bool ?_)
    rw [if_neg (by simp)]
    refine wpAny_execs_nil (wpAny_execs_nil ?_)
    exact k _ _ o2' o3' o4' _ _ _ d2' d3' d4' (S22.sub ((List.sublist_cons_self _ _).trans ((List.sublist_cons_self _ _).trans (List.sublist_cons_self _ _)))) htx hrw
end
end Mine
end

section
open PySem PySem.W PyProof.Rows PySem.Calls
set_option Elab.async false
set_option maxRecDepth 100000
namespace Mine
open Builtin
section
variable {w : World} {A : Around} {s sb : Shared} {Q : Flow → Shared → Prop} {E : Value → Shared → Prop}
set_option maxHeartbeats 4000000 in
theorem law_B {L : Addr} {l : List Nat} {bs : Binds} {o1 o2 o3 o4 : Obj} {v1 v2 v3 v4 : Option Value} {tt : Tok} (hA : AOk A 19) (Gb : Gnd w sb.heap) (S : St sb L bs [(L + 1, o1), (L + 2, o2), (L + 3, o3), (L + 4, o4)] s)
    (d1 : o1.data = .cell v1) (d2 : o2.data = .cell v2) (d3 : o3.data = .cell v3) (d4 : o4.data = .cell v4) (htx : lk bs "text" = some (.str (tx l) tt)) (hl : ∀ c ∈ l, c < 256) (hlen : l.length ≤ 4000)
    (k : ∀ bs s' o2 o3 o4 Dr vr, St sb L bs [(Dr, listObj vr), (L + 1, o1), (L + 2, o2), (L + 3, o3), (L + 4, o4)] s' → lk bs "text" = some (.str (tx l) tt) → lk bs "rows" = some (.ref Dr) → txs (spl [10] (nrm l)) vr →
      wpAny (model PG w) A (execs ((lawBody w.params).drop 7) (lawEnv w.params L)) Q E s') :
    wpAny (model PG w) A (execs ((lawBody w.params).drop 4) (lawEnv w.params L)) Q E s := by
  have hp := S.pos
  refine wpAny_execs_cons (wpAny_Assign_Name (MethodCall_ (MethodCall_ (MethodCall_ (ev_loc S htx (GM.replace (callWith_method1 (spliced_more (ev_str S fun t2 s2 S2 h2 h2' => spliced_more (ev_str S2 fun t3 s3 S3 h3 h3' => spliced_none ?_))))))))))
  rw [show Str.ofString "\r\n" = tx [13, 10] from by decide +kernel, show Str.ofString "\n" = tx [10] from by decide +kernel]
  have hj1 := jn_len [10] (spl [13, 10] l)
  have hj2 := spl_len [13, 10] l (by simp)
  have hj3 := spl_flat [13, 10] l (by simp)
  simp only [List.length_cons, List.length_nil] at hj1
  refine call_replace2 S3 (show 0 < t2 by omega) (show t2 < t3 by omega) (by simp) (by omega) (by simp) (by decide) fun t4 s4 S4 => ?_
  refine GM.replace (callWith_method1 (spliced_more (ev_str S4 fun t5 s5 S5 h5 h5' => spliced_more (ev_str S5 fun t6 s6 S6 h6 h6' => spliced_none ?_))))
  rw [show Str.ofString "\r" = tx [13] from by decide +kernel]
  have hk1 := jn_len [10] (spl [13] (jn [10] (spl [13, 10] l)))
  have hk2 := spl_len [13] (jn [10] (spl [13, 10] l)) (by simp)
  have hk3 := spl_flat [13] (jn [10] (spl [13, 10] l)) (by simp)
  simp only [List.length_cons, List.length_nil] at hk1
  have hp4 := S4.pos
  refine call_replace2 S6 (show 0 < t5 by omega) (show t5 < t6 by omega) (by simp) (by omega) (by simp) (by decide) fun t7 s7 S7 => ?_
  refine GM.split (callWith_method1 (spliced_more (ev_str S7 fun t8 s8 S8 _ _ => spliced_none (call_split S8 (by omega) (by simp) fun Dr vr s9 hvr S9 => st_name S9 fun s10 S10 => ?_))))
  clear S2 S3 S4 S5 S6 S7 S8 S9
  refine wpAny_execs_cons (Assign_Tuple (Tuple_ (spliced_more (ev_str S10 fun t11 s11 S11 _ _ => spliced_more (ev_str S11 fun t12 s12 S12 _ _ => spliced_none (new_tuple S12 (by show 2 ≤ sizeLine; decide) fun Dt s13 S13 => ?_))))))
  rw [show Str.ofString "0123456789abcdef" = tx lowH from by decide +kernel, show Str.ofString "0123456789ABCDEF" = tx uppH from by decide +kernel] at S13
  refine assign_Tuple_tuple (items := #[.str (tx lowH) t11, .str (tx uppH) t12]) hA.handled ⟨_, S13.get (.head _), rfl, _, rfl⟩ rfl rfl fun h' he => ?_
  have S14 := (S13.ext he).sub (List.sublist_cons_self _ _)
  refine assignInOrder_cons (assign_Name (st_name S14 fun s15 S15 => assignInOrder_cons (assign_Name (st_name S15 fun s16 S16 => assignInOrder_nil ?_))))
  clear S10 S11 S12 S13 S14 S15
  refine wpAny_execs_cons (for_tup (s₀ := sb) (L := L) hA.handled (fun _ bs N => ∃ o2 o3 o4 v2 v3 v4, N = [(Dr, listObj vr), (L + 1, o1), (L + 2, o2), (L + 3, o3), (L + 4, o4)] ∧ o2.data = .cell v2 ∧ o3.data = .cell v3 ∧ o4.data = .cell v4 ∧ lk bs "text" = some (.str (tx l) tt) ∧ lk bs "rows" = some (.ref Dr)) ?_)
  refine Tuple_ (spliced_more (Tuple_ (spliced_more (ev_str S16 fun t17 s17 S17 _ _ => spliced_more (ev_loc S17 rfl (spliced_more (ev_loc S17 rfl (spliced_none (new_tuple S17 (by show 3 ≤ sizeLine; decide) fun D1 s18 S18 => ?_)))))))))
  refine spliced_more (Tuple_ (spliced_more (ev_loc S18 htx (spliced_more (ev_loc S18 rfl (spliced_more (ev_loc S18 rfl (spliced_none (new_tuple S18 (by show 3 ≤ sizeLine; decide) fun D2 s19 S19 => ?_)))))))))
  refine spliced_more (Tuple_ (spliced_more (ev_loc S19 htx (spliced_more (ev_loc S19 rfl (spliced_more (ev_loc S19 rfl (spliced_none (new_tuple S19 (by show 3 ≤ sizeLine; decide) fun D3 s20 S20 => ?_)))))))))
  refine spliced_more (Tuple_ (spliced_more (ev_loc S20 htx (spliced_more (ev_loc S20 rfl (spliced_more (ev_loc S20 rfl (spliced_none (new_tuple S20 (by show 3 ≤ sizeLine; decide) fun D4 s21 S21 => ?_)))))))))
  refine spliced_more (Tuple_ (spliced_more (ev_loc S21 htx (spliced_more (ev_loc S21 rfl (spliced_more (ev_loc S21 rfl (spliced_none (new_tuple S21 (by show 3 ≤ sizeLine; decide) fun D5 s22 S22 => ?_)))))))))
  refine spliced_none (new_tuple S22 (by show 5 ≤ sizeLine; decide) fun D0 s23 S23 => ?_)
  rw [show Str.ofString "=\n\r\x0b\x0c\x1c\x1d\x1e\u0085" = tx brk from by decide +kernel] at S23
  have hown : ∀ c ∈ l, c = 61 ∨ isLB c = true → c ∈ l := fun c hc _ => hc
  have hbrk : ∀ c ∈ l, c = 61 ∨ isLB c = true → c ∈ brk := by
    have : ∀ c < 256, c = 61 ∨ isLB c = true → c ∈ brk := by decide +kernel
    exact fun c hc => this c (hl c hc)
  have htri : ∀ (i : Nat) v, [Value.ref D1, .ref D2, .ref D3, .ref D4, .ref D5][i]? = some v → ∃ Dv e f g te tf tg, v = .ref Dv ∧ (Dv, tupObj [.str (tx e) te, .str (tx f) tf, .str (tx g) tg]) ∈ [(D0, tupObj [.ref D1, .ref D2, .ref D3, .ref D4, .ref D5]), (D5, tupObj [.str (tx l) tt, .str (tx uppH) t12, .str (tx uppH) t12]), (D4, tupObj [.str (tx l) tt, .str (tx uppH) t12, .str (tx lowH) t11]), (D3, tupObj [.str (tx l) tt, .str (tx lowH) t11, .str (tx uppH) t12]), (D2, tupObj [.str (tx l) tt, .str (tx lowH) t11, .str (tx lowH) t11]), (D1, tupObj [.str (tx brk) t17, .str (tx lowH) t11, .str (tx lowH) t11])] ∧ Spell e f g l := by
    intro i v hv
    rcases i with _ | _ | _ | _ | _ | i
    · cases hv; exact ⟨D1, brk, lowH, lowH, t17, t11, t11, rfl, by simp, hbrk, .inl rfl, .inl rfl, hl⟩
    · cases hv; exact ⟨D2, l, lowH, lowH, tt, t11, t11, rfl, by simp, hown, .inl rfl, .inl rfl, hl⟩
    · cases hv; exact ⟨D3, l, lowH, uppH, tt, t11, t12, rfl, by simp, hown, .inl rfl, .inr rfl, hl⟩
    · cases hv; exact ⟨D4, l, uppH, lowH, tt, t12, t11, rfl, by simp, hown, .inr rfl, .inl rfl, hl⟩
    · cases hv; exact ⟨D5, l, uppH, uppH, tt, t12, t12, rfl, by simp, hown, .inr rfl, .inr rfl, hl⟩
    · cases hv
  refine ⟨D0, [.ref D1, .ref D2, .ref D3, .ref D4, .ref D5], _, [(Dr, listObj vr), (L + 1, o1), (L + 2, o2), (L + 3, o3), (L + 4, o4)], [(D0, tupObj [.ref D1, .ref D2, .ref D3, .ref D4, .ref D5]), (D5, tupObj [.str (tx l) tt, .str (tx uppH) t12, .str (tx uppH) t12]), (D4, tupObj [.str (tx l) tt, .str (tx uppH) t12, .str (tx lowH) t11]), (D3, tupObj [.str (tx l) tt, .str (tx lowH) t11, .str (tx uppH) t12]), (D2, tupObj [.str (tx l) tt, .str (tx lowH) t11, .str (tx lowH) t11]), (D1, tupObj [.str (tx brk) t17, .str (tx lowH) t11, .str (tx lowH) t11])], rfl, S23, .head _, ⟨o2, o3, o4, v2, v3, v4, rfl, d2, d3, d4, htx, rfl⟩, ?_, ?_⟩
  · rintro i v bs' N' it oi s24 hv ⟨o2', o3', o4', v2', v3', v4', rfl, d2', d3', d4', htx', hrw'⟩ S24
    obtain ⟨Dv, e, f, g, te, tf, tg, rfl, hm, hsp⟩ := htri i v hv
    refine law_turn (FX := (it, oi) :: _) hA Gb S24 (.tail _ hm) hsp hlen d2' d3' d4' htx' hrw' fun bs'' s25 o2 o3 o4 v2 v3 v4 e2 e3 e4 S25 h1 h2 => ⟨.inl rfl, bs'', _, S25, o2, o3, o4, v2, v3, v4, rfl, e2, e3, e4, h1, h2⟩
  · rintro bs' N' s24 ⟨o2', o3', o4', v2', v3', v4', rfl, d2', d3', d4', htx', hrw'⟩ S24
    refine k bs' s24 o2' o3' o4' Dr vr ?_ htx' hrw' hvr
    exact S24.sub (List.sublist_append_right _ _)
end
end Mine
end

section
open PySem PySem.W PyProof.Rows PySem.Calls
set_option Elab.async false
set_option maxRecDepth 100000
namespace Mine
open Builtin
section
variable {w : World} {A : Around} {s sb : Shared} {Q : Flow → Shared → Prop} {E : Value → Shared → Prop}
set_option maxHeartbeats 4000000 in
theorem law_D {L : Addr} {l told : List Nat} {bs : Binds} {cells : List (Addr × Obj)} {Dr : Addr} {vr : List Value} {tt tv : Tok} (hA : AOk A 19) (Gb : Gnd w sb.heap) (S : St sb L bs ((Dr, listObj vr) :: cells) s)
    (htx : lk bs "text" = some (.str (tx l) tt)) (htd : lk bs "told" = some (.str (tx told) tv)) (hrw : lk bs "rows" = some (.ref Dr)) (hvr : txs (spl [10] (nrm l)) vr) (hlen : l.length ≤ 4000) (hbl : told.length ≤ 24 * l.length + 1)
    (hl4 : ((spl [61, 10] told).map fun p => unq (rep1 95 [32] (rep1 95 [61, 53, 70] p))).flatten = nrm l)
    (k : ∀ s', St sb L bs [] s' → wpAny (model PG w) A (execs ((lawBody w.params).drop 10) (lawEnv w.params L)) Q E s') :
    wpAny (model PG w) A (execs ((lawBody w.params).drop 9) (lawEnv w.params L)) Q E s := by
  have hs1 := spl_len [61, 10] told (by simp)
  have hs2 := spl_flat [61, 10] told (by simp)
  have hnl := nrm_len l
  refine wpAny_execs_cons (wpAny_If (wpAny_isTrue_Compare1 (MethodCall_ (ev_str S fun t1 s1 S1 _ _ => GM.join (callWith_method1 (spliced_more (comp_list (cl := ?cl) (fun _ => true) (fun p y => ∃ u, y = .str (tx (unq (rep1 95 [32] (rep1 95 [61, 53, 70] p)))) u) (spl [61, 10] told) hA.handled S1 ?hclos ?hcell ?hkind ?hnames ?hx (by omega) ?hi (fun s₁ S₁ => ?hT) (fun s₁ S₁ => ?hE) fun D4 ys n s4 hys S4 => ?hrest)))))))
  case hclos => with_unfolding_all rfl
  case hcell => decide
  case hkind => rfl
  case hnames => decide
  case hx => rfl
  case hi =>
    refine MethodCall_ (ev_loc S1 htd (GM.split (callWith_method1 (spliced_more (ev_str S1 fun t4 s4 S4 _ _ => spliced_none ?_)))))
    rw [show Str.ofString "=\n" = tx [61, 10] from by decide +kernel]
    exact call_split S4 (by omega) (by simp) fun D5 vs s5 hvs S5 => ⟨D5, vs, rfl, hvs, S5⟩
  case hT => exact fun C p u s₃ m₃ E' hp hns hm hk ht => wpAny_pure ⟨rfl, keeps_refl _⟩
  case hE =>
    intro C p u s₃ m₃ E' hp _ hns hm hk ht
    have Gk : Gnd w s₃.heap := (Gb.st S₁).keeps hk
    have hpl : p.length ≤ 96001 := by have := mem_flat_len hp; omega
    have hp0 := S₁.pos
    refine Call_ (ev_glob Gk (gl_header_decode _) (cw_fn (by kernel_rfl) (spliced_more (MethodCall_ (wpAny_Name (wpAny_loadName_local rfl rfl hns hm ?_) (by decide))))))
    refine GM.replace (callWith_method1 (spliced_more (Constant_str (spliced_more (Constant_str (spliced_none ?_))))))
    rw [show Str.ofString "_" = tx [95] from by decide +kernel, show Str.ofString "=5F" = tx [61, 53, 70] from by decide +kernel]
    refine SC.replace (show s₃.toks ≠ 0 by omega) (show s₃.toks + 1 ≠ 0 by omega) (show s₃.toks ≠ s₃.toks + 1 by omega) (by decide +kernel) (by rw [tx_len, tx_len]; simp; omega) fun t3 k3 => ?_
    rw [replace1_tx]
    have hr1 := rep1_len3 95 [61, 53, 70] p (by simp)
    refine spliced_none ⟨Gk, wpAny_call (fn_header_decode (by omega) (hA.le (by omega)) Gk fun v s' hv hk' _ => ⟨?_, keeps_trans keeps_toks hk'⟩)⟩
    exact hv
  case hrest =>
    rw [List.filter_eq_self.mpr (fun _ _ => rfl)] at hys
    have hys' := paired_txs (g := fun p => unq (rep1 95 [32] (rep1 95 [61, 53, 70] p))) hys
    refine spliced_none ?_
    rw [show Str.ofString "" = tx [] from by decide +kernel]
    refine call_join S4 ⟨_, S4.get (.head _), rfl, n, rfl⟩ hys' (by rw [hl4]; simp only [List.length_nil, Nat.mul_zero]; omega) fun t5 s5 S5 => ?_
    rw [jn_nil, hl4]
    have hq1 := spl_len [10] (nrm l) (by simp)
    have hq2 := spl_flat [10] (nrm l) (by simp)
    refine MethodCall_ (ev_str S5 fun t6 s6 S6 _ _ => GM.join (callWith_method1 (spliced_more (ev_loc S6 hrw (spliced_none ?_)))))
    rw [show Str.ofString "\n" = tx [10] from by decide +kernel]
    refine call_join S6 ⟨_, S6.get (.tail _ (.head _)), rfl, 0, rfl⟩ hvr (by simp only [List.length_cons, List.length_nil]; omega) fun t7 s7 S7 => ?_
    rw [jn_spl _ _ (by simp)]
    refine ne_tx (wpAny_truthy_bool ?_)
    rw [if_neg (by simp)]
    exact wpAny_execs_nil (k _ S7.nil)
end
end Mine
end

section
open PySem PySem.W PyProof.Rows PySem.Calls
set_option Elab.async false
set_option maxRecDepth 100000
namespace Mine
open Builtin
section
variable {w : World} {A : Around} {s sb : Shared} {Q : Flow → Shared → Prop} {E : Value → Shared → Prop}
theorem call_bytes {s₀ : Shared} {L : Addr} {bs : Binds} {N : List (Addr × Obj)} {D : Addr} {vs : List Value} {l : List Nat} {Q : Value → Shared → Prop} (S : St s₀ L bs N s) (hh : A.handled = none) (hD : s.heap.IsList D vs.toArray) (hi : IntsAre vs (l.map fun (c : Nat) => (c : Int))) (hl : ∀ c ∈ l, c < 256) (hlen : l.length ≤ 1000000)
    (h : ∀ t' s', St s₀ L bs N s' → Q (.bytes (l.map fun c => c.toUInt8).toArray t') s') : wpAny (model PG w) A (call (.type "bytes") [.ref D]) Q E s := by
  refine mono_toks (call_bytes_ints hD hi (fun n hn => ?_) (by rw [hi.length, List.length_map, show sizeLine = 16777216 by decide]; omega) hh fun h' t k hk hle => ?_)
  · obtain ⟨c, hc, rfl⟩ := List.mem_map.mp hn
    have := hl c hc
    omega
  · have e : byteArr (l.map fun (c : Nat) => (c : Int)) = (l.map fun c => c.toUInt8).toArray := by
      unfold byteArr
      rw [List.map_map]
      congr 1
    rw [e]
    exact h t _ (S.keeps ⟨h', k, rfl, hk⟩ hle)
theorem flat_one : ∀ l : List Nat, (l.map fun c => [c]).flatten = l
  | [] => rfl
  | a :: r => by rw [List.map_cons, List.flatten_cons, flat_one r]; rfl
theorem paired_ints : ∀ {ps : List (List Nat)} {ys : List Value}, Paired (fun p y => ∃ c u, p = [c] ∧ y = .int (c : Int) u) ps ys → IntsAre ys (ps.flatten.map fun (c : Nat) => (c : Int))
  | _, _, .nil => .nil
  | _, _, .cons h t => by
    obtain ⟨c, u, rfl, rfl⟩ := h
    exact .cons _ _ (paired_ints t)
set_option maxHeartbeats 4000000 in
theorem law_E {L : Addr} {l : List Nat} {bs : Binds} {tt : Tok} (hA : AOk A 19) (Gb : Gnd w sb.heap) (S : St sb L bs [] s)
    (htx : lk bs "text" = some (.str (tx l) tt)) (hl : ∀ c ∈ l, c < 256) (hlen : l.length ≤ 4000) (k : ∀ s', Keeps sb s' → Q (.ret (.bool true)) s') :
    wpAny (model PG w) A (execs ((lawBody w.params).drop 10) (lawEnv w.params L)) Q E s := by
  refine wpAny_execs_cons (wpAny_Assign_Name (Call_ (ev_glob (Gb.st S) (gl_header_encode _) (cw_fn (by kernel_rfl) (spliced_more (Call_ (ev_built (Gb.st S) (gn_bytes _) boot_bytes (PyProof.Rows.callWith_type1 (spliced_more (comp_str (cl := ?cl) (l := l) (t := tt) (fun _ => true) (fun p y => ∃ c u, p = [c] ∧ y = .int (c : Int) u) hA.handled S ?hclos ?hcell ?hkind ?hnames ?hx (by omega) (ev_loc S htx ⟨rfl, rfl⟩) (fun C p u s₃ m₃ E' hp hns hm hk ht => wpAny_pure ⟨rfl, keeps_refl _⟩) (fun C p u s₃ m₃ E' hp _ hns hm hk ht => ?helt) fun Do ys n s2 hys S2 => ?hrest))))))))))
  case hclos => with_unfolding_all rfl
  case hcell => decide
  case hkind => rfl
  case hnames => decide
  case hx => rfl
  case helt =>
    obtain ⟨c, hc, rfl⟩ := List.mem_map.mp hp
    have Gk : Gnd w s₃.heap := (Gb.st S).keeps hk
    refine Call_ (ev_built Gk (gn_ord _) boot_ord (PyProof.Rows.callWith_builtin1 (spliced_more (wpAny_Name (wpAny_loadName_local rfl rfl hns hm (spliced_none (P.ord_of_char ⟨⟨c, _, rfl, rfl⟩, keeps_toks⟩))) (by decide)))))
  case hrest =>
    rw [List.filter_eq_self.mpr (fun _ _ => rfl)] at hys
    have hin := paired_ints hys
    have efl := flat_one l
    rw [efl] at hin
    refine spliced_none (call_bytes S2 hA.handled ⟨_, S2.get (.head _), rfl, n, rfl⟩ hin hl (by omega) fun t3 s3 S3 => ?_)
    refine spliced_more (ev_str S3 fun t4 s4 S4 _ _ => spliced_none ⟨Gb.st S4, wpAny_call ?_⟩)
    rw [show Str.ofString "x" = tx [120] from by decide +kernel]
    refine fn_header_encode hl (by omega) (hA.le (by omega)) (Gb.st S4) fun v s5 hv hk ht => ?_
    obtain ⟨tw, rfl⟩ := hv
    have h5 := law5 (l := l)
    have h6 := law6 hl
    refine st_name (S4.keeps hk ht).nil fun s6 S6 => ?_
    clear S2 S3 S4
    have hwl : (hword l).length ≤ 12008 := by
      unfold hword
      split
      · simp
      · have := flat_len hmap hmap_len l
        simp only [List.length_append, List.length_cons, List.length_nil]; omega
    have hszl : sizeLine = 16777216 := by decide
    generalize hword l = wd at *
    refine wpAny_execs_cons (wpAny_If (wpAny_isTrue_Compare1 (Tuple_ (spliced_more (Subscript_ (ev_loc S6 rfl ?_))))))
    refine ev_slice (by omega) (evalPart_none_step (evalPart_some_step (ev_int S6 fun t7 s7 S7 _ _ => ⟨none, some (6, t7), _, _, rfl, rfl, S7, fun t8 s8 S8 => ?_⟩)))
    refine spliced_more (Subscript_ (ev_loc S8 rfl ?_))
    refine ev_slice (by omega) (evalPart_some_step (UnaryOp_ (ev_int S8 fun t9 s9 S9 _ _ => int_neg S9 fun t10 s10 S10 => evalPart_none_step ⟨some (-2, t10), none, _, _, rfl, rfl, S10, fun t11 s11 S11 => ?_⟩)))
    refine spliced_none (new_tuple S11 (by show 2 ≤ sizeLine; decide) fun D12 s12 S12 => ?_)
    refine IfExp_ (wpAny_isTrue_Compare1 (ev_loc S12 htx (ev_str S12 fun t13 s13 S13 _ _ => ?_)))
    rw [show Str.ofString "" = tx [] from by decide +kernel]
    refine ne_tx (wpAny_truthy_bool ?_)
    have rest : ∀ {s'}, St sb L ((Str.ofString "word", .str (tx wd) tw) :: bs) [] s' → wpAny (model PG w) A (execs ((lawBody w.params).drop 12) (lawEnv w.params L)) Q E s' := by
      intro s14 S14
      refine wpAny_execs_cons (wpAny_Return_some (wpAny_Compare1 (Call_ (ev_glob (Gb.st S14) (gl_decode _) (cw_fn (by kernel_rfl) (spliced_more (MethodCall_ (Subscript_ (ev_loc S14 rfl ?_)))))))))
      refine ev_slice (by omega) (evalPart_some_step (ev_int S14 fun t15 s15 S15 _ _ => evalPart_some_step (UnaryOp_ (ev_int S15 fun t16 s16 S16 _ _ => int_neg S16 fun t17 s17 S17 => ⟨some (6, t15), some (-2, t17), _, _, rfl, rfl, S17, fun t18 s18 S18 => ?_⟩))))
      have hp := S18.pos
      refine GM.replace (callWith_method1 (spliced_more (ev_str S18 fun t19 s19 S19 h19 h19' => spliced_more (ev_str S19 fun t20 s20 S20 h20 h20' => spliced_none ?_))))
      rw [show Str.ofString "_" = tx [95] from by decide +kernel, show Str.ofString "=20" = tx [61, 50, 48] from by decide +kernel]
      have hsw : (sl wd (some 6) (some (-2))).length ≤ 12008 := by
        unfold sl; rw [List.length_take, List.length_drop]; omega
      have hr := rep1_len3 95 [61, 50, 48] (sl wd (some 6) (some (-2))) (by simp)
      have hda := decAll_len (rep1 95 [61, 50, 48] (sl wd (some 6) (some (-2))))
      refine call_replace1 (l := sl wd (some 6) (some (-2))) S20 (show 0 < t19 by omega) (show t19 < t20 by omega) (by simp) (by omega) (by decide) fun t21 s21 S21 => ?_
      refine spliced_none ⟨Gb.st S21, wpAny_call (fn_decode (by omega) (by omega) (hA.le (by omega)) (Gb.st S21) fun v s22 hv hk ht => ?_)⟩
      obtain ⟨tv, rfl⟩ := hv
      have S22 := S21.keeps hk ht
      rw [h6]
      refine ev_loc S22 htx (eq_tx ?_)
      rw [show (l == l) = true by simp]
      exact k _ S22.done
    by_cases hle : l = []
    · rw [if_neg (by simp [hle])]
      rw [if_pos hle] at h5
      have e1 : sl wd none (some 6) = [] := congrArg Prod.fst h5
      have e2 : sl wd (some (-2)) none = [] := congrArg Prod.snd h5
      have S13' : St sb L ((Str.ofString "word", .str (tx wd) tw) :: bs) ((D12, tupObj [.str (tx (sl wd none (some 6))) t8, .str (tx (sl wd (some (-2)) none)) t11]) :: []) s13 := S13
      rw [e1, e2] at S13'
      refine Tuple_ (spliced_more (ev_str S13' fun t14 s14 S14 _ _ => spliced_more (ev_str S14 fun t15 s15 S15 _ _ => spliced_none (new_tuple S15 (by show 2 ≤ sizeLine; decide) fun D16 s16 S16 => ?_))))
      refine ne_dataS (.tuple (S16.get (.tail _ (.head _))) rfl rfl (.cons (.str _ _) (.cons (.str _ _) .nil))) (.tuple (S16.get (.head _)) rfl rfl (.cons (.str _ _) (.cons (.str _ _) .nil))) (by decide +kernel) (by decide +kernel) (by have := hA.units; omega) (wpAny_truthy_bool ?_)
      exact itep (by decide +kernel) (wpAny_execs_nil (rest S16.nil))
    · rw [if_pos (by simpa using hle)]
      rw [if_neg hle] at h5
      have e1 : sl wd none (some 6) = [61, 63, 120, 63, 113, 63] := congrArg Prod.fst h5
      have e2 : sl wd (some (-2)) none = [63, 61] := congrArg Prod.snd h5
      have S13' : St sb L ((Str.ofString "word", .str (tx wd) tw) :: bs) ((D12, tupObj [.str (tx (sl wd none (some 6))) t8, .str (tx (sl wd (some (-2)) none)) t11]) :: []) s13 := S13
      rw [e1, e2] at S13'
      refine Tuple_ (spliced_more (ev_str S13' fun t14 s14 S14 _ _ => spliced_more (ev_str S14 fun t15 s15 S15 _ _ => spliced_none (new_tuple S15 (by show 2 ≤ sizeLine; decide) fun D16 s16 S16 => ?_))))
      refine ne_dataS (.tuple (S16.get (.tail _ (.head _))) rfl rfl (.cons (.str _ _) (.cons (.str _ _) .nil))) (.tuple (S16.get (.head _)) rfl rfl (.cons (.str _ _) (.cons (.str _ _) .nil))) (by decide +kernel) (by decide +kernel) (by have := hA.units; omega) (wpAny_truthy_bool ?_)
      exact itep (by decide +kernel) (wpAny_execs_nil (rest S16.nil))
end
end Mine
end

section
open PySem PySem.W PyProof.Rows PySem.Calls
set_option Elab.async false
set_option maxRecDepth 100000
namespace Mine
open Builtin
section
variable {w : World} {A : Around} {s sb : Shared} {Q : Flow → Shared → Prop} {E : Value → Shared → Prop}
theorem slice0 {Q : Value → Shared → Prop} {value : Expr} {lower upper : Option Expr} {p : Pos} {x : List Nat} {t : Tok} {env : Env} (hsz : x.length ≤ sizeLine)
    (h : wpAny (model PG w) A (evalPart lower env) (fun vl s₁ => wpAny (model PG w) A (evalPart upper env) (fun vu s₂ => ∃ l u, vl = partValue l ∧ vu = partValue u ∧
      ∀ t' s', Keeps s₂ s' → Q (.str (tx (sl x (l.map (·.1)) (u.map (·.1)))) t') s') E s₁) E s)
    (he : ∀ a, subscripted (.Slice lower upper none p) false (.str (tx x) t) (.ref a) = operate [.ref a, .str (tx x) t] (getItem (.str (tx x) t) (.ref a)) := by intro _; with_unfolding_all rfl)
    (ht : ∀ r, letTemporaryGo value (.str (tx x) t) r = pure () := by intro _; with_unfolding_all rfl) :
    wpAny (model PG w) A (eval (.Slice lower upper none p) env) (fun i s₂ => wpAny (model PG w) A (subscriptTail value (.Slice lower upper none p) (.str (tx x) t) i) Q E s₂) E s := by
  refine wpAny_Slice (wpAny_mono h (fun vl s₁ h₁ => wpAny_mono h₁ (fun vu s₂ h₂ => evalPart_none_step ?_) fun _ _ e => e) fun _ _ e => e)
  obtain ⟨l, u, rfl, rfl, hQ⟩ := h₂
  refine ItemOn_tail (l := l) (u := u) ⟨_, Heap.get?_push_size _ rfl, rfl, rfl⟩ (by rw [tx_len]; exact hsz) (fun t' k => ?_) (he _) ht
  rw [slice_tx]
  exact hQ t' _ ⟨_, _, rfl, fun b o e => Heap.get?_push_of_some _ e⟩
set_option maxHeartbeats 4000000 in
theorem law_C {L : Addr} {l : List Nat} {M : Nat} {bs : Binds} {o1 o2 o3 o4 : Obj} {Dr : Addr} {vr : List Value} {tt t1 : Tok} (hA : AOk A 19) (Gb : Gnd w sb.heap) (S : St sb L bs [(Dr, listObj vr), (L + 1, o1), (L + 2, o2), (L + 3, o3), (L + 4, o4)] s)
    (d1 : o1.data = .cell (some (.int (M : Int) t1))) (htx : lk bs "text" = some (.str (tx l) tt)) (hrw : lk bs "rows" = some (.ref Dr)) (hvr : txs (spl [10] (nrm l)) vr) (hM : 4 ≤ M) (hl : ∀ c ∈ l, c < 256) (hlen : l.length ≤ 4000)
    (k : ∀ s', Keeps sb s' → Q (.ret (.bool true)) s') :
    wpAny (model PG w) A (execs ((lawBody w.params).drop 7) (lawEnv w.params L)) Q E s := by
  refine wpAny_execs_cons (wpAny_Assign_Name (Call_ (ev_glob (Gb.st S) (gl_body_encode _) (cw_fn (by kernel_rfl) (spliced_more (ev_loc S htx (spliced_more (ev_cell S (.tail _ (.head _)) d1 (spliced_none ⟨Gb.st S, wpAny_call (fn_body_encode hM hl (by omega) (hA.le (by omega)) (Gb.st S) fun v s2 hv hk ht => ?_)⟩)))))))))
  obtain ⟨tv, rfl⟩ := hv
  have hbl := benc_len hM l
  have hl3 := law3 hM hl
  have hl4 := law4 hM hl
  generalize benc M l = told at *
  refine st_name (S.keeps hk ht) fun s3 S3 => ?_
  clear S hk ht
  have hs1 := spl_len [10] told (by simp)
  have hs2 := spl_len [61, 10] told (by simp)
  refine wpAny_execs_cons (wpAny_If (wpAny_isTrue_Compare1 (comp_list (cl := ?cl) (fun p => decide (p.length > M) || blankE p) (fun _ _ => False) (spl [10] told) hA.handled S3 ?hclos ?hcell ?hkind ?hnames ?hx (by omega) ?hi (fun s₁ S₁ => ?hT) (fun s₁ S₁ => ?hE) fun D4 ys n s4 hys S4 => ?hrest)))
  case hclos => with_unfolding_all rfl
  case hcell => decide
  case hkind => rfl
  case hnames => decide
  case hx => rfl
  case hi =>
    refine MethodCall_ (ev_loc S3 rfl (GM.split (callWith_method1 (spliced_more (ev_str S3 fun t4 s4 S4 _ _ => spliced_none ?_)))))
    rw [show Str.ofString "\n" = tx [10] from by decide +kernel]
    exact call_split S4 (by omega) (by simp) fun D5 vs s5 hvs S5 => ⟨D5, vs, rfl, hvs, S5⟩
  case hE =>
    intro C p u s₃ m₃ E' hp hq
    obtain ⟨h1, h2⟩ := hl3 p hp
    have hq' : (decide (p.length > M) || blankE p) = true := hq
    rw [h2] at hq'
    simp at hq'
    omega
  case hT =>
    intro C p u s₃ m₃ E' hp hns hm hk ht
    obtain ⟨h1, h2⟩ := hl3 p hp
    have Gk : Gnd w s₃.heap := (Gb.st S₁).keeps hk
    have c1 : s₃.heap.IsCell (L + 1) (some (.int (M : Int) t1)) := ⟨o1, hk _ _ (S₁.get (.tail _ (.head _))), d1⟩
    have hpl : p.length ≤ 96001 := by have := mem_flat_len hp; have := spl_flat [10] told (by simp); omega
    have hqp : (decide (p.length > M) || blankE p) = false := by rw [h2]; simp; exact h1
    rw [List.forIn_cons]
    refine wpAny_bind (KFB.if_so rfl (wpAny_bind ?_))
    refine wpAny_mono (Q := fun ok s₄ => ok = false ∧ Keeps s₃ s₄) ?_ (fun ok s₄ h => wpAny_pure (wpAny_pure ⟨h.1.trans hqp.symm, h.2⟩)) fun _ _ e => e
    refine isTrue_or (wpAny_isTrue_Compare1 (Call_ (ev_built Gk (gn_len _) boot_len (PyProof.Rows.callWith_builtin1 (spliced_more ?_)))))
    refine wpAny_Name (wpAny_loadName_local rfl rfl hns hm ?_) (by decide)
    refine spliced_none (len_str (by rw [tx_len]; omega) ?_)
    rw [tx_len]
    refine wpAny_Name (wpAny_loadName_cell rfl rfl rfl c1 (gt_int (wpAny_truthy_bool ?_))) (by decide)
    rw [if_neg (by simp; omega)]
    refine isTrue_or (wpAny_isTrue_Compare1 (Subscript_ ?_))
    refine wpAny_Name (wpAny_loadName_local rfl rfl hns hm ?_) (by decide)
    refine slice0 (by rw [show sizeLine = 16777216 by decide]; omega) (evalPart_some_step (UnaryOp_ (wpAny_Constant_int (neg_int (evalPart_none_step ⟨some (-1, _), none, rfl, rfl, fun t' s' hk' => ?_⟩)))))
    refine Tuple_ (spliced_more (Constant_str (spliced_more (Constant_str (spliced_none ?_)))))
    refine wpAny_newObj_type ?_ (by show 2 ≤ sizeLine; decide)
    refine in_tuple_strs ⟨_, Heap.get?_push_size _ rfl, rfl, _, rfl⟩ (.cons _ _ (.cons _ _ .nil)) (wpAny_truthy_bool ?_)
    have hb : ([Str.ofString " ", Str.ofString "\t"].any (fun q => q == tx (sl p (some (-1)) none))) = false := by
      have := blank_last h2
      rw [show Str.ofString " " = tx [32] from by decide +kernel, show Str.ofString "\t" = tx [9] from by decide +kernel]
      simp only [List.any_cons, List.any_nil, tx_beq] at this ⊢
      exact this
    refine itep hb ?_
    exact isTrue_or_nil ⟨rfl, keeps_trans keeps_toks (keeps_trans hk' ⟨_, _, rfl, fun b o e => Heap.get?_push_of_some _ e⟩)⟩
  case hrest =>
    have hfe : (spl [10] told).filter (fun p => decide (p.length > M) || blankE p) = [] := by
      rw [List.filter_eq_nil_iff]
      intro p hp
      obtain ⟨h1, h2⟩ := hl3 p hp
      rw [h2]; simp; exact h1
    rw [hfe] at hys
    cases hys
    refine List_ (spliced_none (new_list S4 (by simp) fun D5 s5 S5 => ?_))
    refine ne_dataS (.list (S5.get (.tail _ (.head _))) rfl rfl .nil) (.list (S5.get (.head _)) rfl rfl .nil) rfl rfl (by have := hA.units; omega) (wpAny_truthy_bool ?_)
    refine itep rfl (wpAny_execs_nil ?_)
    have S6 := S5.sub ((List.sublist_cons_self _ _).trans (List.sublist_cons_self _ _))
    exact law_D hA Gb S6 htx rfl hrw hvr hlen hbl hl4 fun s' S' => law_E hA Gb S' htx hl hlen k
end
end Mine
end

section
open PySem PySem.W PyProof.Rows PySem.Calls
set_option Elab.async false
set_option maxRecDepth 100000
namespace Mine
open Builtin
section
variable {w : World} {A : Around} {s : Shared}
set_option maxHeartbeats 4000000 in
theorem fn_law {vs : List Value} {ns : List Int} {D : Addr} {R : Result → Shared → Prop} (hA : AOk A 20) (G : Gnd w s.heap) (hD : s.heap.IsList D vs.toArray) (hI : IntsAre vs ns) (hn : ns.length ≤ 63)
    (hR : ∀ s', Keeps s s' → R (.ok (.ret (.bool true))) s') : codeAny (model PG w) A (.call (.ref 121) ⟨[.ref D], []⟩) R s := by
  refine enter_law (k := 19) hA G rfl fun L s1 hL hns hkeep hst hA1 => ?_
  refine wpAny_execs_cons (wpAny_Assign_Name (Subscript_ (wpAny_BinOp (wpAny_Name (wpAny_loadName_local rfl rfl hns rfl ?_) (by decide)))))
  refine List_ (spliced_more (wpAny_Constant_int (spliced_none ?_)))
  obtain ⟨o1, o2, o3, o4, d1, d2, d3, d4, S2⟩ := hst _ (Nat.lt_succ_self _)
  generalize hs0 : ({ s with toks := s1.toks } : Shared) = sb at S2
  have hsb : sb.heap = s.heap := by rw [← hs0]
  have Gb : Gnd w sb.heap := by rw [hsb]; exact G
  have hDb : ∀ {bs N s'}, St sb L bs N s' → s'.heap.IsList D vs.toArray := fun S => hD.at fun o e => S.fr.keep _ _ (by rw [hsb]; exact e)
  have hRb : ∀ {bs N s'}, St sb L bs N s' → R (.ok (.ret (.bool true))) s' := fun S => hR _ (by
    obtain ⟨h', tk, rfl, hk⟩ := S.done
    rw [← hs0]
    exact ⟨h', tk, rfl, fun b o e => hk b o (by rw [hsb]; exact e)⟩)
  refine new_list S2 (by simp; decide) fun D3 s3 S3 => ?_
  refine add_lists S3.fr S3.nw (hDb S3) (ws := [.int 24 s1.toks]) ⟨_, S3.get (.head _), rfl, 0, rfl⟩ (fun h' F4 N4 => ?_) (by rw [hI.length, show sizeLine = 16777216 by decide]; simp; omega)
  have S4 := (S3.of_new F4 N4 (Nat.le_refl _))
  refine wpAny_Constant_int ?_
  have S5 := S4.toks (Nat.le_succ _)
  obtain ⟨hd, th, hhd⟩ : ∃ h t, (vs ++ [Value.int 24 s1.toks])[(0 : Int).toNat]? = some (.int h t) := by
    cases vs with
    | nil => exact ⟨_, _, rfl⟩
    | cons v r =>
      obtain ⟨n, t, hv⟩ := ints_mem hI v (.head _)
      exact ⟨n, t, by rw [hv]; rfl⟩
  have hli : Heap.IsList _ _ (vs ++ [Value.int 24 s1.toks]).toArray := ⟨_, S5.get (.head _), rfl, 0, rfl⟩
  refine tail_any hli.typeIs slot_list_getitem.lookup (wpAny_getItem_list hli (by decide) (by decide) (by simpa using hhd) ?_) (by with_unfolding_all rfl)
  have S6 : St sb L [(Str.ofString "script", .ref D)] [(L + 1, o1), (L + 2, o2), (L + 3, o3), (L + 4, o4)] _ := S5.sub ((List.sublist_cons_self _ _).trans (List.sublist_cons_self _ _))
  refine st_name S6 fun s7 S7 => ?_
  refine wpAny_execs_cons (wpAny_Assign_Name (wpAny_BinOp (ev_int S7 fun t8 s8 S8 _ _ => ?_)))
  refine wpAny_mono (Q := fun v s' => ∃ a t, v = .int a t ∧ 0 ≤ a ∧ St sb L ((Str.ofString "head", .int hd th) :: [(Str.ofString "script", .ref D)]) [(L + 1, o1), (L + 2, o2), (L + 3, o3), (L + 4, o4)] s') ?_ (fun v s9 h => ?_) fun _ _ e => e
  · refine IfExp_ (wpAny_isTrue_Compare1 (wpAny_BinOp (ev_loc S8 rfl (ev_int S8 fun t9 s9 S9 _ _ => mod_int (by decide) (ev_int (S9.toks (Nat.le_succ _)) fun t10 s10 S10 _ _ => eq_int (wpAny_truthy_bool ?_))))))
    split
    · refine wpAny_BinOp (Call_ (ev_built (Gb.st S10) (gn_abs _) boot_abs (PyProof.Rows.callWith_builtin1 (spliced_more (ev_loc S10 rfl (spliced_none (mono_toks (call_abs_int fun t11 k11 hk11 => ?_))))))))
      refine ev_int (S10.toks hk11) fun t12 s12 S12 _ _ => floordiv_int (by decide) ⟨_, _, rfl, ?_, S12.toks (Nat.le_succ _)⟩ (.inl (PyProof.noPylong_small (by decide)))
      rw [Int.fdiv_eq_ediv_of_nonneg _ (by decide)]
      split <;> omega
    · refine wpAny_BinOp (wpAny_BinOp (ev_loc S10 rfl (ev_int S10 fun t11 s11 S11 _ _ => floordiv_int (by decide) (ev_int (S11.toks (Nat.le_succ _)) fun t12 s12 S12 _ _ => mod_int (by decide) ⟨_, _, rfl, ?_, S12.toks (Nat.le_succ _)⟩) (.inl (PyProof.noPylong_small (by decide))))))
      exact Int.fmod_nonneg_of_pos _ (by decide)
  obtain ⟨a, ta, rfl, ha, S9⟩ := h
  refine int_add S9 fun t10 s10 S10 => ?_
  obtain ⟨M, hM, hMa⟩ : ∃ M : Nat, 4 ≤ M ∧ 4 + a = (M : Int) := ⟨(4 + a).toNat, by omega, by omega⟩
  rw [hMa]
  refine st_cell (N₁ := []) S10 d1 fun o1' s11 d1' S11 => ?_
  clear S2 S3 S4 S5 S6 S7 S8 S9 S10 N4 F4
  refine wpAny_execs_cons (wpAny_Assign_Name (ev_strl S11 fun t12 s12 S12 _ _ => st_name S12 fun s13 S13 => ?_))
  refine wpAny_execs_cons (wpAny_mono (Q := fun f s' => f = .next ∧ ∃ l bs t, St sb L bs [(L + 1, o1'), (L + 2, o2), (L + 3, o3), (L + 4, o4)] s' ∧ lk bs "text" = some (.str (tx l) t) ∧ (∀ c ∈ l, c < 256) ∧ l.length ≤ 4000) ?_ (fun f s14 h => ?_) fun _ _ e => e)
  · refine wpAny_If (wpAny_isTrue_Compare1 (Call_ (ev_built (Gb.st S13) (gn_len _) boot_len (PyProof.Rows.callWith_builtin1 (spliced_more (ev_loc S13 rfl (spliced_none (len_list (hDb S13) (by rw [List.size_toArray, hI.length]; omega) ?_))))))))
    refine ev_int ((S13.toks (Nat.le_succ _)).toks (Nat.le_succ _)) fun t14 s14 S14 _ _ => gt_int (wpAny_truthy_bool ?_)
    split
    · refine wpAny_execs_cons (wpAny_Assign_Name (Call_ (ev_glob (Gb.st S14) (gl_law_text _) (cw_fn (by kernel_rfl) (spliced_more (Subscript_ (ev_loc S14 rfl (wpAny_Slice (evalPart_some_step (ev_int S14 fun t15 s15 S15 _ _ => evalPart_none_step (evalPart_none_step ?_)))))))))))
      refine slice_listK (lo := some 1) (hi := none) (hDb S15) (.int _ _) .none ?_ ?_ ?_ ?_
      · have S16 := (S15.alloc { cls := .type "slice", data := .fields #[.int 1 t15, .none, .none] } rfl).alloc { cls := .type "list", data := .seq (slicePick vs.toArray (some 1) none none) } rfl
        have S17 := S16.sub ((List.sublist_cons_self _ _).trans (List.sublist_cons_self _ _))
        refine spliced_none ⟨Gb.st S16, wpAny_call ?_⟩
        have hsz : (s15.heap.push { cls := .type "slice", data := .fields #[.int 1 t15, .none, .none] }).objs.size = s15.heap.objs.size + 1 := Heap.size_push ..
        refine fn_law_text (vs := (slicePick vs.toArray (some 1) none none).toList) ⟨_, (by rw [← hsz]; exact S16.get (.head _)), rfl, 0, (by simp)⟩ (IntsAre.all (hI.pick (some 1) none none)) (hA1.le (by omega)) (Gb.st S16) fun v s18 hv hk ht => ?_
        obtain ⟨l, ⟨tl, rfl⟩, hl1, hl2⟩ := hv
        refine st_name (S17.keeps hk ht) fun s19 S19 => wpAny_execs_nil ⟨rfl, l, _, tl, S19, rfl, hl1, hl2⟩
      · with_unfolding_all rfl
      · intro _; with_unfolding_all rfl
      · rw [List.size_toArray, hI.length, show sizeLine = 16777216 by decide]; omega
    · refine wpAny_execs_nil ⟨rfl, _, _, t12, S14, rfl, ?_, ?_⟩
      · decide +kernel
      · decide +kernel
  obtain ⟨rfl, l, bs, tt, S15, htx, hl, hlen⟩ := h
  clear S11 S12 S13
  refine law_B hA1 Gb S15 d1' d2 d3 d4 htx hl hlen fun bs s' o2 o3 o4 Dr vr S h1 h2 hvr => law_C hA1 Gb S d1' h1 h2 hvr hM hl hlen fun s' hk => ?_
  exact hR _ (by
    obtain ⟨h', tk, rfl, hk⟩ := hk
    rw [← hs0]
    exact ⟨h', tk, rfl, fun b o e => hk b o (by rw [hsb]; exact e)⟩)
end
end Mine
end

open PySem PySem.W PyProof.Rows PySem.Calls
set_option Elab.async false
namespace Mine
theorem gl_law (P : Params) : nsIn (KK P) mainGlobals (Str.ofString "law") = some (some (.ref 121)) := by kernel_rfl
end Mine
set_option maxRecDepth 100000 in
set_option maxHeartbeats 0 in
theorem PySem.Challenge.cw_dp0022_01_holds : PySem.Challenge.rw_dp0022_01.Holds := by
  refine Mine.hd ?_
  intro w s₀ s₁ mg mb G Y fa o pm cd doc dV kV ho hd hcd hD hmg hg args vals as hpre hlay hrd hwl hlo
  have KX := kIn_of Y
  clear ho hd hcd hD
  refine Ground.open G ?_
  intro T B D TE TW
  try (refine guard_noD D (by decide +kernel) ?_; clear D)
  have hfa : fa = 121 := by
    have e1 := mg_of KX T.g (Mine.gl_law w.params)
    have e2 : mg (Str.ofString "law") = some (.ref fa) := hmg
    rw [e1] at e2
    injection e2 with e2
    injection e2 with e2
    exact e2.symm
  subst hfa
  clear hmg
  have GG : Mine.Gnd w s₁.heap := ⟨KX, ⟨_, T.g⟩, ⟨_, T.b, T.builtins⟩, T.nolimit⟩
  wrow_args hpre hlay hrd hwl hlo
  refine enter_call ?_
  refine codeAny_mono ?_ (fun _ _ g => GoodW.toG g)
  rename_i ns hs1 hs2 hs3 hs4 hs5 as1 as2 D vs as3 hL ra w1 r0 hI hr hc1 hc2
  refine Mine.fn_law ⟨rfl, by decide, by decide⟩ GG hL hI (by omega) fun s' hk => ?_
  obtain ⟨h', tk, rfl, hkeep⟩ := hk
  refine ⟨.inl ⟨.bool true, .bool true, [], rfl, ?_, ?_, ?_, ?_⟩, hkeep, rfl, hg⟩
  · exact raisesW_false (by wrow_none_raised)
  · exact ReadsW.bool _
  · wrow_post
  · exact fun _ => ⟨List.nodup_nil, fun _ h => nomatch h⟩
