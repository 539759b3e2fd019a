import PyProof.Rows.All
import Wide.All
import OpenK.AllK
import Wide.FinOn
import PySem.Challenge.RW_re0016_01
set_option Elab.async false

section -- R1
namespace Mine
open PySem PySem.Sre

theorem runFor_done (m : M) (h : m.outcome.isSome = true) : ∀ n, M.runFor n m = m
  | 0 => rfl
  | n + 1 => by rw [M.runFor, if_pos h]
theorem runFor_add (b : Nat) : ∀ (a : Nat) (m : M), M.runFor (a + b) m = M.runFor b (M.runFor a m)
  | 0, m => by rw [Nat.zero_add]; rfl
  | a + 1, m => by
    rw [Nat.add_right_comm]
    by_cases h : m.outcome.isSome = true
    · rw [runFor_done m h, runFor_done m h, runFor_done m h]
    · rw [M.runFor, if_neg h, M.runFor, if_neg h, runFor_add b a]
theorem runFor_one (m : M) (n : Nat) (h : m.outcome = none) : M.runFor (n + 1) m = M.runFor n m.step := by
  rw [M.runFor, h]; rfl

def c1 : Array Nat := #[14, 4, 0, 1, 1, 6, 1, 16, 46, 1]

/-- an attempt of the first pattern at p -/
def st1 (text : Array Nat) (p : Nat) (seen : Seen) (om : Bool) : M :=
  { code := c1, text, lim := text.size, start := p, lastStart := text.size, pc := 5, pos := p, handed := p, outermost := om, marks := #[],
    frames := [{ wait := .nextStart, pc := 5, pos := p, outermost := om }], weight := 1, seen }

theorem st1_a (text : Array Nat) (p : Nat) (seen : Seen) (om : Bool) (hb : (p == 0 || text.getD (p - 1) 0 == 10) = true) :
    (st1 text p seen om).step = { st1 text p seen om with pc := 7, seen := (seen.add 6).add 44 } := by
  show (if (p == 0 || text.getD (p - 1) 0 == 10) = true then _ else _) = _
  rw [if_pos hb]; rfl
theorem st1_b (text : Array Nat) (p : Nat) (seen : Seen) (om : Bool) (hb : (p == 0 || text.getD (p - 1) 0 == 10) = false) :
    (st1 text p seen om).step = { st1 text p seen om with answer := some false, seen := (seen.add 6).add 44 } := by
  show (if (p == 0 || text.getD (p - 1) 0 == 10) = true then _ else _) = _
  rw [if_neg (by rw [hb]; decide)]; rfl
theorem st1_c (text : Array Nat) (p : Nat) (seen : Seen) (om : Bool) (hb : ¬ p < text.size ∨ (text.getD p 0 == 46) = false) :
    ({ st1 text p seen om with pc := 7 } : M).step = { st1 text p seen om with pc := 7, answer := some false, seen := seen.add 16 } := by
  show (if p ≥ text.size then _ else match (Except.ok (text.getD p 0 == 46, seen.add 16) : Except String (Bool × Seen)) with | .error why => _ | .ok (false, seen) => _ | .ok (true, seen) => _) = _
  rcases hb with hb | hb
  · rw [if_pos (by omega)]; rfl
  · by_cases h : p ≥ text.size
    · rw [if_pos h]; rfl
    · rw [if_neg h, hb]; rfl
theorem st1_d (text : Array Nat) (p : Nat) (seen : Seen) (om : Bool) (hp : p < text.size) (hb : (text.getD p 0 == 46) = true) :
    ({ st1 text p seen om with pc := 7 } : M).step = { st1 text p seen om with pc := 9, pos := p + 1, seen := seen.add 16 } := by
  show (if p ≥ text.size then _ else match (Except.ok (text.getD p 0 == 46, seen.add 16) : Except String (Bool × Seen)) with | .error why => _ | .ok (false, seen) => _ | .ok (true, seen) => _) = _
  rw [if_neg (by omega), hb]; rfl

theorem st1_e (text : Array Nat) (p : Nat) (seen : Seen) (om : Bool) :
    ({ st1 text p seen om with pc := 9, pos := p + 1 } : M).step = { st1 text p seen om with pc := 9, pos := p + 1, handed := p + 1, answer := some true, seen := seen.add 1 } := by
  cases om <;> rfl
theorem st1_f (text : Array Nat) (p : Nat) (seen : Seen) (om : Bool) :
    ∃ m' : M, M.runFor 2 ({ st1 text p seen om with pc := 9, pos := p + 1, handed := p + 1, answer := some true } : M) = m' ∧ m'.outcome = some .matched ∧ m'.start = p ∧ m'.handed = p + 1 := by
  cases om <;> exact ⟨_, rfl, rfl, rfl, rfl⟩
/-- a fall at p: on to p + 1 -/
theorem st1_g (text : Array Nat) (p q : Nat) (seen : Seen) (om : Bool) (hp : p < text.size) :
    ({ st1 text p seen om with pc := q, answer := some false } : M).step = st1 text (p + 1) seen false := by
  show (if p < text.size then _ else _) = _
  rw [if_pos hp]; rfl
theorem st1_h (text : Array Nat) (p q : Nat) (seen : Seen) (om : Bool) (hp : ¬ p < text.size) :
    ∃ m' : M, M.runFor 2 ({ st1 text p seen om with pc := q, answer := some false } : M) = m' ∧ m'.outcome = some .failed := by
  have e : ({ st1 text p seen om with pc := q, answer := some false } : M).step = { st1 text p seen om with frames := [], weight := 0, answer := some false } := by
    show (if p < text.size then _ else _) = _
    rw [if_neg hp]; rfl
  rw [runFor_one _ _ rfl, e]
  exact ⟨_, rfl, rfl⟩

/-- what the first pattern finds from p on -/
def find1 (text : Array Nat) : Nat → Nat → Option Nat
  | 0, _ => none
  | n + 1, p => if (p == 0 || text.getD (p - 1) 0 == 10) && text.getD p 0 == 46 then some p else find1 text n (p + 1)

def Found1 (m : M) (r : Option Nat) : Prop := match r with
  | some s => m.outcome = some .matched ∧ m.start = s ∧ m.handed = s + 1
  | none => m.outcome = some .failed

theorem found1_trans {m m₁ : M} {r : Option Nat} {a b : Nat} (h : M.runFor a m = m₁) (x : ∃ k, k ≤ b ∧ Found1 (M.runFor k m₁) r) : ∃ k, k ≤ a + b ∧ Found1 (M.runFor k m) r := by
  obtain ⟨k, hk, f⟩ := x
  exact ⟨a + k, by omega, by rw [runFor_add, h]; exact f⟩

theorem search1 (text : Array Nat) : ∀ (n p : Nat) (seen : Seen) (om : Bool), p + n = text.size → ∃ k, k ≤ 3 * n + 6 ∧ Found1 (M.runFor k (st1 text p seen om)) (find1 text n p)
  | 0, p, seen, om, hn => by
    cases hb : (p == 0 || text.getD (p - 1) 0 == 10) with
    | false =>
      obtain ⟨m', e, ho⟩ := st1_h text p 5 ((seen.add 6).add 44) om (by omega)
      refine ⟨3, by omega, ?_⟩
      rw [runFor_one _ _ rfl, st1_b _ _ _ _ hb]
      have : M.runFor 2 ({ st1 text p seen om with answer := some false, seen := (seen.add 6).add 44 } : M) = m' := e
      rw [this]; exact ho
    | true =>
      obtain ⟨m', e, ho⟩ := st1_h text p 7 (((seen.add 6).add 44).add 16) om (by omega)
      refine ⟨4, by omega, ?_⟩
      rw [runFor_one _ _ rfl, st1_a _ _ _ _ hb]
      have e2 : ({ st1 text p seen om with pc := 7, seen := (seen.add 6).add 44 } : M).step = _ := st1_c text p ((seen.add 6).add 44) om (.inl (by omega))
      rw [runFor_one _ _ rfl, e2]
      have : M.runFor 2 ({ st1 text p ((seen.add 6).add 44) om with pc := 7, answer := some false, seen := ((seen.add 6).add 44).add 16 } : M) = m' := e
      rw [this]; exact ho
  | n + 1, p, seen, om, hn => by
    have hp : p < text.size := by omega
    unfold find1
    cases hb : (p == 0 || text.getD (p - 1) 0 == 10) with
    | false =>
      rw [Bool.false_and, if_neg Bool.false_ne_true]
      have e : M.runFor 2 (st1 text p seen om) = st1 text (p + 1) ((seen.add 6).add 44) false := by
        rw [runFor_one _ _ rfl, st1_b _ _ _ _ hb, runFor_one _ _ rfl]
        exact st1_g text p 5 ((seen.add 6).add 44) om hp
      obtain ⟨k, hk, f⟩ := found1_trans e (search1 text n (p + 1) _ false (by omega))
      exact ⟨k, by omega, f⟩
    | true =>
      rw [Bool.true_and]
      cases hc : (text.getD p 0 == 46) with
      | false =>
        rw [if_neg Bool.false_ne_true]
        have e : M.runFor 3 (st1 text p seen om) = st1 text (p + 1) (((seen.add 6).add 44).add 16) false := by
          rw [runFor_one _ _ rfl, st1_a _ _ _ _ hb, runFor_one _ _ rfl]
          have e2 : ({ st1 text p seen om with pc := 7, seen := (seen.add 6).add 44 } : M).step = _ := st1_c text p ((seen.add 6).add 44) om (.inr hc)
          rw [e2, runFor_one _ _ rfl]
          exact st1_g text p 7 (((seen.add 6).add 44).add 16) om hp
        obtain ⟨k, hk, f⟩ := found1_trans e (search1 text n (p + 1) _ false (by omega))
        exact ⟨k, by omega, f⟩
      | true =>
        rw [if_pos rfl]
        obtain ⟨m', e', o1, o2, o3⟩ := st1_f text p ((((seen.add 6).add 44).add 16).add 1) om
        refine ⟨5, by omega, ?_⟩
        rw [runFor_one _ _ rfl, st1_a _ _ _ _ hb, runFor_one _ _ rfl]
        have e2 : ({ st1 text p seen om with pc := 7, seen := (seen.add 6).add 44 } : M).step = _ := st1_d text p ((seen.add 6).add 44) om hp hc
        rw [e2, runFor_one _ _ rfl]
        have e3 : ({ st1 text p ((seen.add 6).add 44) om with pc := 9, pos := p + 1, seen := ((seen.add 6).add 44).add 16 } : M).step = _ := st1_e text p (((seen.add 6).add 44).add 16) om
        rw [e3]
        have : M.runFor 2 ({ st1 text p (((seen.add 6).add 44).add 16) om with pc := 9, pos := p + 1, handed := p + 1, answer := some true, seen := (((seen.add 6).add 44).add 16).add 1 } : M) = m' := e'
        rw [this]; exact ⟨o1, o2, o3⟩

/-- the whole search by the first pattern -/
theorem forSearch1 (text : Array Nat) (p : Nat) (hp : p ≤ text.size) (hs : text.size ≤ 16777216) :
    ∃ k, k ≤ 3 * text.size + 20 ∧ Found1 (M.runFor k (forSearch c1 text 0 p text.size false)) (find1 text (text.size - p) p) := by
  by_cases h : p = text.size
  · subst h
    have e : forSearch c1 text 0 text.size text.size false = M.say { code := c1, text, lim := text.size, start := text.size, pc := 5, pos := text.size, handed := text.size, marks := #[], seen := ({} : Seen).add 14 } false := by
      unfold forSearch
      rw [if_pos]
      · rfl
      · have : (header c1).1 = 1 := rfl
        rw [this]; simp
    rw [e, Nat.sub_self]
    exact ⟨1, by omega, rfl⟩
  · have e : forSearch c1 text 0 p text.size false = st1 text p (({} : Seen).add 14) true := by
      unfold forSearch
      rw [if_neg]
      · rfl
      · have : (header c1).1 = 1 := rfl
        rw [this]; simp; omega
    rw [e]
    obtain ⟨k, hk, f⟩ := search1 text (text.size - p) p (({} : Seen).add 14) true (by omega)
    exact ⟨k, by omega, f⟩
end Mine

end -- R1

section -- R2
namespace Mine
open PySem PySem.Sre

def c2 : Array Nat := #[14, 9, 4, 1, 2, 16, 10, 16, 13, 0, 7, 7, 16, 13, 16, 10, 15, 18, 5, 16, 10, 15, 13, 11, 16, 13, 5, 5, 0, 16, 10, 1, 15, 2, 0, 1]

/-- the machine of the second pattern: what does not change is told once -/
def mk2 (text : Array Nat) (s : Nat) (pc pos handed : Nat) (om : Bool) (frames : List Sre.Frame) (weight : Nat) (answer : Option Bool) (seen : Seen) : M :=
  { code := c2, text, lim := text.size, start := s, lastStart := text.size, pc, pos, handed, outermost := om, marks := #[], frames, weight, answer, seen }
theorem lit12_t (text : Array Nat) (s pos handed : Nat) (om : Bool) (fr : List Sre.Frame) (wt : Nat) (seen : Seen) (hp : pos < text.size) (hb : (text.getD pos 0 == 13) = true) :
    (mk2 text s 12 pos handed om fr wt none seen).step = mk2 text s 14 (pos + 1) handed om fr wt none (seen.add 16) := by
  show (if pos ≥ text.size then _ else match (Except.ok (text.getD pos 0 == 13, seen.add 16) : Except String (Bool × Seen)) with | .error why => _ | .ok (false, seen) => _ | .ok (true, seen) => _) = _
  rw [if_neg (by omega), hb]; rfl
theorem lit12_f (text : Array Nat) (s pos handed : Nat) (om : Bool) (fr : List Sre.Frame) (wt : Nat) (seen : Seen) (hb : ¬ pos < text.size ∨ (text.getD pos 0 == 13) = false) :
    (mk2 text s 12 pos handed om fr wt none seen).step = mk2 text s 12 pos handed om fr wt (some false) (seen.add 16) := by
  show (if pos ≥ text.size then _ else match (Except.ok (text.getD pos 0 == 13, seen.add 16) : Except String (Bool × Seen)) with | .error why => _ | .ok (false, seen) => _ | .ok (true, seen) => _) = _
  by_cases h : pos ≥ text.size
  · rw [if_pos h]; rfl
  · rw [if_neg h, hb.resolve_left (by omega)]; rfl
theorem lit14_t (text : Array Nat) (s pos handed : Nat) (om : Bool) (fr : List Sre.Frame) (wt : Nat) (seen : Seen) (hp : pos < text.size) (hb : (text.getD pos 0 == 10) = true) :
    (mk2 text s 14 pos handed om fr wt none seen).step = mk2 text s 16 (pos + 1) handed om fr wt none (seen.add 16) := by
  show (if pos ≥ text.size then _ else match (Except.ok (text.getD pos 0 == 10, seen.add 16) : Except String (Bool × Seen)) with | .error why => _ | .ok (false, seen) => _ | .ok (true, seen) => _) = _
  rw [if_neg (by omega), hb]; rfl
theorem lit14_f (text : Array Nat) (s pos handed : Nat) (om : Bool) (fr : List Sre.Frame) (wt : Nat) (seen : Seen) (hb : ¬ pos < text.size ∨ (text.getD pos 0 == 10) = false) :
    (mk2 text s 14 pos handed om fr wt none seen).step = mk2 text s 14 pos handed om fr wt (some false) (seen.add 16) := by
  show (if pos ≥ text.size then _ else match (Except.ok (text.getD pos 0 == 10, seen.add 16) : Except String (Bool × Seen)) with | .error why => _ | .ok (false, seen) => _ | .ok (true, seen) => _) = _
  by_cases h : pos ≥ text.size
  · rw [if_pos h]; rfl
  · rw [if_neg h, hb.resolve_left (by omega)]; rfl
theorem lit19_t (text : Array Nat) (s pos handed : Nat) (om : Bool) (fr : List Sre.Frame) (wt : Nat) (seen : Seen) (hp : pos < text.size) (hb : (text.getD pos 0 == 10) = true) :
    (mk2 text s 19 pos handed om fr wt none seen).step = mk2 text s 21 (pos + 1) handed om fr wt none (seen.add 16) := by
  show (if pos ≥ text.size then _ else match (Except.ok (text.getD pos 0 == 10, seen.add 16) : Except String (Bool × Seen)) with | .error why => _ | .ok (false, seen) => _ | .ok (true, seen) => _) = _
  rw [if_neg (by omega), hb]; rfl
theorem lit19_f (text : Array Nat) (s pos handed : Nat) (om : Bool) (fr : List Sre.Frame) (wt : Nat) (seen : Seen) (hb : ¬ pos < text.size ∨ (text.getD pos 0 == 10) = false) :
    (mk2 text s 19 pos handed om fr wt none seen).step = mk2 text s 19 pos handed om fr wt (some false) (seen.add 16) := by
  show (if pos ≥ text.size then _ else match (Except.ok (text.getD pos 0 == 10, seen.add 16) : Except String (Bool × Seen)) with | .error why => _ | .ok (false, seen) => _ | .ok (true, seen) => _) = _
  by_cases h : pos ≥ text.size
  · rw [if_pos h]; rfl
  · rw [if_neg h, hb.resolve_left (by omega)]; rfl
theorem lit24_t (text : Array Nat) (s pos handed : Nat) (om : Bool) (fr : List Sre.Frame) (wt : Nat) (seen : Seen) (hp : pos < text.size) (hb : (text.getD pos 0 == 13) = true) :
    (mk2 text s 24 pos handed om fr wt none seen).step = mk2 text s 26 (pos + 1) handed om fr wt none (seen.add 16) := by
  show (if pos ≥ text.size then _ else match (Except.ok (text.getD pos 0 == 13, seen.add 16) : Except String (Bool × Seen)) with | .error why => _ | .ok (false, seen) => _ | .ok (true, seen) => _) = _
  rw [if_neg (by omega), hb]; rfl
theorem lit24_f (text : Array Nat) (s pos handed : Nat) (om : Bool) (fr : List Sre.Frame) (wt : Nat) (seen : Seen) (hb : ¬ pos < text.size ∨ (text.getD pos 0 == 13) = false) :
    (mk2 text s 24 pos handed om fr wt none seen).step = mk2 text s 24 pos handed om fr wt (some false) (seen.add 16) := by
  show (if pos ≥ text.size then _ else match (Except.ok (text.getD pos 0 == 13, seen.add 16) : Except String (Bool × Seen)) with | .error why => _ | .ok (false, seen) => _ | .ok (true, seen) => _) = _
  by_cases h : pos ≥ text.size
  · rw [if_pos h]; rfl
  · rw [if_neg h, hb.resolve_left (by omega)]; rfl
theorem lit29_t (text : Array Nat) (s pos handed : Nat) (om : Bool) (fr : List Sre.Frame) (wt : Nat) (seen : Seen) (hp : pos < text.size) (hb : (text.getD pos 0 == 10) = true) :
    (mk2 text s 29 pos handed om fr wt none seen).step = mk2 text s 31 (pos + 1) handed om fr wt none (seen.add 16) := by
  show (if pos ≥ text.size then _ else match (Except.ok (text.getD pos 0 == 10, seen.add 16) : Except String (Bool × Seen)) with | .error why => _ | .ok (false, seen) => _ | .ok (true, seen) => _) = _
  rw [if_neg (by omega), hb]; rfl
theorem lit29_f (text : Array Nat) (s pos handed : Nat) (om : Bool) (fr : List Sre.Frame) (wt : Nat) (seen : Seen) (hb : ¬ pos < text.size ∨ (text.getD pos 0 == 10) = false) :
    (mk2 text s 29 pos handed om fr wt none seen).step = mk2 text s 29 pos handed om fr wt (some false) (seen.add 16) := by
  show (if pos ≥ text.size then _ else match (Except.ok (text.getD pos 0 == 10, seen.add 16) : Except String (Bool × Seen)) with | .error why => _ | .ok (false, seen) => _ | .ok (true, seen) => _) = _
  by_cases h : pos ≥ text.size
  · rw [if_pos h]; rfl
  · rw [if_neg h, hb.resolve_left (by omega)]; rfl

/-- the kept marks of this pattern: none -/
def fNext (s : Nat) (om : Bool) : Sre.Frame := { wait := .nextStart, pc := 10, pos := s, outermost := om }
def fBr (pc s : Nat) (om : Bool) : Sre.Frame := { wait := .nextBranch, pc, pos := s, outermost := om }

def st2 (text : Array Nat) (s : Nat) (seen : Seen) (om : Bool) : M := mk2 text s 10 s s om [fNext s om] 1 none seen

def Found2 (m : M) (r : Option (Nat × Nat)) : Prop := match r with
  | some (s, e) => m.outcome = some .matched ∧ m.start = s ∧ m.handed = e
  | none => m.outcome = some .failed

theorem st2_br (text : Array Nat) (s : Nat) (seen : Seen) (om : Bool) : (st2 text s seen om).step = mk2 text s 12 s s om [fBr 11 s om, fNext s om] 2 none (seen.add 7) := by
  cases om <;> rfl
theorem br2_18 (text : Array Nat) (s pc pos h : Nat) (seen : Seen) (om : Bool) : (mk2 text s pc pos h om [fBr 11 s om, fNext s om] 2 (some false) seen).step = mk2 text s 19 s s om [fBr 18 s om, fNext s om] 2 none seen := by
  cases om <;> rfl
theorem br2_23 (text : Array Nat) (s pc pos h : Nat) (seen : Seen) (om : Bool) : (mk2 text s pc pos h om [fBr 18 s om, fNext s om] 2 (some false) seen).step = mk2 text s 24 s s om [fBr 23 s om, fNext s om] 2 none seen := by
  cases om <;> rfl
theorem jump16 (text : Array Nat) (s pos h : Nat) (seen : Seen) (om : Bool) (fr : List Sre.Frame) (wt : Nat) : (mk2 text s 16 pos h om fr wt none seen).step = mk2 text s 35 pos h om fr wt none (seen.add 15) := rfl
theorem jump21 (text : Array Nat) (s pos h : Nat) (seen : Seen) (om : Bool) (fr : List Sre.Frame) (wt : Nat) : (mk2 text s 21 pos h om fr wt none seen).step = mk2 text s 35 pos h om fr wt none (seen.add 15) := rfl
theorem jump32 (text : Array Nat) (s pos h : Nat) (seen : Seen) (om : Bool) (fr : List Sre.Frame) (wt : Nat) : (mk2 text s 32 pos h om fr wt none seen).step = mk2 text s 35 pos h om fr wt none (seen.add 15) := rfl
def fNot (pos : Nat) (om : Bool) : Sre.Frame := { wait := .lookNot, pc := 26, pos, outermost := om }
theorem not26 (text : Array Nat) (s pos h : Nat) (seen : Seen) (om : Bool) : (mk2 text s 26 pos h om [fBr 23 s om, fNext s om] 2 none seen).step = mk2 text s 29 pos pos false [fNot pos om, fBr 23 s om, fNext s om] 3 none (seen.add 5) := by
  cases om <;> rfl
theorem not26_back (text : Array Nat) (s pos q h pc : Nat) (seen : Seen) (om o2 : Bool) : (mk2 text s pc q h o2 [fNot pos om, fBr 23 s om, fNext s om] 3 (some false) seen).step = mk2 text s 32 pos h om [fBr 23 s om, fNext s om] 2 none seen := by
  cases om <;> rfl
theorem fin35 (text : Array Nat) (s b e h : Nat) (seen : Seen) (om : Bool) : ∃ m' : M, M.runFor 4 (mk2 text s 35 e h om [fBr b s om, fNext s om] 2 none seen) = m' ∧ m'.outcome = some .matched ∧ m'.start = s ∧ m'.handed = e := by
  cases om <;> exact ⟨_, rfl, rfl, rfl, rfl⟩

theorem run2 {m : M} {n : Nat} {r} (m₁ : M) (h : m.step = m₁) (ho : m.outcome = none) (x : Found2 (M.runFor n m₁) r) : Found2 (M.runFor (n + 1) m) r := by rw [runFor_one m n ho, h]; exact x

def end2 (text : Array Nat) (s : Nat) : Nat := if text.getD s 0 == 13 && decide (s + 1 < text.size) && text.getD (s + 1) 0 == 10 then s + 2 else s + 1

theorem hit2 (text : Array Nat) (s : Nat) (seen : Seen) (om : Bool) (hs : s < text.size) (hc : (text.getD s 0 == 10) = true ∨ (text.getD s 0 == 13) = true) :
    ∃ k, k ≤ 20 ∧ Found2 (M.runFor k (st2 text s seen om)) (some (s, end2 text s)) := by
  by_cases h13 : (text.getD s 0 == 13) = true
  · by_cases h10 : s + 1 < text.size ∧ (text.getD (s + 1) 0 == 10) = true
    · have he : end2 text s = s + 2 := by unfold end2; rw [h13, h10.2, decide_eq_true h10.1]; rfl
      refine ⟨8, by omega, ?_⟩
      rw [he]
      refine run2 _ (st2_br ..) rfl (run2 _ (lit12_t _ _ _ _ _ _ _ _ hs h13) rfl (run2 _ (lit14_t _ _ _ _ _ _ _ _ h10.1 h10.2) rfl (run2 _ (jump16 ..) rfl ?_)))
      obtain ⟨m', e', o⟩ := fin35 text s 11 (s + 2) s ((((seen.add 7).add 16).add 16).add 15) om
      rw [show s + 1 + 1 = s + 2 from rfl, e']; exact o
    · have hn : ¬ s + 1 < text.size ∨ (text.getD (s + 1) 0 == 10) = false := by
        by_cases q : s + 1 < text.size
        · right; cases z : (text.getD (s + 1) 0 == 10) with
          | false => rfl
          | true => exact absurd ⟨q, z⟩ h10
        · left; exact q
      have he : end2 text s = s + 1 := by
        unfold end2
        rcases hn with q | q
        · rw [decide_eq_false q]; simp
        · rw [q]; simp
      have hx : (text.getD s 0 == 10) = false := by
        cases z : (text.getD s 0 == 10) with
        | false => rfl
        | true => have := eq_of_beq z; have := eq_of_beq h13; omega
      refine ⟨15, by omega, ?_⟩
      rw [he]
      refine run2 _ (st2_br ..) rfl (run2 _ (lit12_t _ _ _ _ _ _ _ _ hs h13) rfl (run2 _ (lit14_f _ _ _ _ _ _ _ _ hn) rfl (run2 _ (br2_18 ..) rfl (run2 _ (lit19_f _ _ _ _ _ _ _ _ (.inr hx)) rfl (run2 _ (br2_23 ..) rfl
        (run2 _ (lit24_t _ _ _ _ _ _ _ _ hs h13) rfl (run2 _ (not26 ..) rfl (run2 _ (lit29_f _ _ _ _ _ _ _ _ hn) rfl (run2 _ (not26_back ..) rfl (run2 _ (jump32 ..) rfl ?_))))))))))
      obtain ⟨m', e', o⟩ := fin35 text s 23 (s + 1) (s + 1) _ om
      rw [e']; exact o
  · have h13' : (text.getD s 0 == 13) = false := by simpa using h13
    have hx := hc.resolve_right h13
    have he : end2 text s = s + 1 := by unfold end2; rw [h13']; rfl
    refine ⟨10, by omega, ?_⟩
    rw [he]
    refine run2 _ (st2_br ..) rfl (run2 _ (lit12_f _ _ _ _ _ _ _ _ (.inr h13')) rfl (run2 _ (br2_18 ..) rfl (run2 _ (lit19_t _ _ _ _ _ _ _ _ hs hx) rfl (run2 _ (jump21 ..) rfl ?_))))
    obtain ⟨m', e', o⟩ := fin35 text s 18 (s + 1) s _ om
    have := runFor_add 1 4 (mk2 text s 35 (s + 1) s om [fBr 18 s om, fNext s om] 2 none ((((seen.add 7).add 16).add 16).add 15))
    rw [this, e', runFor_done _ (by rw [o.1]; rfl)]; exact o

/-- where the second pattern's first sign stands -/
def nl (c : Nat) : Bool := c == 10 || c == 13
def find2 (text : Array Nat) : Nat → Nat → Option Nat
  | 0, _ => none
  | n + 1, p => if nl (text.getD p 0) then some p else find2 text n (p + 1)

theorem inSet2 (c : Nat) (seen : Seen) : ∃ seen', inSet c2 c c2.size 5 true seen = .ok (nl c, seen') := by
  show ∃ seen', (if (c == 10) = true then Except.ok (true, seen.add 16) else if (c == 13) = true then Except.ok (true, (seen.add 16).add 16) else Except.ok (!true, ((seen.add 16).add 16).add 0)) = (.ok (nl c, seen') : Except String (Bool × Seen))
  unfold nl
  cases h : (c == 10) with
  | true => exact ⟨_, rfl⟩
  | false => cases h' : (c == 13) with
    | true => exact ⟨_, rfl⟩
    | false => exact ⟨_, rfl⟩

theorem admitted2 (m : M) (hc : m.code = c2) : ∀ (n p : Nat) (seen : Seen), p + n = m.lim → ∃ seen', M.admitted m (n + 1) p seen = .ok (find2 m.text n p, seen')
  | 0, p, seen, h => ⟨seen, by rw [M.admitted, if_pos (by omega)]; rfl⟩
  | n + 1, p, seen, h => by
    rw [M.admitted, if_neg (by omega), hc]
    obtain ⟨seen', e⟩ := inSet2 (m.text.getD p 0) seen
    rw [e]
    unfold find2
    cases q : nl (m.text.getD p 0) with
    | true => exact ⟨seen', rfl⟩
    | false => exact admitted2 m hc n (p + 1) seen' (by omega)

theorem find2_some (text : Array Nat) : ∀ (n p s : Nat), find2 text n p = some s → p ≤ s ∧ s < p + n ∧ nl (text.getD s 0) = true ∧ ∀ j, p ≤ j → j < s → nl (text.getD j 0) = false
  | 0, p, s, h => by cases h
  | n + 1, p, s, h => by
    unfold find2 at h
    split at h
    · rename_i q
      cases h
      exact ⟨Nat.le_refl _, by omega, q, fun j h1 h2 => absurd h1 (by omega)⟩
    · rename_i q
      obtain ⟨a, b, c, d⟩ := find2_some text n (p + 1) s h
      refine ⟨by omega, by omega, c, fun j h1 h2 => ?_⟩
      by_cases e : j = p
      · subst e; simpa using q
      · exact d j (by omega) h2
theorem find2_none (text : Array Nat) : ∀ (n p : Nat), find2 text n p = none → ∀ j, p ≤ j → j < p + n → nl (text.getD j 0) = false
  | 0, p, h, j, h1, h2 => absurd h1 (by omega)
  | n + 1, p, h, j, h1, h2 => by
    unfold find2 at h
    split at h
    · cases h
    · rename_i q
      by_cases e : j = p
      · subst e; simpa using q
      · exact find2_none text n (p + 1) h j (by omega) (by omega)

def b2 (text : Array Nat) (p : Nat) : M :=
  { code := c2, text, lim := text.size, start := p, lastStart := text.size, pc := 10, pos := p, handed := p, marks := #[], seen := ({} : Seen).add 14 }
def pick2 (text : Array Nat) (p : Nat) (seen : Seen) : Option Nat → M
  | some s => st2 text s seen true
  | none => M.say { b2 text p with seen } false
theorem af2 (text : Array Nat) (p : Nat) {r : Option Nat} {seen : Seen} (h : M.admitted (b2 text p) (text.size + 1 - p) p (({} : Seen).add 14) = .ok (r, seen)) :
    M.attemptFrom (b2 text p) p true = pick2 text p seen r := by
  have e : (b2 text p).hasFirstSet = true := rfl
  unfold M.attemptFrom
  rw [e, if_neg (show ¬ (!true) = true from Bool.false_ne_true)]
  have h' : M.admitted (b2 text p) ((b2 text p).lim + 1 - p) p (b2 text p).seen = .ok (r, seen) := h
  rw [h']
  cases r <;> rfl

theorem forSearch2 (text : Array Nat) (p : Nat) (hp : p ≤ text.size) :
    ∃ k, k ≤ 20 ∧ Found2 (M.runFor k (forSearch c2 text 0 p text.size false)) ((find2 text (text.size - p) p).map fun s => (s, end2 text s)) := by
  by_cases h : p = text.size
  · subst h
    have e : forSearch c2 text 0 text.size text.size false = M.say { code := c2, text, lim := text.size, start := text.size, pc := 10, pos := text.size, handed := text.size, marks := #[], seen := ({} : Seen).add 14 } false := by
      unfold forSearch
      rw [if_pos]
      · rfl
      · have : (header c2).1 = 1 := rfl
        rw [this]; simp
    rw [e, Nat.sub_self]
    exact ⟨1, by omega, rfl⟩
  · have e : forSearch c2 text 0 p text.size false = M.attemptFrom (b2 text p) p true := by
      unfold forSearch
      rw [if_neg]
      · rfl
      · have : (header c2).1 = 1 := rfl
        rw [this]; simp; omega
    obtain ⟨seen', ea⟩ := admitted2 (b2 text p) rfl (text.size - p) p (({} : Seen).add 14) (by show p + (text.size - p) = text.size; omega)
    rw [show (text.size - p) + 1 = text.size + 1 - p by omega] at ea
    rw [e, af2 text p ea]
    show ∃ k, k ≤ 20 ∧ Found2 (M.runFor k (pick2 text p seen' (find2 text (text.size - p) p))) _
    cases q : find2 text (text.size - p) p with
    | none => exact ⟨1, by omega, rfl⟩
    | some s =>
      obtain ⟨h1, h2, h3, _⟩ := find2_some text _ _ _ q
      exact hit2 text s seen' true (by omega) (by unfold nl at h3; simpa using h3)
end Mine

end -- R2

section -- R3
namespace Mine
open PySem PySem.Sre PySem.Builtin PySem.Builtin.Re

section
variable {Mo : Model} {A : Around} {E : Value → Shared → Prop} {s : Shared}

theorem done_same {m : Sre.M} {a b : Nat} (ha : (Sre.M.runFor a m).outcome.isSome = true) (hb : (Sre.M.runFor b m).outcome.isSome = true) : Sre.M.runFor a m = Sre.M.runFor b m := by
  rcases Nat.le_total a b with h | h
  · obtain ⟨c, rfl⟩ := Nat.exists_eq_add_of_le h
    rw [runFor_add, runFor_done _ ha]
  · obtain ⟨c, rfl⟩ := Nat.exists_eq_add_of_le h
    rw [runFor_add, runFor_done _ hb]

theorem wp_drive {Q : Sre.M → Shared → Prop} : ∀ (turns : Nat) (m : Sre.M) (k : Nat), k ≤ 4 * turns → 0 < turns → (Sre.M.runFor k m).outcome.isSome = true → Q (Sre.M.runFor k m) s → wpAny Mo A (reDrive turns m) Q E s
  | 0, m, k, _, h0, _, _ => absurd h0 (Nat.lt_irrefl _)
  | n + 1, m, k, hk, _, ho, hq => by
    unfold reDrive
    show wpAny Mo A (if (Sre.M.runFor 4 m).outcome.isSome = true then pure (Sre.M.runFor 4 m) else (do rule "sre.turn"; reDrive n (Sre.M.runFor 4 m))) Q E s
    by_cases h : (Sre.M.runFor 4 m).outcome.isSome = true
    · rw [if_pos h]
      exact wpAny_pure (by rw [done_same h ho]; exact hq)
    · rw [if_neg h]
      have hk4 : 4 < k := by
        apply Nat.lt_of_not_le
        intro q
        obtain ⟨c, e⟩ := Nat.exists_eq_add_of_le q
        apply h
        rw [e, runFor_add, runFor_done _ ho]; exact ho
      have e : Sre.M.runFor (k - 4) (Sre.M.runFor 4 m) = Sre.M.runFor k m := by
        rw [← runFor_add, show 4 + (k - 4) = k by omega]
      exact wpAny_bind (wpAny_rule (wp_drive n _ (k - 4) (by omega) (by omega) (by rw [e]; exact ho) (by rw [e]; exact hq)))

theorem wp_toEnd {Q : Option Sre.M → Shared → Prop} {m : Sre.M} {k : Nat} (hk : k ≤ 2 ^ 40)
    (h : ((Sre.M.runFor k m).outcome = some .matched ∧ Q (some (Sre.M.runFor k m)) s) ∨ ((Sre.M.runFor k m).outcome = some .failed ∧ Q none s)) : wpAny Mo A (reRunToEnd m) Q E s := by
  unfold reRunToEnd
  have ho : (Sre.M.runFor k m).outcome.isSome = true := by rcases h with h | h <;> rw [h.1] <;> rfl
  refine wpAny_bind (wp_drive (2 ^ 64) m k (by omega) (by omega) ho ?_)
  refine wpAny_bind (wpAny_forIn_list _ (fun _ _ s' => s' = s) _ (fun x rest b s' hs => ?_) (fun b s' hs => ?_) _ _ rfl)
  · subst hs
    by_cases q : (Sre.M.runFor k m).seen.has x = true
    · simp only [q, if_true]
      exact wpAny_bind (wpAny_rule (wpAny_pure rfl))
    · simp only [q]
      exact wpAny_pure rfl
  · subst hs
    rcases h with ⟨h, hq⟩ | ⟨h, hq⟩
    · rw [h]; exact wpAny_pure hq
    · rw [h]; exact wpAny_pure hq

/-- a pattern's object -/
structure IsPat (h : Heap) (P : Addr) (code : Array Nat) : Prop where
  there : ∃ o C oC p f n items, h.get? P = some o ∧ o.cls = .type "re.Pattern" ∧ o.dict = none ∧ o.data = .fields #[p, f, .int 0 0, .none, .none, .ref C, .int 0 0] ∧ h.get? C = some oC ∧ oC.data = .seq items n ∧ (items.map reRawOf).map (·.toNat) = code ∧ C < 82
theorem IsPat.keeps {h h' : Heap} {P : Addr} {code : Array Nat} (x : IsPat h P code) (k : ∀ b o, h.get? b = some o → h'.get? b = some o) : IsPat h' P code := by
  obtain ⟨o, C, oC, p, f, n, items, h1, h2, h3, h4, h5, h6, h7⟩ := x.there
  exact ⟨o, C, oC, p, f, n, items, k _ _ h1, h2, h3, h4, k _ _ h5, h6, h7⟩

theorem wp_whole {Q : ReTarget → Shared → Prop} {P : Addr} {code : Array Nat} {x : Str} {t : Tok} (hP : IsPat s.heap P code)
    (h : Q ⟨.ref P, .str x t, code, x.cps, 0, 0, 0, x.cps.size⟩ s) : wpAny Mo A (reWholeTarget (.ref P) (.str x t)) Q E s := by
  obtain ⟨o, C, oC, p, f, n, items, h1, _, _, h4, h5, h6, h7⟩ := hP.there
  unfold reWholeTarget
  refine wpAny_bind (wpAny_fieldsOf h1 h4 ?_)
  have e : reTextOf (.str x t) = pure (x.cps, 0) := rfl
  rw [e]
  refine wpAny_bind (wpAny_pure ?_)
  show wpAny Mo A (do
    pure PUnit.unit
    let c ← reRawItems (.ref C)
    pure (⟨.ref P, .str x t, c.map (·.toNat), x.cps, 0, 0, 0, x.cps.size⟩ : ReTarget)) Q E s
  refine wpAny_bind ?_
  unfold reRawItems
  refine wpAny_bind (wpAny_seqItems h5 h6 (wpAny_pure (wpAny_pure ?_)))
  show Q ⟨.ref P, .str x t, (items.map reRawOf).map (·.toNat), x.cps, 0, 0, 0, x.cps.size⟩ s
  rw [h7.1]; exact h

theorem wp_next1 {Q : Option Sre.M → Shared → Prop} {t : ReTarget} {p : Nat} (hc : t.code = c1) (hg : t.groups = 0) (hl : t.lim = t.text.size) (hp : p ≤ t.text.size) (hs : t.text.size ≤ 16777216)
    (h : ∀ r, (match find1 t.text (t.text.size - p) p with | some q => ∃ m, r = some m ∧ m.start = q ∧ m.handed = q + 1 | none => r = none) → Q r s) : wpAny Mo A (reNextFound t p false) Q E s := by
  unfold reNextFound
  rw [hc, hg, hl]
  obtain ⟨k, hk, f⟩ := forSearch1 t.text p hp hs
  refine wp_toEnd (k := k) (by omega) ?_
  revert f h
  cases find1 t.text (t.text.size - p) p with
  | none => intro h f; exact .inr ⟨f, h _ rfl⟩
  | some q => intro h f; exact .inl ⟨f.1, h _ ⟨_, rfl, f.2⟩⟩
theorem wp_next2 {Q : Option Sre.M → Shared → Prop} {t : ReTarget} {p : Nat} (hc : t.code = c2) (hg : t.groups = 0) (hl : t.lim = t.text.size) (hp : p ≤ t.text.size)
    (h : ∀ r, (match find2 t.text (t.text.size - p) p with | some q => ∃ m, r = some m ∧ m.start = q ∧ m.handed = end2 t.text q | none => r = none) → Q r s) : wpAny Mo A (reNextFound t p false) Q E s := by
  unfold reNextFound
  rw [hc, hg, hl]
  obtain ⟨k, hk, f⟩ := forSearch2 t.text p hp
  refine wp_toEnd (k := k) (by omega) ?_
  revert f h
  cases find2 t.text (t.text.size - p) p with
  | none => intro h f; exact .inr ⟨f, h _ rfl⟩
  | some q => intro h f; exact .inl ⟨f.1, h _ ⟨_, rfl, f.2⟩⟩

/-- what a pattern's search finds: where it starts, where it ends -/
structure Finds (code : Array Nat) (fd : Array Nat → Nat → Option (Nat × Nat)) : Prop where
  next : ∀ {Mo : Model} {A : Around} {E : Value → Shared → Prop} {s : Shared} {Q : Option Sre.M → Shared → Prop} {t : ReTarget} {p : Nat}, t.code = code → t.groups = 0 → t.lim = t.text.size → p ≤ t.text.size → t.text.size ≤ 16777216 →
    (∀ r, (match fd t.text p with | some q => ∃ m, r = some m ∧ m.start = q.1 ∧ m.handed = q.2 | none => r = none) → Q r s) → wpAny Mo A (reNextFound t p false) Q E s
  low : ∀ text p q, p ≤ text.size → fd text p = some q → p ≤ q.1 ∧ q.1 < q.2 ∧ q.2 ≤ text.size

def fd1 (text : Array Nat) (p : Nat) : Option (Nat × Nat) := (find1 text (text.size - p) p).map fun s => (s, s + 1)
def fd2 (text : Array Nat) (p : Nat) : Option (Nat × Nat) := (find2 text (text.size - p) p).map fun s => (s, end2 text s)
theorem find1_some (text : Array Nat) : ∀ (n p s : Nat), find1 text n p = some s → p ≤ s ∧ s < p + n ∧ ((s == 0 || text.getD (s - 1) 0 == 10) && text.getD s 0 == 46) = true ∧ ∀ j, p ≤ j → j < s → ((j == 0 || text.getD (j - 1) 0 == 10) && text.getD j 0 == 46) = false
  | 0, p, s, h => by cases h
  | n + 1, p, s, h => by
    unfold find1 at h
    split at h
    · rename_i q
      cases h
      exact ⟨Nat.le_refl _, by omega, q, fun j h1 h2 => absurd h1 (by omega)⟩
    · rename_i q
      obtain ⟨a, b, c, d⟩ := find1_some text n (p + 1) s h
      refine ⟨by omega, by omega, c, fun j h1 h2 => ?_⟩
      by_cases e : j = p
      · subst e; simpa using q
      · exact d j (by omega) h2
theorem find1_none (text : Array Nat) : ∀ (n p : Nat), find1 text n p = none → ∀ j, p ≤ j → j < p + n → ((j == 0 || text.getD (j - 1) 0 == 10) && text.getD j 0 == 46) = false
  | 0, p, h, j, h1, h2 => absurd h1 (by omega)
  | n + 1, p, h, j, h1, h2 => by
    unfold find1 at h
    split at h
    · cases h
    · rename_i q
      by_cases e : j = p
      · subst e; simpa using q
      · exact find1_none text n (p + 1) h j (by omega) (by omega)

theorem finds1 : Finds c1 fd1 where
  next := by
    intro Mo A E s Q t p hc hg hl hp hs h
    refine wp_next1 hc hg hl hp hs fun r hr => h r ?_
    unfold fd1
    revert hr
    cases find1 t.text (t.text.size - p) p with
    | none => exact id
    | some q => exact id
  low := fun text p q hp h => by
    unfold fd1 at h
    cases e : find1 text (text.size - p) p with
    | none => rw [e] at h; cases h
    | some x =>
      rw [e] at h
      cases h
      obtain ⟨a, b, _⟩ := find1_some text _ _ _ e
      exact ⟨a, Nat.lt_succ_self _, by show x + 1 ≤ _; omega⟩
theorem finds2 : Finds c2 fd2 where
  next := by
    intro Mo A E s Q t p hc hg hl hp hs h
    refine wp_next2 hc hg hl hp fun r hr => h r ?_
    unfold fd2
    revert hr
    cases find2 t.text (t.text.size - p) p with
    | none => exact id
    | some q => exact id
  low := fun text p q hp h => by
    unfold fd2 at h
    cases e : find2 text (text.size - p) p with
    | none => rw [e] at h; cases h
    | some x =>
      rw [e] at h
      cases h
      obtain ⟨a, b, _⟩ := find2_some text _ _ _ e
      refine ⟨a, ?_, ?_⟩
      · show x < end2 text x
        unfold end2; split <;> omega
      · show end2 text x ≤ text.size
        unfold end2
        split
        · rename_i q
          simp only [Bool.and_eq_true, decide_eq_true_eq] at q
          omega
        · omega
end
end Mine

end -- R3

section -- R4
namespace Mine
open PySem PySem.Sre PySem.Builtin PySem.Builtin.Re PySem.Builtin.Str

/-- the text behind p, with what is found put anew -/
def subL (fd : Array Nat → Nat → Option (Nat × Nat)) (repl : List Nat) (text : Array Nat) : Nat → Nat → List Nat
  | 0, p => (text.extract p text.size).toList
  | n + 1, p => match fd text p with
    | some q => (text.extract p q.1).toList ++ (repl ++ subL fd repl text n q.2)
    | none => (text.extract p text.size).toList

def cat (l : List Str) : List Nat := l.flatMap fun x => x.cps.toList
theorem cat_append (a b : List Str) : cat (a ++ b) = cat a ++ cat b := by unfold cat; rw [List.flatMap_append]
theorem cat_one (x : Str) : cat [x] = x.cps.toList := by unfold cat; simp

theorem glued_aux : ∀ (l : List Str) (acc : Array Nat), l.foldl (fun acc p => acc ++ (Str.empty).cps ++ p.cps) acc = acc ++ (cat l).toArray
  | [], acc => by simp [cat]
  | x :: l, acc => by
    rw [List.foldl_cons, glued_aux l]
    have : (Str.empty).cps = #[] := rfl
    rw [this]
    apply Array.ext'
    simp [cat]
theorem glued_cat (l : List Str) : glued Str.empty l = ⟨(cat l).toArray⟩ := by
  unfold glued
  cases l with
  | nil => rfl
  | cons x l =>
    rw [List.drop_one, List.tail_cons, glued_aux]
    congr 1
    apply Array.ext'
    simp [cat]
theorem len_cat : ∀ (l : List Str) (n : Nat), l.foldl (fun a (x : Str) => a + x.length + (Str.empty).length) n = n + (cat l).length
  | [], n => by simp [cat]
  | x :: l, n => by
    rw [List.foldl_cons, len_cat l]
    have e : (Str.empty).length = 0 := rfl
    have e2 : x.length = x.cps.toList.length := by simp [Str.length]
    rw [e, e2]
    simp only [cat, List.flatMap_cons, List.length_append]
    omega


theorem entry_sub_loop : entryFor table "re.Pattern.sub.loop" = some Builtin.«re.Pattern.sub.loop» := entryFor_of_fast (by kernel_rfl)
theorem plain_sub_loop : plainId "re.Pattern.sub.loop" = true := by decide +kernel

def subArgs (P l : Addr) (x r : Str) (tx tr : Tok) (k p : Nat) : Args :=
  ⟨[.ref P, .str x tx, .str r tr, rawInt 0, rawInt 0, rawInt k, rawInt p, rawInt p, .bool false, .ref l, .bool false], []⟩

section
variable {prog : Program} {w : World}
theorem sub_loop_tree (P l : Addr) (x r : Str) (tx tr : Tok) (k p : Nat) : Builtin.«re.Pattern.sub.loop» (subArgs P l x r tx tr k p) = (do
    let t ← reWholeTarget (.ref P) (.str x tx)
    reLiteralCannotBeTurned (.str r tr)
    match ← reNextFound t p false with
    | some m =>
      if p < m.start then updateSeq l (·.push (← reSlice t.text t.kind p m.start))
      updateSeq l (·.push (.str r tr))
      again (.builtin "re.Pattern.sub.loop" ⟨[.ref P, .str x tx, .str r tr, rawInt 0, rawInt 0, rawInt (k + 1), rawInt m.handed, rawInt m.handed, .bool (m.handed == m.start), .ref l, .bool false], []⟩)
    | none =>
      if p < t.lim then updateSeq l (·.push (← reSlice t.text t.kind p t.lim))
      let joiner ← reSlice t.text t.kind 0 0
      let text ← if ((← seqItems? (.ref l)).getD #[]).isEmpty then pure joiner else call (.builtin (if t.kind == 0 then "str.join" else "bytes.join")) [joiner, .ref l]
      ret text) := rfl
end
end Mine

end -- R4

section -- R5
namespace Mine
open PySem PySem.Sre PySem.Builtin PySem.Builtin.Re PySem.Builtin.Str

theorem isList_push {h : Heap} {l : Addr} {pieces : List (Str × Tok)} (x : h.IsList l (strValues pieces).toArray) (y : Str) (t : Tok) :
    (h.update l (Obj.mapSeq (·.push (.str y t)))).IsList l (strValues (pieces ++ [(y, t)])).toArray := by
  obtain ⟨o, ho, hc, n, hd⟩ := x
  obtain ⟨n', hd'⟩ := Obj.data_mapSeq hd (·.push (.str y t))
  refine ⟨_, Heap.get?_update_self _ ho (Obj.isFreed_of_seq hd'), (Obj.cls_mapSeq ..).trans hc, n', ?_⟩
  rw [hd']
  simp [strValues]

theorem keep_update {h₀ h : Heap} {l : Addr} {f : Obj → Obj} (k : ∀ b o, h₀.get? b = some o → h.get? b = some o) (hl : h₀.get? l = none) : ∀ b o, h₀.get? b = some o → (h.update l f).get? b = some o := by
  intro b o e
  have : b ≠ l := by rintro rfl; rw [hl] at e; cases e
  exact (Heap.get?_update_ne _ _ _ _ this).trans (k b o e)


theorem joinOk_of (l : List Str) (h : (cat l).length ≤ 16000000) : JoinOk Str.empty l = true := by
  unfold JoinOk tooLong
  rw [← Array.foldl_toList, List.toList_toArray, len_cat, sizeLine_eq]
  simp; omega
theorem sub_fin {prog : Program} {w : World} {h₀ : Heap} {A : Around} {E : Value → Shared → Prop} {s : Shared} {l : Addr} {x : Str} {p : Nat} {pieces : List (Str × Tok)} {Q : Fin → Shared → Prop}
    (hl0 : h₀.get? l = none) (hx : x.cps.size ≤ 1048576) (hk : ∀ b o, h₀.get? b = some o → s.heap.get? b = some o) (hl : s.heap.IsList l (strValues pieces).toArray) (hp : p ≤ x.cps.size) (hcnt : pieces.length ≤ 2 * p)
    (hlen : (cat (pieces.map (·.1)) ++ (x.cps.extract p x.cps.size).toList).length ≤ 16000000)
    (h : ∀ t' h' tk, (∀ b o, h₀.get? b = some o → h'.get? b = some o) → Q (.done (.ret (.str ⟨(cat (pieces.map (·.1)) ++ (x.cps.extract p x.cps.size).toList).toArray⟩ t'))) { s with heap := h', toks := tk }) :
    wpAny (model prog w) A (do
      if p < x.cps.size then updateSeq l (·.push (← reSlice x.cps 0 p x.cps.size))
      let joiner ← reSlice x.cps 0 0 0
      let text ← if ((← seqItems? (.ref l)).getD #[]).isEmpty then pure joiner else call (.builtin "str.join") [joiner, .ref l]
      ret text) Q E s := by
  have hj : ∀ (s : Shared) (pieces : List (Str × Tok)), s.heap.IsList l (strValues pieces).toArray → (cat (pieces.map (·.1))).length ≤ 16000000 → (∀ t' tk, Q (.done (.ret (.str ⟨(cat (pieces.map (·.1))).toArray⟩ t'))) { s with toks := tk }) →
      wpAny (model prog w) A (do
        let joiner ← reSlice x.cps 0 0 0
        let text ← if ((← seqItems? (.ref l)).getD #[]).isEmpty then pure joiner else call (.builtin "str.join") [joiner, .ref l]
        ret text) Q E s := by
    intro s pieces hl hlen h
    refine wpAny_bind (m := reSlice x.cps 0 0 0) ?_
    have e : reSlice x.cps 0 0 0 = mkStr Str.empty := by
      show mkStr ⟨x.cps.extract 0 0⟩ = _
      congr 1
      show (⟨x.cps.extract 0 0⟩ : Str) = ⟨#[]⟩
      congr 1
      simp
    rw [e]
    refine wpAny_mkStr ?_ (by decide)
    obtain ⟨o, ho, hc, n, hd⟩ := id hl
    refine wpAny_bind (wpAny_seqItems ho hd ?_)
    cases pieces with
    | nil => exact wpAny_bind (wpAny_pure (wpAny_pure (h s.toks (s.toks + 1))))
    | cons p ps =>
      show wpAny _ _ (do let text ← call (.builtin "str.join") [.str Str.empty s.toks, .ref l]; ret text) _ _ _
      refine wpAny_bind (SC.join hl rfl (joinOk_of _ hlen) fun t' k => wpAny_pure ?_)
      show Q (.done (.ret (.str (glued Str.empty _) t'))) _
      rw [glued_cat]; exact h t' k
  by_cases hlt : p < x.cps.size
  · rw [if_pos hlt]
    refine wpAny_bind (m := reSlice x.cps 0 p x.cps.size) ?_
    show wpAny _ _ (mkStr ⟨x.cps.extract p x.cps.size⟩) _ _ _
    have hsl : (⟨x.cps.extract p x.cps.size⟩ : Str).length ≤ sizeLine := by
      show (x.cps.extract p x.cps.size).size ≤ sizeLine
      rw [Array.size_extract, sizeLine_eq]; omega
    refine wpAny_mkStr ?_ hsl
    obtain ⟨o, ho, hc, n, hd⟩ := id hl
    have hz : (strValues pieces).toArray.size ≤ sizeLine := by
      rw [List.size_toArray, strValues, List.length_map, sizeLine_eq]; omega
    refine wpAny_bind ?_
    refine wpAny_updateSeq ho hd ?_ hz (by rw [Array.size_push]; omega)
    refine hj _ (pieces ++ [(⟨x.cps.extract p x.cps.size⟩, s.toks)]) (isList_push hl _ _) ?_ ?_
    · rw [List.map_append, cat_append]; simpa [cat] using hlen
    · intro t' tk
      have := h t' (s.heap.update l (Obj.mapSeq (·.push (.str ⟨x.cps.extract p x.cps.size⟩ s.toks)))) tk (keep_update hk hl0)
      rw [List.map_append, cat_append]
      simpa [cat] using this
  · rw [if_neg hlt]
    have e : p = x.cps.size := by omega
    have e2 : (x.cps.extract p x.cps.size).toList = [] := by rw [e]; simp
    rw [e2, List.append_nil] at hlen h
    exact hj s pieces hl hlen fun t' tk => h t' s.heap tk hk

theorem sub_loop {prog : Program} {w : World} {code : Array Nat} {fd : Array Nat → Nat → Option (Nat × Nat)} (hfd : Finds code fd) {P l : Addr} {x r : Str} {tx tr : Tok} {h₀ : Heap} (hP : IsPat h₀ P code) (hl0 : h₀.get? l = none)
    (hx : x.cps.size ≤ 1048576) :
    ∀ (n p k : Nat) (pieces : List (Str × Tok)) (A : Around) (R : Result → Shared → Prop) (s : Shared), x.cps.size - p ≤ n → p ≤ x.cps.size → (∀ b o, h₀.get? b = some o → s.heap.get? b = some o) → s.heap.IsList l (strValues pieces).toArray →
      pieces.length ≤ 2 * p → (cat (pieces.map (·.1)) ++ subL fd r.cps.toList x.cps n p).length ≤ 16000000 →
      (∀ t' h' tk, (∀ b o, h₀.get? b = some o → h'.get? b = some o) → R (.ok (.ret (.str ⟨(cat (pieces.map (·.1)) ++ subL fd r.cps.toList x.cps n p).toArray⟩ t'))) { s with heap := h', toks := tk }) →
      codeAny (model prog w) A (.builtin "re.Pattern.sub.loop" (subArgs P l x r tx tr k p)) R s := by
  intro n
  induction n with
  | zero =>
    intro p k pieces A R s hn hp hk hl hcnt hlen hR
    have hpe : p = x.cps.size := by omega
    refine codeAny_builtin entry_sub_loop ?_
    rw [Around.under_plainId plain_sub_loop, sub_loop_tree]
    refine wpAny_bind (wp_whole (hP.keeps hk) ?_)
    refine wpAny_bind (m := reLiteralCannotBeTurned (.str r tr)) (wpAny_of_eq (show reLiteralCannotBeTurned (.str r tr) = pure () from rfl) ?_)
    refine wpAny_bind (hfd.next rfl rfl rfl hp (by show x.cps.size ≤ _; omega) ?_)
    intro rr hrr
    cases e : fd x.cps p with
    | none =>
      simp only [e] at hrr
      subst hrr
      exact sub_fin hl0 hx hk hl hp hcnt hlen hR
    | some q =>
      have := hfd.low _ _ _ hp e
      omega
  | succ n ih =>
    intro p k pieces A R s hn hp hk hl hcnt hlen hR
    refine codeAny_builtin entry_sub_loop ?_
    rw [Around.under_plainId plain_sub_loop, sub_loop_tree]
    refine wpAny_bind (wp_whole (hP.keeps hk) ?_)
    refine wpAny_bind (m := reLiteralCannotBeTurned (.str r tr)) (wpAny_of_eq (show reLiteralCannotBeTurned (.str r tr) = pure () from rfl) ?_)
    refine wpAny_bind (hfd.next rfl rfl rfl hp (by show x.cps.size ≤ _; omega) ?_)
    intro rr hrr
    unfold subL at hlen hR
    cases e : fd x.cps p with
    | none =>
      rw [e] at hlen hR
      simp only [e] at hrr
      subst hrr
      exact sub_fin hl0 hx hk hl hp hcnt hlen hR
    | some q =>
      rw [e] at hlen hR
      simp only [e] at hrr
      obtain ⟨m, rfl, hm1, hm2⟩ := hrr
      obtain ⟨q1, q2, q3⟩ := hfd.low _ _ _ hp e
      -- the rest, once the piece ahead is in
      have go : ∀ (s₁ : Shared) (ps : List (Str × Tok)), (∃ h tk, s₁ = { s with heap := h, toks := tk }) → (∀ b o, h₀.get? b = some o → s₁.heap.get? b = some o) → s₁.heap.IsList l (strValues ps).toArray → ps.length ≤ 2 * q.1 + 1 →
          cat (ps.map (·.1)) = cat (pieces.map (·.1)) ++ (x.cps.extract p q.1).toList →
          wpAny (model prog w) A.in1 (do
            updateSeq l (·.push (.str r tr))
            again (.builtin "re.Pattern.sub.loop" ⟨[.ref P, .str x tx, .str r tr, rawInt 0, rawInt 0, rawInt (k + 1), rawInt m.handed, rawInt m.handed, .bool (m.handed == m.start), .ref l, .bool false], []⟩))
            (fun fin s' => match fin with | .done f => R (.ok f) s' | .again c' => c'.quiet = true ∧ codeAny (model prog w) A c' R s') (fun e s' => R (.error e) s') s₁ := by
        rintro s₁ ps ⟨h₁, tk₁, rfl⟩ hk₁ hl₁ hc₁ hcat
        obtain ⟨o, ho, hc, n', hd⟩ := id hl₁
        have hz : (strValues ps).toArray.size ≤ sizeLine := by
          rw [List.size_toArray, strValues, List.length_map, sizeLine_eq]; omega
        refine wpAny_bind (wpAny_updateSeq ho hd ?_ hz (by rw [Array.size_push]; omega))
        refine wpAny_pure ⟨plainId_quiet plain_sub_loop _, ?_⟩
        have hb : (m.handed == m.start) = false := by rw [hm1, hm2]; exact beq_eq_false_iff_ne.mpr (by omega)
        rw [hb, hm2]
        have ecat : cat ((ps ++ [(r, tr)]).map (·.1)) ++ subL fd r.cps.toList x.cps n q.2 = cat (pieces.map (·.1)) ++ ((x.cps.extract p q.1).toList ++ (r.cps.toList ++ subL fd r.cps.toList x.cps n q.2)) := by
          rw [List.map_append, cat_append, hcat]
          simp [cat]
        refine ih q.2 (k + 1) (ps ++ [(r, tr)]) A R _ (by omega) q3 (keep_update hk₁ hl0) (isList_push hl₁ _ _) (by rw [List.length_append, List.length_singleton]; omega) (by rw [ecat]; exact hlen) ?_
        intro t' h' tk hk'
        rw [ecat]
        exact hR t' h' tk hk'
      by_cases hlt : p < m.start
      · show wpAny _ _ (if p < m.start then _ else _) _ _ _
        rw [if_pos hlt]
        refine wpAny_bind (m := reSlice x.cps 0 p m.start) ?_
        show wpAny _ _ (mkStr ⟨x.cps.extract p m.start⟩) _ _ _
        have hsl : (⟨x.cps.extract p m.start⟩ : Str).length ≤ sizeLine := by
          show (x.cps.extract p m.start).size ≤ sizeLine
          rw [Array.size_extract, sizeLine_eq]; omega
        refine wpAny_mkStr ?_ hsl
        obtain ⟨o, ho, hc, n', hd⟩ := id hl
        have hz : (strValues pieces).toArray.size ≤ sizeLine := by
          rw [List.size_toArray, strValues, List.length_map, sizeLine_eq]; omega
        refine wpAny_bind ?_
        refine wpAny_updateSeq ho hd ?_ hz (by rw [Array.size_push]; omega)
        refine go _ (pieces ++ [(⟨x.cps.extract p m.start⟩, s.toks)]) ⟨_, _, rfl⟩ (keep_update hk hl0) (isList_push hl _ _) (by rw [List.length_append, List.length_singleton]; omega) ?_
        rw [List.map_append, cat_append, hm1]; simp [cat]
      · show wpAny _ _ (if p < m.start then _ else _) _ _ _
        rw [if_neg hlt]
        refine go s pieces ⟨_, _, rfl⟩ hk hl (by omega) ?_
        have : p = q.1 := by omega
        rw [this]; simp
end Mine

end -- R5

section -- R6
namespace Mine
open PySem PySem.Sre PySem.Builtin PySem.Builtin.Re PySem.Builtin.Str

set_option maxRecDepth 100000
theorem slot_sub : Slot "re.Pattern" "sub" "re.Pattern.sub" :=
  .of (owner := "re.Pattern") (n := "sub") (by rw [typeLookup_type, builtinLookup_eq_fast]; kernel_rfl) (by decide +kernel) (by decide +kernel) (by decide +kernel)
    (by first | exact .inl (by decide +kernel) | exact .inr (by decide +kernel)) (by rw [isSubtype_type]; kernel_rfl)
theorem type_sub : typeOf (.builtin "re.Pattern.sub") = pure (.type "method_descriptor") := by show builtinType _ = _; rw [builtinType_eq_fast]; kernel_rfl
theorem entry_sub : entryFor table "re.Pattern.sub" = some Builtin.«re.Pattern.sub» := entryFor_of_fast (by kernel_rfl)
theorem args_sub (a b c : Value) : argsOk "re.Pattern.sub" ⟨[a, b, c], []⟩ := by
  unfold argsOk; kernel_rfl
theorem str_call_none : typeLookup (.type "str") "__call__" = pure none := by rw [typeLookup_type, builtinLookup_eq_fast]; kernel_rfl
theorem pat_getattribute : typeLookup (.type "re.Pattern") "__getattribute__" = pure (some (.builtin "object.__getattribute__")) := by rw [typeLookup_type, builtinLookup_eq_fast]; kernel_rfl
theorem pat_getattr_none : typeLookup (.type "re.Pattern") "__getattr__" = pure none := by rw [typeLookup_type, builtinLookup_eq_fast]; kernel_rfl
theorem canon_pat : (Manifest.canonical "object.__getattribute__" != "object.__getattribute__") = false := by decide +kernel

theorem named_sub (a b : Value) : reNamed "re.Pattern.sub" "sub" ["repl", "string", "count"] 2 [a, b] [] = pure [some a, some b, none] := rfl

theorem sub_tree (P : Addr) (r x : Str) (tr tx : Tok) : Builtin.«re.Pattern.sub» ⟨[.ref P, .str r tr, .str x tx], []⟩ = (do
    let called := (← specialOf (.str r tr) "__call__").isSome
    let literal ← if called then pure false else pure !r.cps.contains 92
    let (repl, way) ← if called then pure (Value.str r tr, 1) else if literal then pure (Value.str r tr, 0) else do
      let t ← reCompileTemplate (.ref P) (.str r tr)
      if ← reOnlyLiteral t then pure (← field t 0, 0) else pure (t, 2)
    let _ ← holding [repl] (reWholeTarget (.ref P) (.str x tx))
    if way == 1 then reNotHeld "re.Pattern.sub" (.str x tx)
    again (.builtin "re.Pattern.sub.loop" ⟨[.ref P, .str x tx, repl, rawInt way, rawInt 0, rawInt 0, rawInt 0, rawInt 0, .bool false, ← newList [], .bool false], []⟩)) := rfl

section
variable {prog : Program} {w : World} {A : Around} {E : Value → Shared → Prop} {s : Shared}

theorem IsPat.typeIs {P : Addr} {code : Array Nat} (hP : IsPat s.heap P code) : s.TypeIs (.ref P) "re.Pattern" := by
  obtain ⟨o, _, _, _, _, _, _, h1, h2, _⟩ := hP.there
  exact ⟨o, h1, h2⟩

theorem call_sub {code : Array Nat} {fd : Array Nat → Nat → Option (Nat × Nat)} (hfd : Finds code fd) {P : Addr} {r x : Str} {tr tx : Tok} {Q : Value → Shared → Prop} (hP : IsPat s.heap P code) (hr : r.cps.contains 92 = false)
    (hx : x.cps.size ≤ 1048576) (hlen : (subL fd r.cps.toList x.cps x.cps.size 0).length ≤ 16000000)
    (h : ∀ t' s', Keeps s s' → Q (.str ⟨(subL fd r.cps.toList x.cps x.cps.size 0).toArray⟩ t') s') :
    wpAny (model prog w) A (call (.builtin "re.Pattern.sub") [.ref P, .str r tr, .str x tx]) Q E s := by
  refine wpAny_call (codeAny_call_builtin slot_sub.plain entry_sub (slot_sub.check _ _ _ _ _ _ _ _ hP.typeIs (args_sub _ _ _) ?_))
  rw [sub_tree]
  refine wpAny_bind (wpAny_specialOf (typeIs_str _ _ _) str_call_none ?_)
  show wpAny _ _ (do
    let literal ← (pure !r.cps.contains 92 : Sem Bool)
    _) _ _ _
  rw [hr]
  refine wpAny_bind (wpAny_pure ?_)
  refine wpAny_bind (wpAny_pure ?_)
  refine wpAny_bind (wpAny_holding (wp_whole hP ?_))
  refine wpAny_bind (wpAny_newList ?_ (by decide))
  refine wpAny_pure ⟨plainId_quiet plain_sub_loop _, ?_⟩
  have e0 : s.heap.get? s.heap.objs.size = none := by
    cases q : s.heap.get? s.heap.objs.size with
    | none => rfl
    | some o => exact absurd (Heap.lt_size q) (Nat.lt_irrefl _)
  refine sub_loop hfd hP e0 hx x.cps.size 0 0 [] A _ _ (by omega) (by omega) (fun b o e => Heap.get?_push_of_some _ e) ⟨_, Heap.get?_push_size _ rfl, rfl, _, rfl⟩ (by simp) (by simpa [cat] using hlen) ?_
  intro t' h' tk hk
  exact h t' _ ⟨h', tk, rfl, hk⟩

theorem getMethod_sub {P : Addr} {code : Array Nat} {pl : Sem Bool} {Q : Value × List Value → Shared → Prop} (hP : IsPat s.heap P code)
    (h : Q (.builtin "re.Pattern.sub", [.ref P]) s) : wpAny (model prog w) A (getMethod (.ref P) "sub" pl) Q E s := by
  obtain ⟨o, C, oC, p, f, n, items, h1, h2, h3, _⟩ := hP.there
  have hT : s.TypeIs (.ref P) "re.Pattern" := ⟨o, h1, h2⟩
  unfold getMethod
  refine wpAny_bind (wpAny_specialOf hT pat_getattribute ?_)
  show wpAny _ A (if (Manifest.canonical "object.__getattribute__" != "object.__getattribute__") = true then _ else _) Q E s
  rw [canon_pat, if_neg Bool.false_ne_true]
  refine wpAny_bind (wpAny_specialOf hT pat_getattr_none ?_)
  refine wpAny_bind (wpAny_specialOf hT slot_sub.lookup ?_)
  refine wpAny_bind (wpAny_of_eq type_sub ?_)
  refine wpAny_bind (wpAny_loadPart h1 ?_)
  rw [h3]
  exact wpAny_bind (wpAny_rule (wpAny_pure h))
end
end Mine

end -- R6

section -- G1
namespace Mine
open PySem

section
variable {Mo : Model} {A : Around} {R : GenEnd} {Y : Protocol} {n : Nat} {s₀ : Shared} {c : Code} {fs : List PySem.Frame} {s : Shared} {env : Env}
  {K : Flow → Sem PySem.Fin} {H : Value → Sem PySem.Fin} {gd : Bool → Bool} {lv : List Value → List Value}

theorem wrap_bind {α β γ : Type} (m : Sem α) (f : α → Sem β) (K : β → Sem γ) (H : Value → Sem γ) (gd lv) :
    (m >>= f).wrap K H gd lv = m.wrap (fun a => (f a).wrap K H gd lv) H gd lv := by
  rw [Sem.bind_eq_wrap', Sem.wrap_wrap]; rfl

theorem wp_no {α : Type} {t : Sem α} {Q : α → Shared → Prop} {E : Value → Shared → Prop} (h : wpAny Mo A t Q (fun _ _ => False) s) : wpAny Mo A t Q E s := wpAny_mono h (fun _ _ x => x) fun _ _ x => x.elim

/-- a leaf that does not raise -/
theorem seg_step {α : Type} {m : Sem α} {K : α → Sem PySem.Fin} {H : Value → Sem PySem.Fin} {gd lv}
    (h : wpAny Mo (A.over c fs) m (fun a s' => Seg Mo A R Y n s₀ c (K a) fs s') (fun _ _ => False) s) : Seg Mo A R Y n s₀ c (m.wrap K H gd lv) fs s := seg_wrap (wp_no h)

theorem seg_If {test : Expr} {body orelse : List Stmt} {pos : Pos}
    (h : wpAny Mo (A.over c fs) (isTrue test env (eval test env)) (fun b s' => Seg Mo A R Y n s₀ c ((execs (if b = true then body else orelse) env).wrap K H gd lv) fs s') (fun _ _ => False) s) :
    Seg Mo A R Y n s₀ c ((exec (.If test body orelse pos) env).wrap K H gd lv) fs s := by
  rw [exec_If, wrap_bind]
  refine seg_step (wpAny_standAt ?_)
  rw [wrap_bind]
  refine seg_step (wpAny_mono h (fun b s' x => ?_) fun _ _ x => x)
  cases b
  · exact x
  · exact x

theorem seg_For {target iter : Expr} {body : List Stmt} {pos : Pos} (hs : ∀ x, foldedSetIterable iter env x = pure x)
    (h : wpAny Mo (A.over c fs) (eval iter env) (fun x s₁ => wpAny Mo (A.over c fs) (pyIter x) (fun it s₂ => ∀ p, Seg Mo A R Y n s₀ (.forLoop target it body [] env) (Mo.den (.forLoop target it body [] env))
      (.ret (fun r => ((match r with | .ok f => (.pure f : Sem Flow) | .error e => .raise e).onRaise fun (x : Value) => do
        if (← field x 1) == Value.none then unsupported "frame.own-activation:exception-without-traceback"
        setFlight x env.frame).wrap K H gd lv) none (gd false) (lv []) c p [] :: fs) s₂) (fun _ _ => False) s₁) (fun _ _ => False) s) :
    Seg Mo A R Y n s₀ c ((exec (.For target iter body [] pos) env).wrap K H gd lv) fs s := by
  rw [exec_For, wrap_bind]
  refine seg_step (wpAny_standAt ?_)
  rw [wrap_bind]
  refine seg_step (wpAny_mono h (fun x s₁ h₁ => ?_) fun _ _ x => x)
  rw [wrap_bind, hs]
  refine seg_step (wpAny_pure ?_)
  rw [wrap_bind]
  refine seg_step (wpAny_standAt ?_)
  rw [wrap_bind]
  refine seg_step (wpAny_holding (wpAny_mono h₁ (fun it s₂ h₂ => ?_) fun _ _ x => x))
  exact seg_call h₂
end

section
variable {prog : Program} {w : World} {A : Around} {R : GenEnd} {Y : Protocol} {n : Nat} {s₀ : Shared} {fs : List PySem.Frame} {s : Shared} {env : Env}

def loopK (c : Code) : Flow → Sem PySem.Fin := fun f => match f with
  | .next | .cont => .pure (.again c)
  | .brk => .pure (.done .next)
  | .ret v => .pure (.done (.ret v))
def loopH (env : Env) : Value → Sem PySem.Fin := fun e => (do noteFrame e env; theTreesLotGoes e : Sem Unit).bind fun _ => .raise e

theorem seg_forLoop {target : Expr} {it : Value} {body : List Stmt}
    (h : wpAny (model prog w) (A.over (.forLoop target it body [] env) fs) (pyNext it) (fun r s₁ => match r with
        | none => Seg (model prog w) A R Y n s₀ (.forLoop target it body [] env) (.pure (.again (.block [] env))) fs s₁
        | some v => wpAny (model prog w) (A.over (.forLoop target it body [] env) fs) (letOwnedTupleGo target it v) (fun _ s₂ => wpAny (model prog w) (A.over (.forLoop target it body [] env) fs) (assign target env v) (fun _ s₃ =>
            Seg (model prog w) A R Y n s₀ (.forLoop target it body [] env) ((execs body env).wrap (loopK (.forLoop target it body [] env)) (loopH env) id id) fs s₃) (fun _ _ => False) s₂) (fun _ _ => False) s₁) (fun _ _ => False) s) :
    Seg (model prog w) A R Y n s₀ (.forLoop target it body [] env) ((model prog w).den (.forLoop target it body [] env)) fs s := by
  show Seg _ A R Y n s₀ _ ((forTurn target it body [] env).onRaise (fun x => do noteFrame x env; theTreesLotGoes x)) fs s
  unfold forTurn
  rw [Sem.onRaise_eq_wrap, wrap_bind]
  refine seg_step (wpAny_standAt ?_)
  rw [wrap_bind]
  refine seg_step (wpAny_onRaise (wpAny_mono h (fun r s₁ h₁ => ?_) fun _ _ x => x.elim))
  cases r with
  | none => exact h₁
  | some v =>
    show Seg _ A R Y n s₀ _ ((letOwnedTupleGo target it v >>= _).wrap _ _ _ _) fs s₁
    rw [wrap_bind]
    refine seg_step (wpAny_mono h₁ (fun _ s₂ h₂ => ?_) fun _ _ x => x)
    rw [wrap_bind]
    refine seg_step (wpAny_mono h₂ (fun _ s₃ h₃ => ?_) fun _ _ x => x)
    rw [wrap_bind]
    refine Eq.mpr (congrArg (fun t => Seg (model prog w) A R Y n s₀ _ t fs s₃) (Sem.wrap_congr (K' := loopK (.forLoop target it body [] env)) (H' := loopH env) _ _ _ (fun f => ?_) (fun e => rfl))) h₃
    cases f <;> rfl

theorem seg_block_nil {k h g l c₁ p₁ kp} (hk : Seg (model prog w) A R Y n s₀ c₁ (k (.ok .next)) fs s) {c : Code} :
    Seg (model prog w) A R Y n s₀ c (.pure (.again (.block [] env))) (.ret k h g l c₁ p₁ kp :: fs) s := by
  refine seg_again rfl ?_
  exact seg_leaf (.ok .next) hk
end
end Mine

end -- G1

section -- G2
namespace Mine
open PySem PyProof.Rows

/-- the defs of the text, by their place in its top -/
def bodyAt (i : Nat) : List Stmt := match PySem.Challenge.pw_re0016_01.main.body[i]? with
  | some (.FunctionDef _ _ b _ _ _ _ _ _ _) => b
  | _ => []
def scopeAt (i : Nat) : Scope := match PySem.Challenge.pw_re0016_01.main.body[i]? with
  | some (.FunctionDef _ _ _ _ _ _ sc _ _ _) => sc
  | _ => { kind := .module, names := [], isGenerator := false, isCoroutine := false, more := [] }
def paramsAt (i : Nat) : Arguments := match PySem.Challenge.pw_re0016_01.main.body[i]? with
  | some (.FunctionDef _ a _ _ _ _ _ _ _ _) => a
  | _ => { posonlyargs := [], args := [], vararg := none, kwonlyargs := [], kw_defaults := [], kwarg := none, defaults := [] }
def stAt (b : List Stmt) (i : Nat) : Stmt := b.getD i (.Pass ⟨0, 0, 0, 0⟩)
def forTarget : Stmt → Expr
  | .For t _ _ _ _ => t
  | _ => .Constant .none 0 ⟨0, 0, 0, 0⟩
def forBody : Stmt → List Stmt
  | .For _ _ b _ _ => b
  | _ => []

def gEnv (L : Addr) : Env := envOf "_iter_escaped_chars" (scopeAt 4) L 45 (.ref 44)

/-- what the generator yields -/
def esc : Nat → Bool → List Nat → List (Nat × List Nat)
  | _, false, [] => []
  | i, true, [] => [(i - 1, [92])]
  | i, true, c :: r => (i, [92, c]) :: esc (i + 1) false r
  | i, false, c :: r => if c == 92 then esc (i + 1) true r else (i, [c]) :: esc (i + 1) false r

def Ag (ex : Nat → Nat × List Nat) : List (Nat × List Nat) → Prop
  | [] => True
  | z :: zs => ex zs.length = z ∧ Ag ex zs

/-- the generator leaves what lies below N -/
def LowKept (N : Nat) (h h' : Heap) : Prop := ∀ b o, b < N → h.get? b = some o → h'.get? b = some o
/-- what the generator leaves: all below N, and its own object, the one behind N -/
def GKept (N : Nat) (h h' : Heap) : Prop := ∀ b o, (b < N ∨ b = N + 1) → h.get? b = some o → h'.get? b = some o
theorem GKept.trans {N : Nat} {a b c : Heap} (x : GKept N a b) (y : GKept N b c) : GKept N a c := fun i o h e => y i o h (x i o h e)
theorem GKept.refl (N : Nat) (a : Heap) : GKept N a a := fun _ _ _ e => e
theorem GKept.low {N : Nat} {a b : Heap} (x : GKept N a b) : LowKept N a b := fun i o h e => x i o (.inl h) e
theorem hi_of {N L : Nat} (h : L = N ∨ N + 2 ≤ L) : N ≤ L := by omega
/-- its consumer leaves what lies above -/
def HighKept (N : Nat) (h h' : Heap) : Prop := ∀ b o, N ≤ b → h.get? b = some o → h'.get? b = some o
theorem LowKept.trans {N : Nat} {a b c : Heap} (x : LowKept N a b) (y : LowKept N b c) : LowKept N a c := fun i o h e => y i o h (x i o h e)
theorem LowKept.refl (N : Nat) (a : Heap) : LowKept N a a := fun _ _ _ e => e

def Same (s s' : Shared) : Prop := ∃ h tk, s' = { s with heap := h, toks := tk }
theorem Same.refl (s : Shared) : Same s s := ⟨_, _, rfl⟩
theorem Same.trans {a b c : Shared} (x : Same a b) (y : Same b c) : Same a c := by
  obtain ⟨h, t, rfl⟩ := x
  obtain ⟨h', t', rfl⟩ := y
  exact ⟨_, _, rfl⟩
theorem Same.mk (s : Shared) (h : Heap) (tk : Nat) : Same s { s with heap := h, toks := tk } := ⟨_, _, rfl⟩

def gP (N : Nat) (n : Nat) (s₀ s₁ : Shared) : Prop := n = 0 ∧ Same s₀ s₁ ∧ GKept N s₀.heap s₁.heap
def gR (N : Nat) : GenEnd := fun n s₀ r s₁ => r = .ok (.ret .none) ∧ gP N n s₀ s₁
def gY (N : Nat) (ex : Nat → Nat × List Nat) : Protocol := fun n s₀ v s₁ kap =>
  Same s₀ s₁ ∧ GKept N s₀.heap s₁.heap ∧ (∃ T t1 t2, v = .ref T ∧ s₁.heap.get? T = some { cls := .type "tuple", data := .seq #[.int (ex n).1 t1, .str ⟨(ex n).2.toArray⟩ t2] }) ∧
  ∀ s'', HighKept N s₁.heap s''.heap → kap (.send .none) s''

section
variable {Mo : Model} {A : Around} {E : Value → Shared → Prop} {s : Shared} {L : Addr} {m : Str → Option Value}
theorem g_load {x : Str} {pos : Pos} {v : Value} {Q : Value → Shared → Prop} (hn : s.heap.Ns L m) (hv : m x = some v) (h : Q v s)
    (hl : (gEnv L).kindOf x = some .local) (hd : (x == ("__debug__" : Str)) = false) : wpAny Mo A (eval (.Name x pos) (gEnv L)) Q E s :=
  wpAny_Name (wpAny_loadName_local rfl hl hn hv h) hd
theorem g_store {x : Str} {v : Value} {Q : Unit → Shared → Prop} (hn : s.heap.Ns L m) (hl : (gEnv L).kindOf x = some .local)
    (h : ∀ h', h'.Ns L (fun y => if y = x then some v else m y) → Heap.SameBut L s.heap h' → Q () { s with heap := h', toks := s.toks + 1 }) :
    wpAny Mo A (storeName (gEnv L) x v) Q E s := wpAny_storeName_local hl hn h rfl
end

set_option maxRecDepth 100000
theorem kind_pos (L : Addr) : (gEnv L).kindOf "pos" = some .local := by rfl
theorem kind_ch (L : Addr) : (gEnv L).kindOf "ch" = some .local := by rfl
theorem kind_escape (L : Addr) : (gEnv L).kindOf "escape" = some .local := by rfl
theorem kind_addr (L : Addr) : (gEnv L).kindOf "addr" = some .local := by rfl

/-- the generator's frame and what it walks, ahead of the turn i -/
structure GAt (N L e I : Addr) (x : Str) (tx : Tok) (i : Nat) (b : Bool) (h : Heap) : Prop where
  ns : ∃ m p tp, h.Ns L m ∧ m "escape" = some (.bool b) ∧ m "pos" = some (.int p tp) ∧ p = ((i - 1 : Nat) : Int)
  en : ∃ old, IsEnum h e I i old
  it : h.IsStrIter I "str_ascii_iterator" x tx i
  far : (L = N ∨ N + 2 ≤ L) ∧ (e = N ∨ N + 2 ≤ e) ∧ (I = N ∨ N + 2 ≤ I) ∧ L ≠ e ∧ L ≠ I ∧ e ≠ I
theorem GAt.keeps {N L e I : Addr} {x : Str} {tx : Tok} {i : Nat} {b : Bool} {h h' : Heap} (g : GAt N L e I x tx i b h) (k : HighKept N h h') : GAt N L e I x tx i b h' := by
  obtain ⟨⟨m, p, tp, hn, r⟩, ⟨old, he⟩, hi, hf⟩ := g
  refine ⟨⟨m, p, tp, ?_, r⟩, ⟨old, k _ _ (hi_of hf.2.1) he⟩, ?_, hf⟩
  · obtain ⟨o, es, ep, ho, q⟩ := hn
    exact ⟨o, es, ep, k _ _ (hi_of hf.1) ho, q⟩
  · obtain ⟨o, ho, q⟩ := hi
    exact ⟨o, k _ _ (hi_of hf.2.2.1) ho, q⟩
end Mine

end -- G2

section -- G3
namespace Mine
open PySem PyProof.Rows
set_option maxRecDepth 100000

def gK : Flow → Sem PySem.Fin := fun f => .pure (.done (.ret (match f with | .ret v => v | _ => .none)))
def gH (L : Addr) : Value → Sem PySem.Fin := fun e => (leaving (gEnv L) e).wrap (fun _ => .raise e) .raise id id
def gC (L : Addr) : Code := .func (bodyAt 4) (gEnv L)

section
variable {prog : Program} {w : World} {A : Around} {N L : Addr} {ex : Nat → Nat × List Nat} {s₀ s : Shared} {m : Str → Option Value}

/-- a yield of a pair -/
theorem seg_pair {n : Nat} {c : Code} {fs : List PySem.Frame} {K : Flow → Sem PySem.Fin} {H : Value → Sem PySem.Fin} {gd : Bool → Bool} {lv : List Value → List Value} {a b : Expr} {k : Nat} {p1 p2 p3 : Pos} {p : Nat} {x : List Nat} {t1 : Tok}
    (hfs : splitAtGen fs = none) (hgd : gd false = false) (hfg : fs.any PySem.Frame.guarded = false) (S : Same s₀ s) (LK : GKept N s₀.heap s.heap) (hex : ex n = (p, x))
    (ha : ∀ Q : Value → Shared → Prop, Q (.int p t1) s → wpAny (model prog w) (A.over c fs) (eval a (gEnv L)) Q (fun _ _ => False) s)
    (hb : ∀ Q : Value → Shared → Prop, (∀ t2 tk, Q (.str ⟨x.toArray⟩ t2) { s with toks := tk }) → wpAny (model prog w) (A.over c fs) (eval b (gEnv L)) Q (fun _ _ => False) s)
    (hp : ∀ o, starEach [a, b] (gEnv L) = [(false, eval a (gEnv L)), (false, eval b (gEnv L))] ∨ o)
    (hgo : ∀ s'' h₁, HighKept N (s.heap.push h₁) s''.heap → Seg (model prog w) A (gR N) (gY N ex) n s'' c (K .next) fs s'') :
    Seg (model prog w) A (gR N) (gY N ex) (n + 1) s₀ c ((exec (.Expr (.Yield (some (.Tuple [a, b] k p1)) p2) p3) (gEnv L)).wrap K H gd lv) fs s := by
  refine seg_Expr_Yield hfs hgd hfg ?_ rfl rfl
  refine wp_no ?_
  refine Tuple_ ?_
  rw [(hp False).resolve_right id]
  show wpAny _ _ (spliced [(false, eval a (gEnv L)), (false, eval b (gEnv L))]) _ _ _
  refine Calls.spliced_cons (ha _ (Calls.spliced_cons (hb _ fun t2 tk => Calls.spliced_nil ?_)))
  refine wpAny_newTuple ?_ (by show 2 ≤ _; decide)
  intro kap hkap
  refine ⟨S.trans ⟨_, _, rfl⟩, LK.trans fun b o _ e => Heap.get?_push_of_some _ e, ⟨_, t1, t2, rfl, ?_⟩, fun s'' hk => hkap _ s'' (hgo s'' _ hk)⟩
  rw [hex]; exact Heap.get?_push_size _ rfl

theorem seg_tail {p : Nat} {tp : Tok} {b : Bool} (hn : s.heap.Ns L m) (hb : m "escape" = some (.bool b)) (hp : m "pos" = some (.int p tp)) (S : Same s₀ s) (LK : GKept N s₀.heap s.heap)
    (ag : Ag ex (if b = true then [(p, [92])] else [])) :
    Seg (model prog w) A (gR N) (gY N ex) (if b = true then [(p, [92])] else []).length s₀ (gC L) ((execs [stAt (bodyAt 4) 3] (gEnv L)).wrap gK (gH L) id id) [] s := by
  refine seg_execs_cons ?_
  refine seg_If ?_
  refine isTrue_plain (g_load hn hb ?_ (kind_escape L) (by decide)) rfl
  refine wpAny_truthy_bool ?_
  cases b with
  | false => exact seg_end (.ok (.ret .none)) ⟨rfl, rfl, S, LK⟩
  | true =>
    refine seg_execs_cons ?_
    refine seg_pair (p := p) (x := [92]) (t1 := tp) rfl rfl rfl S LK ag.1 (fun Q q => g_load hn hp q (kind_pos L) (by decide)) (fun Q q => Calls.Constant_str (q _ _)) (fun _ => .inl rfl) ?_
    intro s'' h₁ hk
    exact seg_end (.ok (.ret .none)) ⟨rfl, rfl, .refl _, .refl _ _⟩
end
end Mine

end -- G3

section -- G4
namespace Mine
open PySem PyProof.Rows
set_option maxRecDepth 100000

def gFor : Stmt := stAt (bodyAt 4) 2
def gLoop (L e : Addr) : Code := .forLoop (forTarget gFor) (.ref e) (forBody gFor) [] (gEnv L)
def gNext (L : Addr) : Flow → Sem PySem.Fin := fun f => match f with
  | .next => (execs [stAt (bodyAt 4) 3] (gEnv L)).wrap gK (gH L) id id
  | f => gK f
def gKont (L : Addr) : Result → Sem PySem.Fin := fun r => ((match r with | .ok f => (.pure f : Sem Flow) | .error e => .raise e).onRaise fun (x : Value) => do
        if (← field x 1) == Value.none then unsupported "frame.own-activation:exception-without-traceback"
        setFlight x (gEnv L).frame).wrap (gNext L) (gH L) id id
def gFr (L : Addr) (p : Pos) : PySem.Frame := .ret (gKont L) none (id false) (id []) (gC L) p []

theorem ne_low {N b L : Nat} (h : b < N ∨ b = N + 1) (k : L = N ∨ N + 2 ≤ L) : b ≠ L := by omega
section
variable {prog : Program} {w : World} {A : Around} {N L e I : Addr} {ex : Nat → Nat × List Nat} {x : Str} {tx : Tok} {p : Pos}

theorem over_handled (hA : A.handled = none) : (A.over (gLoop L e) [gFr L p]).handled = none := by
  show (marksOver [gFr L p] (A.handled, A.handled)).1 = none
  rw [hA]; rfl

theorem assign_pair {A : Around} {E : Value → Shared → Prop} {s : Shared} {m : Str → Option Value} {T : Addr} {v1 v2 : Value} {Q : Unit → Shared → Prop} (hA : A.handled = none) (hn : s.heap.Ns L m) (hT : s.heap.IsTuple T #[v1, v2])
    (h : ∀ h' tk, h'.Ns L (fun y => if y = "ch" then some v2 else if y = "pos" then some v1 else m y) → (∀ b o, b ≠ L → s.heap.get? b = some o → h'.get? b = some o) → Q () { s with heap := h', toks := tk }) :
    wpAny (model prog w) A (assign (forTarget gFor) (gEnv L) (.ref T)) Q E s := by
  refine wpAny_assign_Tuple hA hT rfl rfl fun h₁ hx₁ => ?_
  have hn₁ : h₁.Ns L m := by
    obtain ⟨o, es, ep, ho, q⟩ := hn
    exact ⟨o, es, ep, hx₁ _ _ (Nat.ne_of_lt (Heap.lt_size ho)) ho, q⟩
  refine wpAny_bind (wpAny_holding (wpAny_bind (wpAny_standAt (wpAny_bindName (g_store hn₁ (kind_pos L) fun h₂ hn₂ hs₂ => ?_)))))
  refine wpAny_bind (wpAny_holding (wpAny_bind (wpAny_standAt (wpAny_bindName (g_store hn₂ (kind_ch L) fun h₃ hn₃ hs₃ => wpAny_pure (h h₃ _ hn₃ ?_))))))
  intro b o hb e
  exact hs₃.extBut b o hb (hs₂.extBut b o hb (hx₁ b o (Nat.ne_of_lt (Heap.lt_size e)) e))


theorem seg_loop (hA : A.handled = none) : ∀ (r : List Nat) (i : Nat) (b : Bool) (s₀ s : Shared), x.cps.toList.drop i = r → i + r.length = x.cps.size → GAt N L e I x tx i b s.heap → Same s₀ s → GKept N s₀.heap s.heap → Ag ex (esc i b r) →
    Seg (model prog w) A (gR N) (gY N ex) (esc i b r).length s₀ (gLoop L e) ((model prog w).den (gLoop L e)) [gFr L p] s
  | [], i, b, s₀, s, hr, hi, G, S, LK, ag => by
    obtain ⟨⟨m, pv, tp, hn, hme, hmp, hpv⟩, ⟨old, hen⟩, hit, hf⟩ := G
    have hh := over_handled (L := L) (e := e) (p := p) hA
    have hi' : i = x.cps.size := by simpa using hi
    refine seg_forLoop ?_
    refine wpAny_pyNext_enum_endD (Draws.strAscii (A := (A.over (gLoop L e) [gFr L p]).in1) hh I x tx) hen (hi' ▸ hit) ?_
    intro h₁ hx₁
    refine seg_block_nil ?_
    have hn₁ : h₁.Ns L m := by
      obtain ⟨o, es, ep, ho, q⟩ := hn
      exact ⟨o, es, ep, hx₁ _ _ hf.2.2.2.2.1 ho, q⟩
    have LK₁ : GKept N s₀.heap h₁ := LK.trans fun b o hb q => hx₁ b o (ne_low hb hf.2.2.1) q
    rw [hpv] at hmp
    have := seg_tail (prog := prog) (w := w) (A := A) (N := N) (L := L) (ex := ex) (s₀ := s₀) (s := { s with heap := h₁ }) (p := i - 1) (tp := tp) (b := b) hn₁ hme hmp (S.trans ⟨_, _, rfl⟩) LK₁ (by cases b <;> exact ag)
    cases b
    · exact this
    · exact this
  | c :: r, i, b, s₀, s, hr, hi, G, S, LK, ag => by
    have hlt : i < x.cps.size := by simp at hi; omega
    have hc : x.cps[i]? = some c := by
      have := List.getElem?_drop (xs := x.cps.toList) (i := i) (j := 0)
      rw [hr] at this
      simpa using this.symm
    have hr' : x.cps.toList.drop (i + 1) = r := by
      rw [← List.tail_drop, hr]; rfl
    have hi' : i + 1 + r.length = x.cps.size := by simp at hi; omega
    obtain ⟨⟨m, pv, tp, hn, hme, hmp, hpv⟩, ⟨old, hen⟩, hit, hf⟩ := G
    have hh := over_handled (L := L) (e := e) (p := p) hA
    refine seg_forLoop ?_
    refine wpAny_pyNext_enum_itemD (Draws.strAscii (A := (A.over (gLoop L e) [gFr L p]).in1) hh I x tx) hen hit hlt hf.2.2.2.2.2 (by simp; exact hf.2.2.2.2.2) ?_
    rintro v h₁ tk ⟨c', u, hc', rfl⟩ ho hst hT hsz hk₁
    rw [hc] at hc'
    cases hc'
    refine wpAny_letOwnedTupleGo_enum ho fun h₂ he₂ hs₂ => ?_
    have heN : e < s.heap.objs.size := Heap.lt_size hen
    have hLN : L < s.heap.objs.size := hn.lt
    have hT₂ : h₂.IsTuple s.heap.objs.size #[.int i tk, .str ⟨#[c]⟩ u] := ⟨_, hs₂.extBut _ _ (Nat.ne_of_gt heN) hT, rfl, _, rfl⟩
    have hn₂ : h₂.Ns L m := by
      obtain ⟨o, es, ep, ho', q⟩ := hn
      exact ⟨o, es, ep, hs₂.extBut _ _ hf.2.2.2.1 (hk₁ _ _ hf.2.2.2.1 hf.2.2.2.2.1 ho'), q⟩
    refine assign_pair (s := { s with heap := h₂, toks := tk + 1 }) hh hn₂ hT₂ fun h₃ tk₃ hn₃ hk₃ => ?_
    have S₃ : Same s₀ { s with heap := h₃, toks := tk₃ } := S.trans ⟨_, _, rfl⟩
    have up₃ : ∀ b o, b ≠ L → b ≠ e → b ≠ I → s.heap.get? b = some o → h₃.get? b = some o := fun b o h1 h2 h3 q => hk₃ b o h1 (hs₂.extBut b o h2 (hk₁ b o h2 h3 q))
    have LK₃ : GKept N s₀.heap h₃ := LK.trans fun b o hb q => up₃ b o (ne_low hb hf.1) (ne_low hb hf.2.1) (ne_low hb hf.2.2.1) q
    have en₃ : IsEnum h₃ e I ((i + 1 : Nat) : Int) (.str ⟨#[c]⟩ u) := by
      have : IsEnum h₂ e I ((i : Int) + 1) (.str ⟨#[c]⟩ u) := he₂
      exact hk₃ _ _ (Ne.symm hf.2.2.2.1) (by simpa using this)
    have it₃ : h₃.IsStrIter I "str_ascii_iterator" x tx (i + 1) := by
      obtain ⟨o, ho', q⟩ := hst
      exact ⟨o, hk₃ _ _ (Ne.symm hf.2.2.2.2.1) (hs₂.extBut _ _ (Ne.symm hf.2.2.2.2.2) ho'), q⟩
    -- the frame's letters behind the target's stores
    have m_e : (fun y => if y = ("ch" : Str) then some (Value.str ⟨#[c]⟩ u) else if y = ("pos" : Str) then some (.int i tk) else m y) "escape" = some (.bool b) := by
      show (if ("escape" : Str) = "ch" then _ else if ("escape" : Str) = "pos" then _ else m "escape") = _
      rw [if_neg (by decide), if_neg (by decide)]; exact hme
    have m_p : (fun y => if y = ("ch" : Str) then some (Value.str ⟨#[c]⟩ u) else if y = ("pos" : Str) then some (.int i tk) else m y) "pos" = some (.int i tk) := by
      show (if ("pos" : Str) = "ch" then _ else if ("pos" : Str) = "pos" then _ else m "pos") = _
      rw [if_neg (by decide), if_pos rfl]
    have m_c : (fun y => if y = ("ch" : Str) then some (Value.str ⟨#[c]⟩ u) else if y = ("pos" : Str) then some (.int i tk) else m y) "ch" = some (.str ⟨#[c]⟩ u) := by
      show (if ("ch" : Str) = "ch" then _ else _) = _
      rw [if_pos rfl]
    generalize (fun y => if y = ("ch" : Str) then some (Value.str ⟨#[c]⟩ u) else if y = ("pos" : Str) then some (.int i tk) else m y) = m₃ at hn₃ m_e m_p m_c
    -- a store of the flag, and the next turn
    have next : ∀ (b' : Bool) (s₁ s₂ : Shared), HighKept N h₃ s₂.heap → Same s₁ s₂ → GKept N s₁.heap s₂.heap → Ag ex (esc (i + 1) b' r) → ∀ {pp : Pos} {kk : Nat} {p1 p2 : Pos},
        wpAny (model prog w) (A.over (gLoop L e) [gFr L p]) (exec (.Assign [.Name "escape" p1] (.Constant (.bool b') kk p2) pp) (gEnv L)) (fun f s₃ => f = .next ∧
          Seg (model prog w) A (gR N) (gY N ex) (esc (i + 1) b' r).length s₁ (gLoop L e) ((model prog w).den (gLoop L e)) [gFr L p] s₃) (fun _ _ => False) s₂ := by
      intro b' s₁ s₂ hk S' LK' ag' pp kk p1 p2
      have hn' : s₂.heap.Ns L m₃ := by
        obtain ⟨o, es, ep, ho', q⟩ := hn₃
        exact ⟨o, es, ep, hk _ _ (hi_of hf.1) ho', q⟩
      refine wpAny_Assign_Name (wpAny_pure (g_store hn' (kind_escape L) fun h₄ hn₄ hs₄ => ⟨rfl, ?_⟩)) rfl
      refine seg_loop hA r (i + 1) b' s₁ _ hr' hi' ?_ (S'.trans ⟨_, _, rfl⟩) (LK'.trans fun b o hb q => hs₄.extBut b o (ne_low hb hf.1) q) ag'
      refine ⟨⟨_, i, tk, hn₄, if_pos rfl, (if_neg (by decide)).trans m_p, by simp⟩, ⟨_, hs₄.extBut _ _ (Ne.symm hf.2.2.2.1) (hk _ _ (hi_of hf.2.1) en₃)⟩, ?_, hf⟩
      obtain ⟨o, ho', q⟩ := it₃
      exact ⟨o, hs₄.extBut _ _ (Ne.symm hf.2.2.2.2.1) (hk _ _ (hi_of hf.2.2.1) ho'), q⟩
    refine seg_execs_cons ?_
    refine seg_If ?_
    refine isTrue_plain (g_load hn₃ m_e ?_ (kind_escape L) (by decide)) rfl
    refine wpAny_truthy_bool ?_
    cases b with
    | true =>
      -- an escaped sign
      refine seg_execs_cons ?_
      refine seg_pair (s := { s with heap := h₃, toks := tk₃ }) (p := i) (x := [92, c]) (t1 := tk) rfl rfl rfl S₃ LK₃ ag.1 (fun Q q => g_load hn₃ m_p q (kind_pos L) (by decide)) (fun Q q => ?_) (fun _ => .inl rfl) ?_
      · refine wpAny_BinOp (Calls.Constant_str (g_load hn₃ m_c ?_ (kind_ch L) (by decide)))
        exact PyProof.Rows.add_str (fun t' k => q t' k) (by show 1 + 1 ≤ sizeLine; decide)
      · intro s'' hp hk
        refine seg_execs_cons ?_
        refine seg_step (wpAny_mono (next false s'' s'' (fun b o hb q => hk b o hb (Heap.get?_push_of_some _ q)) (.refl _) (.refl _ _) ag.2) (fun f s₃ h₃ => ?_) fun _ _ x => x)
        obtain ⟨rfl, h₃⟩ := h₃
        exact seg_again rfl h₃
    | false =>
      refine seg_execs_cons ?_
      refine seg_If ?_
      refine wpAny_isTrue_Compare1 (g_load hn₃ m_c ?_ (kind_ch L) (by decide)) rfl
      refine Calls.Constant_str ?_
      refine PyProof.Rows.eq_str ?_
      refine wpAny_truthy_bool ?_
      unfold esc at ag ⊢
      by_cases h92 : (c == 92) = true
      · rw [if_pos h92] at ag ⊢
        have e1 : ((⟨#[c]⟩ : Str) == (Str.ofString "\\")) = true := by
          have : c = 92 := eq_of_beq h92
          subst this; decide
        rw [e1]
        refine seg_execs_cons ?_
        refine seg_step (wpAny_mono (next true s₀ { s with heap := h₃, toks := tk₃ + 1 } (fun _ _ _ q => q) (S.trans ⟨_, _, rfl⟩) LK₃ ag) (fun f s₃ h₃ => ?_) fun _ _ x => x)
        obtain ⟨rfl, h₃⟩ := h₃
        exact seg_again rfl h₃
      · rw [if_neg h92] at ag ⊢
        have e1 : ((⟨#[c]⟩ : Str) == (Str.ofString "\\")) = false := by
          apply beq_eq_false_iff_ne.mpr
          intro q
          apply h92
          have : (⟨#[c]⟩ : Str) = ⟨#[92]⟩ := q.trans (by decide)
          injection this with this
          have : [c] = [92] := congrArg Array.toList this
          cases this; rfl
        rw [e1]
        refine seg_execs_cons ?_
        refine seg_pair (s := { s with heap := h₃, toks := tk₃ + 1 }) (p := i) (x := [c]) (t1 := tk) rfl rfl rfl (S.trans ⟨_, _, rfl⟩) LK₃ ag.1 (fun Q q => g_load hn₃ m_p q (kind_pos L) (by decide)) (fun Q q => g_load hn₃ m_c (q u _) (kind_ch L) (by decide)) (fun _ => .inl rfl) ?_
        intro s'' hp hk
        refine seg_again rfl ?_
        have hk' : HighKept N h₃ s''.heap := fun b o hb q => hk b o hb (Heap.get?_push_of_some _ q)
        refine seg_loop hA r (i + 1) false s'' s'' hr' hi' ?_ (.refl _) (.refl _ _) ag.2
        refine GAt.keeps (h := h₃) ⟨⟨m₃, i, tk, hn₃, m_e, m_p, by simp⟩, ⟨_, en₃⟩, it₃, hf⟩ hk'
end
end Mine

end -- G4

section -- T0
namespace Mine
open PySem PyProof.Rows

/-- a def of the text as an object -/
def FnAt (h : Heap) (a c i : Nat) (name : Str) : Prop :=
  (∃ o pm doc, h.get? a = some o ∧ o.data = .func (Calls.docDef name (paramsAt i) (bodyAt i) (scopeAt i) pm (.ref c) doc)) ∧ h.CodeRec (.ref c) name

def glNames : List (Str × Value) := [("_strip_exception_details", .ref 38), ("_iter_escaped_chars", .ref 45), ("_strip_quoted_realnames", .ref 52), ("_twin_re_1", .ref 57), ("_twin_re_2", .ref 62), ("CRLF", .str ⟨#[13, 10]⟩ 378),
  ("quotedata", .ref 69), ("_law_mail", .ref 76), ("_law_due", .ref 81)]
def biNames : List (Str × Value) := [("len", .builtin "len"), ("enumerate", .type "enumerate"), ("zip", .type "zip"), ("range", .type "range"), ("sum", .builtin "sum")]

/-- what the law's call finds at the top -/
structure Tops (h : Heap) : Prop where
  ns : ∃ mg mb, h.Ns mainGlobals mg ∧ h.Ns builtinsNs mb ∧ (∀ p ∈ glNames, mg p.1 = some p.2) ∧ ∀ p ∈ biNames, mg p.1 = none ∧ mb p.1 = some p.2
  sed : FnAt h 38 37 2 "_strip_exception_details"
  iter : FnAt h 45 44 4 "_iter_escaped_chars"
  sqr : FnAt h 52 51 5 "_strip_quoted_realnames"
  quote : FnAt h 69 68 10 "quotedata"
  mail : FnAt h 76 75 12 "_law_mail"
  due : FnAt h 81 80 13 "_law_due"
  re1 : IsPat h 57 c1
  re2 : IsPat h 62 c2
  lim : h.NoLimit

theorem FnAt.keeps {h h' : Heap} {a c i : Nat} {name : Str} (x : FnAt h a c i name) (k : ∀ b o, h.get? b = some o → h'.get? b = some o) : FnAt h' a c i name := by
  obtain ⟨⟨o, pm, doc, ho, hd⟩, hc⟩ := x
  exact ⟨⟨o, pm, doc, k _ _ ho, hd⟩, hc.keeps k⟩
theorem Tops.keeps {h h' : Heap} (x : Tops h) (k : ∀ b o, h.get? b = some o → h'.get? b = some o) : Tops h' := by
  obtain ⟨⟨mg, mb, h1, h2, h3⟩, a, b, c, d, e, f, g, i, l⟩ := x
  exact ⟨⟨mg, mb, h1.keeps k, h2.keeps k, h3⟩, a.keeps k, b.keeps k, c.keeps k, d.keeps k, e.keeps k, f.keeps k, g.keeps k, i.keeps k, l.keeps k⟩

theorem IsPat.low {h h' : Heap} {P : Addr} {code : Array Nat} (x : IsPat h P code) (k : LowKept 82 h h') (hP : P < 82) : IsPat h' P code := by
  obtain ⟨o, C, oC, p, f, n, items, h1, h2, h3, h4, h5, h6, h7, h8⟩ := x.there
  exact ⟨o, C, oC, p, f, n, items, k _ _ hP h1, h2, h3, h4, k _ _ h8 h5, h6, h7, h8⟩
theorem ns_low {h h' : Heap} {a : Addr} {m : Str → Option Value} (x : h.Ns a m) (k : LowKept 82 h h') (ha : a < 82) : h'.Ns a m := by
  obtain ⟨o, es, ep, e, r⟩ := x
  exact ⟨o, es, ep, k _ _ ha e, r⟩
theorem FnAt.low {h h' : Heap} {a c i : Nat} {name : Str} (x : FnAt h a c i name) (k : LowKept 82 h h') (ha : a < 82) (hc : c < 82) : FnAt h' a c i name := by
  obtain ⟨⟨o, pm, doc, ho, hd⟩, c', oc, vs, t, e, g, r⟩ := x
  have : c' = c := (Value.ref.inj e).symm
  subst this
  exact ⟨⟨o, pm, doc, k _ _ ha ho, hd⟩, c', oc, vs, t, rfl, k _ _ hc g, r⟩
theorem Tops.low {h h' : Heap} (x : Tops h) (k : LowKept 82 h h') : Tops h' := by
  obtain ⟨⟨mg, mb, h1, h2, h3⟩, a, b, c, d, e, f, g, i, mc, l1, l2⟩ := x
  exact ⟨⟨mg, mb, ns_low h1 k (by decide), ns_low h2 k (by decide), h3⟩, a.low k (by decide) (by decide), b.low k (by decide) (by decide), c.low k (by decide) (by decide), d.low k (by decide) (by decide), e.low k (by decide) (by decide),
    f.low k (by decide) (by decide), g.low k (by decide), i.low k (by decide), mc, ns_low l1 k (by decide), l2⟩

section
variable {Mo : Model} {A : Around} {E : Value → Shared → Prop} {s : Shared} {env : Env}
theorem gl_name {x : Str} {p : Pos} {v : Value} {Q : Value → Shared → Prop} (T : Tops s.heap) (hm : (x, v) ∈ glNames) (hk : env.scope.kind = .function) (hx : env.kindOf x = some .globalImplicit) (hg : env.globals = mainGlobals)
    (h : Q v s) (hd : (x == ("__debug__" : Str)) = false) : wpAny Mo A (eval (.Name x p) env) Q E s := by
  obtain ⟨mg, mb, h1, h2, h3, h4⟩ := T.ns
  exact Calls.Name_function_global hk hx (Calls.loadGlobal_global (hg.symm ▸ h1) (h3 _ hm) h) hd
theorem bi_name {x : Str} {p : Pos} {v : Value} {Q : Value → Shared → Prop} (T : Tops s.heap) (hm : (x, v) ∈ biNames) (hk : env.scope.kind = .function) (hx : env.kindOf x = some .globalImplicit) (hg : env.globals = mainGlobals) (hb : env.builtins = builtinsNs)
    (h : Q v s) (hd : (x == ("__debug__" : Str)) = false) : wpAny Mo A (eval (.Name x p) env) Q E s := by
  obtain ⟨mg, mb, h1, h2, h3, h4⟩ := T.ns
  exact Calls.Name_function_global hk hx (Calls.loadGlobal_builtin (hg.symm ▸ h1) (h4 _ hm).1 (hb.symm ▸ h2) (h4 _ hm).2 h) hd
end

set_option maxRecDepth 100000
section
variable {prog : Program} {w : World} {A : Around} {N L : Addr} {ex : Nat → Nat × List Nat} {x : Str} {tx : Tok}

/-- the generator from its start -/
theorem seg_gen {s : Shared} {m : Str → Option Value} (hA : A.handled = none) (T : Tops s.heap) (hx : x.cps.all (· < 128) = true) (hn : s.heap.Ns L m) (hm : m "addr" = some (.str x tx)) (hL : L = N ∨ N + 2 ≤ L) (hz : N + 2 ≤ s.heap.objs.size) (hN : 82 ≤ N) (ag : Ag ex (esc 0 false x.cps.toList)) :
    Seg (model prog w) A (gR N) (gY N ex) (esc 0 false x.cps.toList).length s (gC L) ((model prog w).den (gC L)) [] s := by
  refine seg_func ?_
  have hLs : L < s.heap.objs.size := hn.lt
  refine seg_execs_cons (seg_step (wpAny_Assign_Name (wpAny_Constant_int (g_store hn (kind_pos L) fun h₁ hn₁ hs₁ => ?_)) rfl))
  refine seg_execs_cons (seg_step (wpAny_Assign_Name (wpAny_pure (g_store (s := { s with heap := h₁, toks := s.toks + 1 + 1 }) hn₁ (kind_escape L) fun h₂ hn₂ hs₂ => ?_)) rfl))
  refine seg_execs_cons ?_
  have up₂ : ∀ b o, b ≠ L → s.heap.get? b = some o → h₂.get? b = some o := fun b o hb q => hs₂.extBut b o hb (hs₁.extBut b o hb q)
  have lk₂ : GKept N s.heap h₂ := fun b o hb q => up₂ b o (ne_low hb hL) q
  have T₂ : Tops h₂ := T.low fun b o hb q => lk₂ b o (.inl (Nat.lt_of_lt_of_le hb hN)) q
  have hsz₂ : h₂.objs.size = s.heap.objs.size := by rw [hs₂.1, hs₁.1]
  refine seg_For (fun _ => rfl) ?_
  refine Call_Name1 (bi_name (s := { s with heap := h₂, toks := s.toks + 1 + 1 + 1 }) T₂ (v := .type "enumerate") (.tail _ (.head _)) rfl rfl rfl rfl ?_ (by decide))
  have ma : (fun y => if y = ("escape" : Str) then some (Value.bool false) else if y = ("pos" : Str) then some (Value.int 0 s.toks) else m y) "addr" = some (.str x tx) := by
    show (if ("addr" : Str) = "escape" then _ else if ("addr" : Str) = "pos" then _ else m "addr") = _
    rw [if_neg (by decide), if_neg (by decide)]; exact hm
  have me : (fun y => if y = ("escape" : Str) then some (Value.bool false) else if y = ("pos" : Str) then some (Value.int 0 s.toks) else m y) "escape" = some (.bool false) := if_pos rfl
  have mp : (fun y => if y = ("escape" : Str) then some (Value.bool false) else if y = ("pos" : Str) then some (Value.int 0 s.toks) else m y) "pos" = some (.int 0 s.toks) := by
    show (if ("pos" : Str) = "escape" then _ else if ("pos" : Str) = "pos" then _ else m "pos") = _
    rw [if_neg (by decide), if_pos rfl]
  refine PySem.callWith_type1 (g_load hn₂ ma ?_ (kind_addr L) (by decide))
  refine call_enumerate_str fun h₃ he₃ hi₃ hz₃ hk₃ => ?_
  refine wpAny_pyIter_enum he₃ ?_
  intro p
  have hLz : L < h₂.objs.size := hsz₂.symm ▸ hLs
  have hNz : N + 2 ≤ h₂.objs.size := hsz₂.symm ▸ hz
  have hst : strIterType x = "str_ascii_iterator" := by unfold strIterType; rw [hx]; rfl
  rw [hst] at hi₃
  refine seg_loop hA x.cps.toList 0 false s _ rfl (by simp) ⟨⟨_, 0, s.toks, hn₂.keeps hk₃, me, mp, rfl⟩, ⟨_, he₃⟩, hi₃, hL, .inr (Nat.le_succ_of_le hNz), .inr hNz, ?_, Nat.ne_of_lt hLz, Nat.succ_ne_self _⟩ ⟨_, _, rfl⟩ (lk₂.trans fun b o _ q => hk₃ b o q) ag
  exact Nat.ne_of_lt (Nat.lt_succ_of_lt hLz)
end
end Mine

end -- T0

section -- C1
namespace Mine
open PySem PySem.W PyProof.Rows
set_option maxRecDepth 100000

abbrev FL := List (Addr × Obj)
def Has (h : Heap) (F : FL) : Prop := ∀ p ∈ F, h.get? p.1 = some p.2
/-- objects that are new behind s -/
def New (s s' : Shared) (G : FL) : Prop := ∀ p ∈ G, s'.heap.get? p.1 = some p.2 ∧ s.heap.get? p.1 = none
theorem New.nil (s s' : Shared) : New s s' [] := fun _ h => nomatch h
theorem keeps_refl (s : Shared) : Keeps s s := ⟨_, _, rfl, fun _ _ e => e⟩
theorem keeps_toks (s : Shared) (tk : Nat) : Keeps s { s with toks := tk } := ⟨_, _, rfl, fun _ _ e => e⟩
theorem keeps_push (s : Shared) (o : Obj) (tk : Nat) : Keeps s { s with heap := s.heap.push o, toks := tk } := ⟨_, _, rfl, fun _ _ e => Heap.get?_push_of_some _ e⟩
theorem keeps_trans {a b c : Shared} (x : Keeps a b) (y : Keeps b c) : Keeps a c := by
  obtain ⟨h, t, rfl, k⟩ := x
  obtain ⟨h', t', rfl, k'⟩ := y
  exact ⟨h', t', rfl, fun i o e => k' i o (k i o e)⟩
theorem keeps_get {a b : Shared} (x : Keeps a b) : ∀ i o, a.heap.get? i = some o → b.heap.get? i = some o := by
  obtain ⟨h, t, rfl, k⟩ := x
  exact k
theorem not_there {a b : Shared} (x : Keeps a b) {i : Addr} (h : b.heap.get? i = none) : a.heap.get? i = none := by
  cases e : a.heap.get? i with
  | none => rfl
  | some o => rw [keeps_get x i o e] at h; cases h
theorem New.trans {a b c : Shared} {G G' : FL} (x : Keeps a b) (y : Keeps b c) (n : New a b G) (n' : New b c G') : New a c (G' ++ G) := by
  intro p hp
  rcases List.mem_append.mp hp with h | h
  · exact ⟨(n' p h).1, not_there x (n' p h).2⟩
  · exact ⟨keeps_get y _ _ (n p h).1, (n p h).2⟩
theorem Has.keeps {a b : Heap} {F : FL} (x : Has a F) (k : ∀ i o, a.get? i = some o → b.get? i = some o) : Has b F := fun p hp => k _ _ (x p hp)
theorem Has.more {a b : Shared} {F G : FL} (x : Has a.heap F) (k : Keeps a b) (n : New a b G) : Has b.heap (G ++ F) := by
  intro p hp
  rcases List.mem_append.mp hp with h | h
  · exact (n p h).1
  · exact keeps_get k _ _ (x p h)
theorem dat_more {F G : FL} {v : Value} {d : Dat} (x : DatIn F v d) : DatIn (G ++ F) v d := x.mono fun _ h => List.mem_append_right _ h
theorem dats_more {F G : FL} {v : List Value} {d : List Dat} (x : DatAll F v d) : DatAll (G ++ F) v d := x.mono fun _ h => List.mem_append_right _ h

/-- room for so many calls within calls -/
def AOk (n : Nat) (A : Around) : Prop := A.handled = none ∧ A.depth + n ≤ 400 ∧ A.units + 10 * n ≤ 1000

/-- the name x holds v -/
def Holds (env : Env) (h : Heap) (x : Str) (v : Value) : Prop :=
  (env.kindOf x = some .local ∧ ∃ m, h.Ns env.locals m ∧ m x = some v) ∨
  ((env.kindOf x = some .cell ∨ env.kindOf x = some .free) ∧ ∃ c, env.cells.lookup x = some c ∧ h.IsCell c (some v))
theorem Holds.keeps {env : Env} {h h' : Heap} {x : Str} {v : Value} (y : Holds env h x v) (k : ∀ i o, h.get? i = some o → h'.get? i = some o) : Holds env h' x v := by
  rcases y with ⟨a, m, n, e⟩ | ⟨a, c, e, i⟩
  · exact .inl ⟨a, m, n.keeps k, e⟩
  · exact .inr ⟨a, c, e, i.keeps k⟩

/-- a variable: unknown, a value, or a list that is being filled -/
inductive VV where
  | no
  | val (d : Dat)
  | acc (ds : List Dat)
abbrev VS := List VV
def VS.at (σ : VS) (i : Nat) : VV := σ.getD i .no
def VS.get (σ : VS) (i : Nat) : Option Dat := match σ.at i with
  | .val d => some d
  | _ => none

/-- the environment of a body -/
structure EnvOk (sc : Scope) (env : Env) : Prop where
  scope : env.scope = sc
  kind : sc.kind = .function
  gl : env.globals = mainGlobals
  bi : env.builtins = builtinsNs

def Sees (env : Env) (nm : List Str) (h : Heap) (F : FL) (σ : VS) : Prop := ∀ i x d, nm[i]? = some x → σ.get i = some d → ∃ v, Holds env h x v ∧ DatIn F v d
theorem Sees.keeps {env : Env} {nm : List Str} {s s' : Shared} {F G : FL} {σ : VS} (x : Sees env nm s.heap F σ) (k : Keeps s s') : Sees env nm s'.heap (G ++ F) σ := by
  intro i y d h1 h2
  obtain ⟨v, h3, h4⟩ := x i y d h1 h2
  exact ⟨v, h3.keeps (keeps_get k), dat_more h4⟩

/-- what stands ahead of an expression -/
structure At (sc : Scope) (nm : List Str) (n : Nat) (A : Around) (env : Env) (s : Shared) (F : FL) (σ : VS) : Prop where
  envOk : EnvOk sc env
  ok : AOk n A
  tops : Tops s.heap
  has : Has s.heap F
  sees : Sees env nm s.heap F σ
  tok : 1 ≤ s.toks
theorem At.keeps {sc : Scope} {nm : List Str} {n : Nat} {A : Around} {env : Env} {s s' : Shared} {F G : FL} {σ : VS} (x : At sc nm n A env s F σ) (k : Keeps s s') (g : New s s' G) (t : s.toks ≤ s'.toks) : At sc nm n A env s' (G ++ F) σ :=
  ⟨x.envOk, x.ok, x.tops.keeps (keeps_get k), x.has.more k g, x.sees.keeps k, Nat.le_trans x.tok t⟩

/-- the end of an expression -/
def Ends (s : Shared) (F : FL) (d : Dat) (v : Value) (s' : Shared) : Prop := Keeps s s' ∧ ∃ G, New s s' G ∧ DatIn (G ++ F) v d

/-- the expression e is f of the variables -/
def CE (sc : Scope) (nm : List Str) (n : Nat) (e : Expr) (f : VS → Option Dat) : Prop :=
  ∀ (prog : Program) (w : World) (A : Around) (env : Env) (s : Shared) (F : FL) (σ : VS) (d : Dat), At sc nm n A env s F σ → f σ = some d →
    wpAny (model prog w) A (eval e env) (Ends s F d) (fun _ _ => False) s

section
variable {sc : Scope} {nm : List Str} {n : Nat} {prog : Program} {w : World} {A : Around} {env : Env} {s : Shared} {F : FL} {σ : VS}

theorem ends_val {d : Dat} {v : Value} {tk : Nat} (h : DatIn F v d) : Ends s F d v { s with toks := tk } := ⟨keeps_toks _ _, [], .nil _ _, h⟩
theorem ends_val0 {d : Dat} {v : Value} (h : DatIn F v d) : Ends s F d v s := ⟨keeps_refl _, [], .nil _ _, h⟩

/-- one expression, then the rest -/
theorem CE.then {e : Expr} {f : VS → Option Dat} (x : CE sc nm n e f) (a : At sc nm n A env s F σ) {d : Dat} (hd : f σ = some d) {Q : Value → Shared → Prop} {E : Value → Shared → Prop}
    (h : ∀ v s' G, Keeps s s' → New s s' G → At sc nm n A env s' (G ++ F) σ → DatIn (G ++ F) v d → Q v s') : wpAny (model prog w) A (eval e env) Q E s := by
  refine wpAny_mono (wpAny_toks (x prog w A env s F σ d a hd)) (fun v s' y => ?_) fun _ _ z => z.2.elim
  obtain ⟨t, k, G, g, dd⟩ := y
  exact h v s' G k g (a.keeps k g t) dd
/-- the last step's end is the whole's end -/
theorem Ends.after {s s₁ s' : Shared} {F G : FL} {d : Dat} {v : Value} (k : Keeps s s₁) (g : New s s₁ G) (x : Ends s₁ (G ++ F) d v s') : Ends s F d v s' := by
  obtain ⟨k', G', g', dd⟩ := x
  exact ⟨keeps_trans k k', G' ++ G, New.trans k k' g g', by rw [List.append_assoc]; exact dd⟩

theorem CE.int {i : Int} {k : Nat} {p : Pos} : CE sc nm n (.Constant (.int i) k p) (fun _ => some (.int i)) := by
  intro prog w A env s F σ d a hd
  cases hd
  exact wpAny_Constant_int (ends_val (.int _ _))
theorem CE.str {x : Str} {k : Nat} {p : Pos} : CE sc nm n (.Constant (.str x) k p) (fun _ => some (.str x)) := by
  intro prog w A env s F σ d a hd
  cases hd
  exact Calls.Constant_str (ends_val (.str _ _))

theorem load_holds {x : Str} {p : Pos} {v : Value} {Q : Value → Shared → Prop} {E : Value → Shared → Prop} (he : EnvOk sc env) (hv : Holds env s.heap x v) (h : Q v s) (h1 : (x == ("__debug__" : Str)) = false) (h2 : (x == ("__classdict__" : Str)) = false) :
    wpAny (model prog w) A (eval (.Name x p) env) Q E s := by
  have hk : env.scope.kind = .function := by rw [he.scope]; exact he.kind
  refine wpAny_Name ?_ h1
  rcases hv with ⟨a, m, hn, e⟩ | ⟨a | a, c, e, i⟩
  · exact wpAny_loadName_local hk a hn e h
  · exact wpAny_loadName_cell hk a e i h
  · exact wpAny_loadName_free hk a e i h h2
theorem CE.name (i : Nat) {x : Str} {p : Pos} (hx : nm[i]? = some x) (h1 : (x == ("__debug__" : Str)) = false) (h2 : (x == ("__classdict__" : Str)) = false) : CE sc nm n (.Name x p) (fun σ => σ.get i) := by
  intro prog w A env s F σ d a hd
  obtain ⟨v, hv, dd⟩ := a.sees i x d hx hd
  exact load_holds a.envOk hv (ends_val0 dd) h1 h2

/-- a binary operation on two values -/
theorem CE.bin {l r : Expr} {op : Operator} {p : Pos} {f g : VS → Option Dat} (o : Dat → Dat → Option Dat) (hl : CE sc nm n l f) (hr : CE sc nm n r g)
    (ho : ∀ {prog : Program} {w : World} {A : Around} {s : Shared} {F : FL} {a b d : Dat} {u v : Value}, AOk n A → Has s.heap F → DatIn F u a → DatIn F v b → o a b = some d → wpAny (model prog w) A (binaryOp op u v) (Ends s F d) (fun _ _ => False) s) :
    CE sc nm n (.BinOp l op r p) (fun σ => (f σ).bind fun a => (g σ).bind fun b => o a b) := by
  intro prog w A env s F σ d a hd
  obtain ⟨x, hx, hd⟩ := Option.bind_eq_some_iff.mp hd
  obtain ⟨y, hy, hd⟩ := Option.bind_eq_some_iff.mp hd
  refine wpAny_BinOp (hl.then a hx fun u s₁ G₁ k₁ g₁ a₁ d₁ => hr.then a₁ hy fun v s₂ G₂ k₂ g₂ a₂ d₂ => ?_)
  refine wpAny_mono (ho a₂.ok a₂.has (dat_more d₁) d₂ hd) (fun z s₃ e => ?_) fun _ _ z => z
  exact (e.after k₂ g₂).after k₁ g₁
end
end Mine

end -- C1

section -- C2
namespace Mine
open PySem PySem.W PyProof.Rows
set_option maxRecDepth 100000

def addD : Dat → Dat → Option Dat
  | .int a, .int b => some (.int (a + b))
  | .str x, .str y => if x.cps.toList.length + y.cps.toList.length ≤ 1000000 then some (.str ⟨(x.cps.toList ++ y.cps.toList).toArray⟩) else none
  | .list x, .list y => if x.length + y.length ≤ 1000000 then some (.list (x ++ y)) else none
  | _, _ => none
theorem str_app (x y : Str) : x ++ y = ⟨(x.cps.toList ++ y.cps.toList).toArray⟩ := by
  show Str.mk (x.cps ++ y.cps) = _
  congr 1
  apply Array.ext'
  simp
theorem str_len (x : Str) : x.length = x.cps.toList.length := by simp [Str.length]
def repL (l : List Nat) : Nat → List Nat
  | 0 => []
  | k + 1 => l ++ repL l k
theorem fold_app (l : List (Array Nat)) : ∀ a : Array Nat, l.foldl (· ++ ·) a = (a.toList ++ (l.map (·.toList)).flatten).toArray := by
  induction l with
  | nil => intro a; simp
  | cons b l ih => intro a; rw [List.foldl_cons, ih]; simp
theorem repL_eq (l : List Nat) : ∀ k, repL l k = ((List.replicate k l)).flatten
  | 0 => rfl
  | k + 1 => by rw [repL, repL_eq l k]; rfl
theorem mul_eq (x : Str) (n : Int) (h : 0 ≤ n) : Txt.mul x n = ⟨(repL x.cps.toList n.toNat).toArray⟩ := by
  unfold Txt.mul
  rw [repL_eq]
  split
  · have : n = 0 := by omega
    subst this; rfl
  · split
    · rename_i h1 h2
      rcases Bool.or_eq_true _ _ ▸ h2 with h3 | h3
      · have : n = 1 := by simpa using h3
        subst this
        show x = Str.mk (List.flatten [x.cps.toList]).toArray
        simp
      · have : x.cps.toList = [] := by
          have : x.cps.size = 0 := by simpa [Str.length] using h3
          simpa using this
        rw [this]
        have e : x = ⟨#[]⟩ := by
          cases x with | mk c => congr 1; simpa using this
        rw [e]; congr 1; simp
    · congr 1
      rw [fold_app]
      simp
def subD : Dat → Dat → Option Dat
  | .int a, .int b => some (.int (a - b))
  | _, _ => none
def modD : Dat → Dat → Option Dat
  | .int a, .int b => if b = 0 then none else some (.int (a.fmod b))
  | _, _ => none
def mulD : Dat → Dat → Option Dat
  | .int a, .int b => if a.natAbs < 1000000000000 then some (.int (a * b)) else none
  | .str x, .int n => if x.cps.toList.length ≤ 16 ∧ 0 ≤ n ∧ n ≤ 1000 then some (.str ⟨(repL x.cps.toList n.toNat).toArray⟩) else none
  | _, _ => none
def powD : Dat → Dat → Option Dat
  | .int a, .int n => if 0 ≤ n ∧ n ≤ 1000 ∧ a.natAbs < 1000000000 then some (.int (a ^ n.toNat)) else none
  | _, _ => none

theorem of_ite {α : Type} {c : Prop} [Decidable c] {a d : α} (h : (if c then some a else none) = some d) : c ∧ a = d := by
  split at h
  · exact ⟨by assumption, Option.some.inj h⟩
  · cases h
theorem of_nite {α : Type} {c : Prop} [Decidable c] {a d : α} (h : (if c then none else some a) = some d) : ¬ c ∧ a = d := by
  split at h
  · cases h
  · exact ⟨by assumption, Option.some.inj h⟩
theorem ends_obj {s : Shared} {F : FL} {d : Dat} {tk : Nat} {o : Obj} (ho : o.isFreed = false) (h : DatIn ((s.heap.objs.size, o) :: F) (.ref s.heap.objs.size) d) : Ends s F d (.ref s.heap.objs.size) { s with heap := s.heap.push o, toks := tk } := by
  refine ⟨keeps_push _ _ _, [(s.heap.objs.size, o)], ?_, h⟩
  intro p hp
  cases List.mem_singleton.mp hp
  exact ⟨Heap.get?_push_size _ ho, by simp [Heap.get?]⟩
theorem ends_list {s : Shared} {F : FL} {vs : List Value} {ds : List Dat} {tk : Nat} (h : DatAll F vs ds) : Ends s F (.list ds) (.ref s.heap.objs.size) { s with heap := s.heap.push { cls := .type "list", data := .seq vs.toArray }, toks := tk } :=
  ends_obj rfl (.list (List.mem_cons_self) (h.mono fun _ q => List.mem_cons_of_mem _ q))
theorem ends_tuple {s : Shared} {F : FL} {vs : List Value} {ds : List Dat} {tk : Nat} (h : DatAll F vs ds) : Ends s F (.tuple ds) (.ref s.heap.objs.size) { s with heap := s.heap.push { cls := .type "tuple", data := .seq vs.toArray }, toks := tk } :=
  ends_obj rfl (.tuple (List.mem_cons_self) (h.mono fun _ q => List.mem_cons_of_mem _ q))
theorem is_list {h : Heap} {a : Addr} {its : Array Value} {k : Nat} (x : h.get? a = some (listOf its k)) : h.IsList a its := ⟨_, x, rfl, _, rfl⟩
theorem wp_add_lists {prog : Program} {w : World} {A : Around} {E : Value → Shared → Prop} {s : Shared} {l b : Addr} {vs ws : List Value} {k1 k2 : Nat} {Q : Value → Shared → Prop} (h1 : s.heap.get? l = some (listOf vs.toArray k1)) (h2 : s.heap.get? b = some (listOf ws.toArray k2))
    (h : Q (.ref s.heap.objs.size) { s with heap := s.heap.push { cls := .type "list", data := .seq (vs ++ ws).toArray } }) (hsz : vs.length + ws.length ≤ sizeLine) : wpAny (model prog w) A (binaryOp .Add (.ref l) (.ref b)) Q E s := by
  have e : vs.toArray ++ ws.toArray = (vs ++ ws).toArray := by simp
  refine concat_meets ⟨_, h1, rfl⟩ ⟨_, h2, rfl⟩ noFill_list_add seq_list_add PySem.F.slot_list_add PySem.F.entry_list_add (PySem.F.args_list_add_2 _ _) (list_addW l b vs.toArray ws.toArray k1 k2 _ _ _ _ (by simpa using hsz)) ⟨h1, h2, ?_⟩
  rw [e]
  exact h
section
variable {sc : Scope} {nm : List Str} {n : Nat} {l r : Expr} {p : Pos} {f g : VS → Option Dat}

theorem CE.add (hl : CE sc nm n l f) (hr : CE sc nm n r g) : CE sc nm n (.BinOp l .Add r p) (fun σ => (f σ).bind fun a => (g σ).bind fun b => addD a b) := by
  refine CE.bin addD hl hr ?_
  intro prog w A s F a b d u v _ hF ha hb hd
  cases ha with
  | int i t =>
    cases hb with
    | int j t' => cases hd; exact PyProof.Rows.add_int (ends_val (.int _ _))
    | _ => cases hd
  | str x t =>
    cases hb with
    | str y t' =>
      obtain ⟨hle, rfl⟩ := of_ite (c := x.cps.toList.length + y.cps.toList.length ≤ 1000000) hd
      rw [← str_len, ← str_len] at hle
      rw [← str_app]
      exact PyProof.Rows.add_str (fun t' k => ends_val (.str _ _)) (by rw [sizeLine_eq]; omega)
    | _ => cases hd
  | @list l1 vs1 k1 ds1 hm1 r1 =>
    cases hb with
    | @list l2 vs2 k2 ds2 hm2 r2 =>
      obtain ⟨hle, rfl⟩ := of_ite (c := ds1.length + ds2.length ≤ 1000000) hd
      rw [← r1.length, ← r2.length] at hle
      exact wp_add_lists (hF _ hm1) (hF _ hm2) (ends_list (r1.append r2)) (by rw [sizeLine_eq]; omega)
    | _ => cases hd
  | _ => cases hb <;> cases hd
theorem CE.sub (hl : CE sc nm n l f) (hr : CE sc nm n r g) : CE sc nm n (.BinOp l .Sub r p) (fun σ => (f σ).bind fun a => (g σ).bind fun b => subD a b) := by
  refine CE.bin subD hl hr ?_
  intro prog w A s F a b d u v _ _ ha hb hd
  cases ha with
  | int i t =>
    cases hb with
    | int j t' => cases hd; exact PyProof.Rows.sub_int (ends_val (.int _ _))
    | _ => cases hd
  | _ => cases hb <;> cases hd
theorem CE.mod (hl : CE sc nm n l f) (hr : CE sc nm n r g) : CE sc nm n (.BinOp l .Mod r p) (fun σ => (f σ).bind fun a => (g σ).bind fun b => modD a b) := by
  refine CE.bin modD hl hr ?_
  intro prog w A s F a b d u v _ _ ha hb hd
  cases ha with
  | int i t =>
    cases hb with
    | int j t' =>
      obtain ⟨hne, rfl⟩ := of_nite (c := j = 0) hd
      exact PyProof.Rows.mod_int' hne (ends_val (.int _ _))
    | _ => cases hd
  | _ => cases hb <;> cases hd
theorem CE.pow (hl : CE sc nm n l f) (hr : CE sc nm n r g) : CE sc nm n (.BinOp l .Pow r p) (fun σ => (f σ).bind fun a => (g σ).bind fun b => powD a b) := by
  refine CE.bin powD hl hr ?_
  intro prog w A s F a b d u v _ _ ha hb hd
  cases ha with
  | int i t =>
    cases hb with
    | int j t' =>
      obtain ⟨hh, rfl⟩ := of_ite (c := 0 ≤ j ∧ j ≤ 1000 ∧ i.natAbs < 1000000000) hd
      exact PyProof.Rows.pow_int_small hh.1 (by omega) (by omega) (ends_val (.int _ _))
    | _ => cases hd
  | _ => cases hb <;> cases hd
theorem CE.mul (hl : CE sc nm n l f) (hr : CE sc nm n r g) : CE sc nm n (.BinOp l .Mult r p) (fun σ => (f σ).bind fun a => (g σ).bind fun b => mulD a b) := by
  refine CE.bin mulD hl hr ?_
  intro prog w A s F a b d u v _ _ ha hb hd
  cases ha with
  | int i t =>
    cases hb with
    | int j t' =>
      obtain ⟨hh, rfl⟩ := of_ite (c := i.natAbs < 1000000000000) hd
      exact PyProof.Rows.mul_int (ends_val (.int _ _)) (IntMulOk.of_left (intBits_le_64 (by omega) (by omega)))
    | _ => cases hd
  | str x t =>
    cases hb with
    | int j t' =>
      obtain ⟨hh, rfl⟩ := of_ite (c := x.cps.toList.length ≤ 16 ∧ 0 ≤ j ∧ j ≤ 1000) hd
      rw [← str_len] at hh
      rw [← mul_eq x j hh.2.1]
      exact SB.mul (mulOk_of 16 1000 hh.1 (by simpa using hh.2.2) (by omega) (by decide) (by decide)) fun t' k => ends_val (.str _ _)
    | _ => cases hd
  | _ => cases hb <;> cases hd
end
end Mine

end -- C2

section -- P1
namespace Mine
open PySem PySem.W PyProof.Rows PySem.Builtin PySem.Builtin.Str
set_option maxRecDepth 100000

def idxC (c : Nat) : Nat → List Nat → Int
  | _, [] => -1
  | k, a :: l => bif Nat.beq a c then (k : Int) else idxC c (k + 1) l
def ridxC (c : Nat) : Int → Nat → List Nat → Int
  | r, _, [] => r
  | r, k, a :: l => ridxC c (bif Nat.beq a c then (k : Int) else r) (k + 1) l
theorem idxC_none (c : Nat) : ∀ (l : List Nat) (k : Nat), (∀ i : Nat, l[i]? ≠ some c) → idxC c k l = -1
  | [], _, _ => rfl
  | a :: l, k, h => by
    have h0 : Nat.beq a c = false := by
      cases e : Nat.beq a c with
      | false => rfl
      | true => exact absurd (by rw [Nat.eq_of_beq_eq_true e]; rfl) (h 0)
    rw [idxC, h0]
    exact idxC_none c l (k + 1) fun i => h (i + 1)
theorem idxC_some (c : Nat) : ∀ (l : List Nat) (k a : Nat), l[a]? = some c → (∀ i, i < a → l[i]? ≠ some c) → idxC c k l = ((k + a : Nat) : Int)
  | [], _, _, h, _ => by simp at h
  | b :: l, k, a, h, hn => by
    cases a with
    | zero =>
      have : b = c := by simpa using h
      subst this
      rw [idxC, show Nat.beq b b = true from Nat.beq_refl b]
      rfl
    | succ a =>
      have h0 : Nat.beq b c = false := by
        cases e : Nat.beq b c with
        | false => rfl
        | true => exact absurd (by rw [Nat.eq_of_beq_eq_true e]; rfl) (hn 0 (Nat.succ_pos _))
      rw [idxC, h0]
      show idxC c (k + 1) l = _
      rw [idxC_some c l (k + 1) a (by simpa using h) fun i hi => hn (i + 1) (Nat.succ_lt_succ hi)]
      congr 1
      omega
theorem ridxC_none (c : Nat) : ∀ (l : List Nat) (r : Int) (k : Nat), (∀ i : Nat, l[i]? ≠ some c) → ridxC c r k l = r
  | [], _, _, _ => rfl
  | a :: l, r, k, h => by
    have h0 : Nat.beq a c = false := by
      cases e : Nat.beq a c with
      | false => rfl
      | true => exact absurd (by rw [Nat.eq_of_beq_eq_true e]; rfl) (h 0)
    rw [ridxC, h0]
    exact ridxC_none c l r (k + 1) fun i => h (i + 1)
theorem ridxC_some (c : Nat) : ∀ (l : List Nat) (r : Int) (k a : Nat), l[a]? = some c → (∀ i, a < i → l[i]? ≠ some c) → ridxC c r k l = ((k + a : Nat) : Int)
  | [], _, _, _, h, _ => by simp at h
  | b :: l, r, k, a, h, hn => by
    cases a with
    | zero =>
      have : b = c := by simpa using h
      subst this
      rw [ridxC, show Nat.beq b b = true from Nat.beq_refl b]
      exact ridxC_none b l _ _ fun i => hn (i + 1) (Nat.succ_pos _)
    | succ a =>
      rw [ridxC, ridxC_some c l _ (k + 1) a (by simpa using h) fun i hi => hn (i + 1) (Nat.succ_lt_succ hi)]
      congr 1
      omega
theorem at_one (x : Str) (c hi i : Nat) (_hh : hi ≤ x.length) : StrLaws.At x ⟨#[c]⟩ hi i ↔ (x.cps.toList.take hi)[i]? = some c := by
  unfold StrLaws.At
  rw [StrLaws.subAt_eq]
  show (i + 1 ≤ hi ∧ ((x.cps.toList.drop i).take 1 == [c]) = true) ↔ _
  rw [StrLaws.take1_drop, List.getElem?_take]
  constructor
  · rintro ⟨h1, h2⟩
    rw [if_pos (by omega)]
    exact h2
  · intro h
    split at h
    · exact ⟨by omega, h⟩
    · cases h
theorem find_eq (x : Str) (c hi : Nat) (hh : hi ≤ x.length) : (match occurrences x ⟨#[c]⟩ 0 hi 1 with | i :: _ => (i : Int) | [] => -1) = idxC c 0 (x.cps.toList.take hi) := by
  rw [StrLaws.occ_eq]
  rcases StrLaws.occ_first x ⟨#[c]⟩ hi 1 (Nat.le_refl _) (List.range' 0 (hi + 1 - 0)) 0 (fun _ _ => Nat.zero_le _) with ⟨h0, hn⟩ | ⟨pre, a, post, e, h0, ha, hn⟩
  · rw [h0, idxC_none]
    intro i hi'
    have := (at_one x c hi i hh).mpr hi'
    exact hn i (by have := this.1; simp [List.mem_range'] <;> omega) this
  · generalize (forIn (List.range' 0 (hi + 1 - 0)) ((#[] : Array Nat), 0) (StrLaws.occBody x ⟨#[c]⟩ hi 1)).run.fst = arr at h0
    have h1 : arr.toList[0]? = some a := by simpa using h0
    rw [idxC_some c _ 0 a ((at_one x c hi a hh).mp ha) fun i hlt hi' => hn i (StrLaws.range'_split e i hlt) ((at_one x c hi i hh).mpr hi')]
    cases hL : arr.toList with
    | nil => rw [hL] at h1; cases h1
    | cons b t => rw [hL] at h1; simp at h1; rw [h1, Nat.zero_add]
theorem rfind_eq (x : Str) (c hi : Nat) (hh : hi ≤ x.length) : (match lastOccurrence x ⟨#[c]⟩ 0 hi with | some i => (i : Int) | none => -1) = ridxC c (-1) 0 (x.cps.toList.take hi) := by
  rw [StrLaws.last_eq]
  have key := StrLaws.last_run x ⟨#[c]⟩ hi (List.range' 0 (hi + 1 - 0)) [] none (fun _ h => nomatch h) (fun _ h => nomatch h) (by simpa using List.pairwise_lt_range' (s := 0) (n := hi + 1 - 0))
  have mem : ∀ i, StrLaws.At x ⟨#[c]⟩ hi i → i ∈ [] ++ List.range' 0 (hi + 1 - 0) := fun i hi => by have := hi.1; simp [List.mem_range'] <;> omega
  cases hr : (forIn (List.range' 0 (hi + 1 - 0)) none (StrLaws.lastBody x ⟨#[c]⟩ hi)).run with
  | none => rw [hr] at key; rw [ridxC_none]; exact fun i hi' => by have := (at_one x c hi i hh).mpr hi'; exact key i (mem i this) this
  | some a =>
    rw [hr] at key
    rw [ridxC_some c _ _ 0 a ((at_one x c hi a hh).mp key.1) fun i hlt hi' => by have := (at_one x c hi i hh).mpr hi'; exact key.2 i (mem i this) hlt this, Nat.zero_add]
end Mine

end -- P1

section -- P2
namespace Mine
open PySem PySem.W PyProof.Rows PySem.Builtin PySem.Builtin.Str
set_option maxRecDepth 100000

theorem str_mk {x : Str} {l : List Nat} (h : x.cps.toList = l) : x = ⟨l.toArray⟩ := StrLaws.mk_of_toList h

def wl (sp : Nat → Bool) : Option (List Nat) → List Nat → List (List Nat)
  | none, [] => []
  | some w, [] => [w]
  | none, a :: l => bif sp a then wl sp none l else wl sp (some [a]) l
  | some w, a :: l => bif sp a then w :: wl sp none l else wl sp (some (w ++ [a])) l
theorem drop_cons {l : List Nat} {cur : Nat} (h : cur < l.length) : l.drop cur = l.getD cur 0 :: l.drop (cur + 1) := by
  rw [List.drop_eq_getElem_cons h]
  congr 1
  simp [List.getD, h]
theorem take_more {l : List Nat} {b cur : Nat} (hb : b ≤ cur) (h : cur < l.length) : (l.drop b).take (cur + 1 - b) = (l.drop b).take (cur - b) ++ [l.getD cur 0] := by
  rw [show cur + 1 - b = (cur - b) + 1 by omega, List.take_add_one]
  congr 1
  rw [List.getElem?_drop, show b + (cur - b) = cur by omega]
  simp [List.getD, h]
theorem sw_words (x : Str) : ∀ (m cur : Nat) (W : Array (Nat × Nat)) (start : Option Nat), cur + m = x.length → W.size ≤ cur → (∀ b, start = some b → b ≤ cur) →
    (StrLaws.swEnd x (forIn (List.range' cur m) ((none, W, start) : StrLaws.SwSt) (StrLaws.swBody x (x.length + 1))).run).map (fun p => (strSub x p.1 p.2).cps.toList) =
      W.toList.map (fun p => (strSub x p.1 p.2).cps.toList) ++ wl Unicode.isSpace (start.map fun b => (x.cps.toList.drop b).take (cur - b)) (x.cps.toList.drop cur)
  | 0, cur, W, start, hc, hw, hb => by
    have hl : x.cps.toList.length = x.length := by simp [Str.length]
    rw [List.drop_eq_nil_of_le (by omega)]
    show List.map _ (match start with | some b => W.push (b, x.length) | none => W).toList = _
    cases start with
    | none => simp [wl]
    | some b =>
      show List.map _ (W.push (b, x.length)).toList = _
      rw [Array.toList_push, List.map_append]
      show _ ++ [(strSub x b x.length).cps.toList] = _ ++ [_]
      rw [StrLaws.strSub_toList, show x.length = cur by omega]
  | m + 1, cur, W, start, hc, hw, hb => by
    have hl : x.cps.toList.length = x.length := by simp [Str.length]
    have hlt : cur < x.cps.toList.length := by omega
    have hg : x.cps.getD cur 0 = x.cps.toList.getD cur 0 := by simp [List.getD, Array.getD_eq_getD_getElem?]
    rw [List.range'_succ, List.forIn_cons, drop_cons hlt]
    have hne : ¬ ((W.size == x.length + 1) = true) := by
      simp only [beq_iff_eq]; omega
    unfold StrLaws.swBody
    simp only [hne, if_false, hg, Bool.false_eq_true]
    cases start with
    | none =>
      cases hs : Unicode.isSpace (x.cps.toList.getD cur 0) with
      | true =>
        show List.map _ (StrLaws.swEnd x (forIn (List.range' (cur + 1) m) ((none, W, none) : StrLaws.SwSt) (StrLaws.swBody x (x.length + 1))).run) = _
        rw [sw_words x m (cur + 1) W none (by omega) (by omega) (fun _ h => nomatch h)]
        show _ = _ ++ wl Unicode.isSpace none (_ :: _)
        rw [wl, hs]
        rfl
      | false =>
        show List.map _ (StrLaws.swEnd x (forIn (List.range' (cur + 1) m) ((none, W, some cur) : StrLaws.SwSt) (StrLaws.swBody x (x.length + 1))).run) = _
        rw [sw_words x m (cur + 1) W (some cur) (by omega) (by omega) (fun b h => by cases h; omega)]
        show _ = _ ++ wl Unicode.isSpace none (_ :: _)
        rw [wl, hs]
        show _ ++ wl _ (some ((x.cps.toList.drop cur).take (cur + 1 - cur))) _ = _ ++ wl _ (some _) _
        rw [take_more (Nat.le_refl _) hlt, Nat.sub_self]
        rfl
    | some b =>
      cases hs : Unicode.isSpace (x.cps.toList.getD cur 0) with
      | true =>
        show List.map _ (StrLaws.swEnd x (forIn (List.range' (cur + 1) m) ((none, W.push (b, cur), none) : StrLaws.SwSt) (StrLaws.swBody x (x.length + 1))).run) = _
        rw [sw_words x m (cur + 1) _ none (by omega) (by rw [Array.size_push]; omega) (fun _ h => nomatch h)]
        show _ = _ ++ wl Unicode.isSpace (some _) (_ :: _)
        rw [wl, hs, Array.toList_push, List.map_append, List.append_assoc]
        show _ ++ ([(strSub x b cur).cps.toList] ++ _) = _
        rw [StrLaws.strSub_toList]
        rfl
      | false =>
        show List.map _ (StrLaws.swEnd x (forIn (List.range' (cur + 1) m) ((none, W, some b) : StrLaws.SwSt) (StrLaws.swBody x (x.length + 1))).run) = _
        rw [sw_words x m (cur + 1) W (some b) (by omega) (by omega) (fun c h => by cases h; have := hb b rfl; omega)]
        show _ = _ ++ wl Unicode.isSpace (some _) (_ :: _)
        rw [wl, hs]
        show _ ++ wl _ (some ((x.cps.toList.drop b).take (cur + 1 - b))) _ = _ ++ wl _ (some _) _
        rw [take_more (hb b rfl) hlt]
theorem words_eq (x : Str) : Txt.words x = (wl Unicode.isSpace none x.cps.toList).map fun w => ⟨w.toArray⟩ := by
  have key := sw_words x x.length 0 #[] none (by omega) (Nat.le_refl _) (fun _ h => nomatch h)
  rw [← StrLaws.sw_eq] at key
  have h1 : Txt.words x = PySem.wordsOf x := by
    unfold Txt.words
    split
    · rename_i h
      have e := eq_of_beq h
      unfold PySem.wordsOf
      rw [e]
      show [x] = [strSub x 0 x.length]
      rw [StrLaws.sub_whole]
    · rfl
  rw [h1]
  have h2 : (PySem.wordsOf x).map (fun y => y.cps.toList) = wl Unicode.isSpace none x.cps.toList := by
    unfold PySem.wordsOf
    rw [List.map_map]
    exact key
  rw [← h2, List.map_map]
  refine (List.map_id _).symm.trans (List.map_congr_left fun y _ => ?_)
  exact str_mk rfl

def dropC (c : Nat) : List Nat → List Nat
  | [] => []
  | a :: l => bif Nat.beq a c then dropC c l else a :: l
theorem dropC_eq (c : Nat) : ∀ l : List Nat, l.drop (l.takeWhile (#[c].contains ·)).length = dropC c l
  | [] => rfl
  | a :: l => by
    have e : (#[c].contains a) = Nat.beq a c := by
      cases h : Nat.beq a c with
      | true => have := Nat.eq_of_beq_eq_true h; subst this; simp
      | false =>
        have := Nat.ne_of_beq_eq_false h
        simpa using this
    rw [List.takeWhile_cons, dropC, e]
    cases Nat.beq a c with
    | true => simpa using dropC_eq c l
    | false => rfl
theorem lstrip_eq (x : Str) (c : Nat) : Txt.lstripChars x ⟨#[c]⟩ = ⟨(dropC c x.cps.toList).toArray⟩ := by
  have h : Txt.lstripChars x ⟨#[c]⟩ = strSub x (x.cps.toList.takeWhile (#[c].contains ·)).length x.length := by
    unfold Txt.lstripChars Txt.stripBy
    split
    · rename_i h
      unfold stripSame at h
      rw [Bool.and_eq_true] at h
      have e : (x.cps.toList.takeWhile (#[c].contains ·)).length = 0 := by have := eq_of_beq h.1; simp only [stripLo, if_true] at this; exact this
      rw [e, StrLaws.sub_whole]
    · rfl
  rw [h]
  refine str_mk ?_
  rw [StrLaws.strSub_toList, ← dropC_eq, List.take_of_length_le]
  simp [Str.length]
end Mine
namespace Mine
open PySem PySem.W PyProof.Rows PySem.Builtin PySem.Builtin.Str
def posC (c : Nat) : Nat → List Nat → List Nat
  | _, [] => []
  | k, a :: l => bif Nat.beq a c then k :: posC c (k + 1) l else posC c (k + 1) l
def repC (c : Nat) (z : List Nat) : List Nat → List Nat
  | [] => []
  | a :: l => bif Nat.beq a c then z ++ repC c z l else a :: repC c z l
theorem sub_one (x : Str) (c cur : Nat) (h : cur < x.length) : subAt x ⟨#[c]⟩ cur = Nat.beq (x.cps.toList.getD cur 0) c := by
  rw [StrLaws.subAt_eq]
  show ((x.cps.toList.drop cur).take 1 == [c]) = _
  have hl : x.cps.toList.length = x.length := by simp [Str.length]
  rw [drop_cons (by omega)]
  show ([x.cps.toList.getD cur 0] == [c]) = _
  cases h : Nat.beq (x.cps.toList.getD cur 0) c with
  | true => rw [Nat.eq_of_beq_eq_true h]; simp
  | false => have := Nat.ne_of_beq_eq_false h; simp only [List.cons_beq_cons, beq_eq_false_iff_ne, Bool.and_eq_false_iff]; exact .inl this
theorem occ_pos (x : Str) (c : Nat) : ∀ (m cur : Nat) (W : Array Nat) (free : Nat), cur + m = x.length → W.size ≤ cur → free ≤ cur →
    (forIn (List.range' cur (m + 1)) ((W, free) : Array Nat × Nat) (StrLaws.occBody x ⟨#[c]⟩ x.length (x.length + 1))).run.fst.toList = W.toList ++ posC c cur (x.cps.toList.drop cur)
  | 0, cur, W, free, hc, hw, hf => by
    have hl : x.cps.toList.length = x.length := by simp [Str.length]
    rw [List.drop_eq_nil_of_le (by omega), List.range'_succ, List.forIn_cons]
    unfold StrLaws.occBody
    rw [if_neg]
    · simp [posC]
    · rintro ⟨⟨_, h⟩, _⟩
      have : (⟨#[c]⟩ : Str).length = 1 := rfl
      omega
  | m + 1, cur, W, free, hc, hw, hf => by
    have hl : x.cps.toList.length = x.length := by simp [Str.length]
    have hlt : cur < x.cps.toList.length := by omega
    have e1 : (⟨#[c]⟩ : Str).length = 1 := rfl
    rw [List.range'_succ, List.forIn_cons, drop_cons hlt, posC]
    unfold StrLaws.occBody
    rw [sub_one x c cur (by omega)]
    cases hs : Nat.beq (x.cps.toList.getD cur 0) c with
    | true =>
      rw [if_pos ⟨⟨⟨by show W.size < _; omega, hf⟩, by omega⟩, rfl⟩]
      show (forIn (List.range' (cur + 1) (m + 1)) ((W.push cur, cur + 1) : Array Nat × Nat) (StrLaws.occBody x ⟨#[c]⟩ x.length (x.length + 1))).run.fst.toList = _
      rw [occ_pos x c m (cur + 1) _ _ (by omega) (by rw [Array.size_push]; omega) (Nat.le_refl _), Array.toList_push, List.append_assoc]
      rfl
    | false =>
      rw [if_neg (fun h => by cases h.2)]
      show (forIn (List.range' (cur + 1) (m + 1)) ((W, free) : Array Nat × Nat) (StrLaws.occBody x ⟨#[c]⟩ x.length (x.length + 1))).run.fst.toList = _
      rw [occ_pos x c m (cur + 1) _ _ (by omega) (by omega) (by omega)]
      rfl
theorem occ_all (x : Str) (c : Nat) : occurrences x ⟨#[c]⟩ 0 x.length (x.length + 1) = posC c 0 x.cps.toList := by
  rw [StrLaws.occ_eq, Nat.sub_zero, occ_pos x c x.length 0 #[] 0 (by omega) (Nat.le_refl _) (Nat.le_refl _)]
  rfl
theorem join_toList (z : Str) (p : Str) : ∀ r : List Str, (Str.join z (p :: r)).cps.toList = p.cps.toList ++ (r.map fun q => z.cps.toList ++ q.cps.toList).flatten
  | [] => by simp [Str.join]
  | q :: r => by
    show (p.cps ++ z.cps ++ (Str.join z (q :: r)).cps).toList = _
    rw [Array.toList_append, Array.toList_append, join_toList z q r]
    simp
theorem join_pos (x z : Str) (c : Nat) : ∀ (m cur a : Nat), cur + m = x.length → a ≤ cur →
    (Str.join z (StrLaws.partsFrom x 1 a (posC c cur (x.cps.toList.drop cur)))).cps.toList = (x.cps.toList.drop a).take (cur - a) ++ repC c z.cps.toList (x.cps.toList.drop cur)
  | 0, cur, a, hc, ha => by
    have hl : x.cps.toList.length = x.length := by simp [Str.length]
    rw [List.drop_eq_nil_of_le (by omega : x.cps.toList.length ≤ cur)]
    show (strSub x a x.length).cps.toList = _
    rw [StrLaws.strSub_toList, show x.length = cur by omega]
    simp [repC]
  | m + 1, cur, a, hc, ha => by
    have hl : x.cps.toList.length = x.length := by simp [Str.length]
    have hlt : cur < x.cps.toList.length := by omega
    rw [drop_cons hlt, posC, repC]
    cases hs : Nat.beq (x.cps.toList.getD cur 0) c with
    | true =>
      show (Str.join z (strSub x a cur :: StrLaws.partsFrom x 1 (cur + 1) (posC c (cur + 1) (x.cps.toList.drop (cur + 1))))).cps.toList = _ ++ (z.cps.toList ++ _)
      have ih := join_pos x z c m (cur + 1) (cur + 1) (by omega) (Nat.le_refl _)
      obtain ⟨p, r, e⟩ := StrLaws.partsFrom_ne x 1 (cur + 1) (posC c (cur + 1) (x.cps.toList.drop (cur + 1)))
      rw [e] at ih ⊢
      rw [join_toList] at ih ⊢
      rw [List.map_cons, List.flatten_cons, List.append_assoc, StrLaws.strSub_toList, ih, Nat.sub_self]
      rfl
    | false =>
      show (Str.join z (StrLaws.partsFrom x 1 a (posC c (cur + 1) (x.cps.toList.drop (cur + 1))))).cps.toList = _ ++ (_ :: _)
      rw [join_pos x z c m (cur + 1) a (by omega) (by omega), take_more ha hlt, List.append_assoc]
      rfl
theorem rep_none (c : Nat) (z : List Nat) : ∀ (l : List Nat) (k : Nat), posC c k l = [] → repC c z l = l
  | [], _, _ => rfl
  | a :: l, k, h => by
    rw [posC] at h
    rw [repC]
    cases hs : Nat.beq a c with
    | true => rw [hs] at h; cases h
    | false => rw [hs] at h; exact congrArg (a :: ·) (rep_none c z l (k + 1) h)
theorem replace_eq (x z : Str) (c : Nat) : Txt.replace x ⟨#[c]⟩ z = ⟨(repC c z.cps.toList x.cps.toList).toArray⟩ := by
  refine str_mk ?_
  unfold Txt.replace
  rw [occ_all]
  split
  · rename_i h
    rw [show ((⟨#[c]⟩ : Str).length == 0) = false from rfl, Bool.false_and, Bool.or_false, List.isEmpty_iff] at h
    rw [rep_none c _ _ _ h]
  · rw [StrLaws.glued_eq_join, StrLaws.partsBetween_eq]
    show (Str.join z (StrLaws.partsFrom x 1 0 (posC c 0 x.cps.toList))).cps.toList = _
    have := join_pos x z c x.length 0 0 (by omega) (Nat.le_refl _)
    simpa using this
end Mine

end -- P2

section -- C3
namespace Mine
open PySem PySem.W PyProof.Rows
set_option maxRecDepth 100000

/-- the test e is f of the variables -/
def CT (sc : Scope) (nm : List Str) (n : Nat) (e : Expr) (f : VS → Option Bool) : Prop :=
  ∀ (prog : Program) (w : World) (A : Around) (env : Env) (s : Shared) (F : FL) (σ : VS) (b : Bool), At sc nm n A env s F σ → f σ = some b →
    wpAny (model prog w) A (isTrue e env (eval e env)) (fun c s' => c = b ∧ Keeps s s') (fun _ _ => False) s

/-- two lists of signs are the same -/
def eqL : List Nat → List Nat → Bool
  | [], [] => true
  | a :: l, b :: r => bif Nat.beq a b then eqL l r else false
  | _, _ => false
theorem eqL_eq : ∀ a b : List Nat, eqL a b = (a == b)
  | [], [] => rfl
  | [], _ :: _ => rfl
  | _ :: _, [] => rfl
  | a :: l, b :: r => by
    rw [eqL, List.cons_beq_cons]
    cases h : Nat.beq a b with
    | true => rw [Nat.eq_of_beq_eq_true h, eqL_eq l r]; simp
    | false =>
      have : (a == b) = false := beq_eq_false_iff_ne.mpr (Nat.ne_of_beq_eq_false h)
      rw [this]; rfl
theorem eqL_str {x y : Str} (h : eqL x.cps.toList y.cps.toList = true) : x = y := by
  rw [eqL_eq] at h
  have := eq_of_beq h
  cases x with | mk a =>
  cases y with | mk b =>
  congr 1
  exact Array.ext' this
mutual
def datEq : Dat → Dat → Bool
  | .none, .none => true
  | .int a, .int b => decide (a = b)
  | .str x, .str y => eqL x.cps.toList y.cps.toList
  | .tuple a, .tuple b => datEqs a b
  | .list a, .list b => datEqs a b
  | _, _ => false
def datEqs : List Dat → List Dat → Bool
  | [], [] => true
  | a :: as, b :: bs => datEq a b && datEqs as bs
  | _, _ => false
end
mutual
theorem datEq_eq : ∀ (a b : Dat), datEq a b = true → a = b
  | .none, .none, _ => rfl
  | .int a, .int b, h => by rw [datEq] at h; rw [of_decide_eq_true h]
  | .str x, .str y, h => by rw [datEq] at h; rw [eqL_str h]
  | .tuple a, .tuple b, h => by rw [datEq] at h; rw [datEqs_eq a b h]
  | .list a, .list b, h => by rw [datEq] at h; rw [datEqs_eq a b h]
  | .bool _, _, h => by simp [datEq] at h
  | .bytes _, _, h => by simp [datEq] at h
  | .none, .bool _, h | .none, .int _, h | .none, .str _, h | .none, .bytes _, h | .none, .tuple _, h | .none, .list _, h => by simp [datEq] at h
  | .int _, .none, h | .int _, .bool _, h | .int _, .str _, h | .int _, .bytes _, h | .int _, .tuple _, h | .int _, .list _, h => by simp [datEq] at h
  | .str _, .none, h | .str _, .bool _, h | .str _, .int _, h | .str _, .bytes _, h | .str _, .tuple _, h | .str _, .list _, h => by simp [datEq] at h
  | .tuple _, .none, h | .tuple _, .bool _, h | .tuple _, .int _, h | .tuple _, .bytes _, h | .tuple _, .str _, h | .tuple _, .list _, h => by simp [datEq] at h
  | .list _, .none, h | .list _, .bool _, h | .list _, .int _, h | .list _, .bytes _, h | .list _, .str _, h | .list _, .tuple _, h => by simp [datEq] at h
theorem datEqs_eq : ∀ (a b : List Dat), datEqs a b = true → a = b
  | [], [], _ => rfl
  | a :: as, b :: bs, h => by
    rw [datEqs, Bool.and_eq_true] at h
    rw [datEq_eq a b h.1, datEqs_eq as bs h.2]
  | [], _ :: _, h => by simp [datEqs] at h
  | _ :: _, [], h => by simp [datEqs] at h
end

def geD : Dat → Dat → Option Bool
  | .int a, .int b => some (decide (b ≤ a))
  | _, _ => none
def eqD : Dat → Dat → Option Bool
  | .int a, .int b => some (a == b)
  | .str a, .str b => some (eqL a.cps.toList b.cps.toList)
  | _, _ => none
def neD : Dat → Dat → Option Bool
  | .int a, .int b => some (a != b)
  | .str a, .str b => some (!eqL a.cps.toList b.cps.toList)
  | .list a, .list b => if (a.all (kqdOk 8) && b.all (kqdOk 8) && datEqs a b) = true then some false else none
  | _, _ => none

theorem news_of {h : Heap} {F : FL} (x : Has h F) : News {} h.objs.size h F := fun p hp => ⟨x p hp, Nat.ne_of_lt (Heap.lt_size (x p hp)), by simp [Heap.get?]⟩

/-- op is o of the two values -/
def Cmp (n : Nat) (op : CmpOp) (o : Dat → Dat → Option Bool) : Prop := ∀ {prog : Program} {w : World} {A : Around} {s : Shared} {F : FL} {a b : Dat} {u v : Value} {c : Bool} {Q : Value → Shared → Prop} {E : Value → Shared → Prop}, AOk n A → Has s.heap F →
    DatIn F u a → DatIn F v b → o a b = some c → Q (.bool c) s → wpAny (model prog w) A (compareOp op u v) Q E s
theorem cmp_ge {n : Nat} : Cmp n .GtE geD := by
  intro prog w A s F a b u v c Q E _ _ ha hb hc h
  cases ha with
  | int i t =>
    cases hb with
    | int j t' => cases hc; exact PyProof.Rows.ge_int h
    | _ => cases hc
  | _ => cases hb <;> cases hc
theorem cmp_eq {n : Nat} : Cmp n .Eq eqD := by
  intro prog w A s F a b u v c Q E _ _ ha hb hc h
  cases ha with
  | int i t =>
    cases hb with
    | int j t' => cases hc; exact PyProof.Rows.eq_int h
    | _ => cases hc
  | str i t =>
    cases hb with
    | str j t' => cases hc; exact PySem.P.eq_str (by rw [← eqL_eq]; exact h)
    | _ => cases hc
  | _ => cases hb <;> cases hc
theorem cmp_ne {n : Nat} : Cmp n .NotEq neD := by
  intro prog w A s F a b u v c Q E ok hF ha hb hc h
  cases ha with
  | int i t =>
    cases hb with
    | int j t' => cases hc; exact PyProof.Rows.ne_int h
    | _ => cases hc
  | str i t =>
    cases hb with
    | str j t' => cases hc; exact PySem.P.ne_str (by rw [bne, ← eqL_eq]; exact h)
    | _ => cases hc
  | @list l1 vs1 k1 ds1 hm1 r1 =>
    cases hb with
    | @list l2 vs2 k2 ds2 hm2 r2 =>
      obtain ⟨hh, rfl⟩ := of_ite (c := (ds1.all (kqdOk 8) && ds2.all (kqdOk 8) && datEqs ds1 ds2) = true) hc
      simp only [Bool.and_eq_true, List.all_eq_true] at hh
      have e := datEqs_eq _ _ hh.2
      subst e
      refine kqd_ne (news_of hF) hm1 rfl rfl r1 (fun _ q => q) hm2 rfl rfl r2 (fun _ q => q) hh.1.1 hh.1.2 ?_ ?_
      · have := ok.2.2
        show A.units + 64 < 9900
        omega
      · simpa using h
    | _ => cases hc
  | _ => cases hb <;> cases hc

section
variable {sc : Scope} {nm : List Str} {n : Nat} {l r : Expr} {op : CmpOp} {p : Pos} {f g : VS → Option Dat} {o : Dat → Dat → Option Bool}
theorem CT.cmp (hl : CE sc nm n l f) (ho : Cmp n op o) (hr : CE sc nm n r g) (hm : behindInMarks op r = false) : CT sc nm n (.Compare l [op] [r] p) (fun σ => (f σ).bind fun a => (g σ).bind fun b => o a b) := by
  intro prog w A env s F σ d a hd
  obtain ⟨x, hx, hd⟩ := Option.bind_eq_some_iff.mp hd
  obtain ⟨y, hy, hd⟩ := Option.bind_eq_some_iff.mp hd
  refine wpAny_isTrue_Compare1 (hl.then a hx fun u s₁ G₁ k₁ g₁ a₁ d₁ => hr.then a₁ hy fun v s₂ G₂ k₂ g₂ a₂ d₂ => ?_) hm
  exact ho a₂.ok a₂.has (dat_more d₁) d₂ hd (wpAny_truthy_bool ⟨rfl, keeps_trans k₁ k₂⟩)
theorem CE.cmp (hl : CE sc nm n l f) (ho : Cmp n op o) (hr : CE sc nm n r g) (hm : behindInMarks op r = false) : CE sc nm n (.Compare l [op] [r] p) (fun σ => (f σ).bind fun a => (g σ).bind fun b => (o a b).map .bool) := by
  intro prog w A env s F σ d a hd
  obtain ⟨x, hx, hd⟩ := Option.bind_eq_some_iff.mp hd
  obtain ⟨y, hy, hd⟩ := Option.bind_eq_some_iff.mp hd
  obtain ⟨c, hc, rfl⟩ := Option.map_eq_some_iff.mp hd
  refine wpAny_Compare1 (hl.then a hx fun u s₁ G₁ k₁ g₁ a₁ d₁ => hr.then a₁ hy fun v s₂ G₂ k₂ g₂ a₂ d₂ => ?_) hm
  exact ho a₂.ok a₂.has (dat_more d₁) d₂ hc (((ends_val0 (.bool _)).after k₂ g₂).after k₁ g₁)

def negD : Dat → Option Dat
  | .int a => some (.int (-a))
  | _ => none
theorem CE.neg (hl : CE sc nm n l f) : CE sc nm n (.UnaryOp .USub l p) (fun σ => (f σ).bind negD) := by
  intro prog w A env s F σ d a hd
  obtain ⟨x, hx, hd⟩ := Option.bind_eq_some_iff.mp hd
  show wpAny _ _ (do let v ← eval l env; standAt p; holding [v] (unaryOp .USub v)) _ _ _
  refine wpAny_bind (hl.then a hx fun u s₁ G₁ k₁ g₁ a₁ d₁ => wpAny_bind (wpAny_standAt (wpAny_holding ?_)))
  cases d₁ with
  | int i t => cases hd; exact PyProof.Rows.neg_int ((ends_val (.int _ _)).after k₁ g₁)
  | _ => cases hd
end
end Mine

end -- C3

section -- C4
namespace Mine
open PySem PySem.W PyProof.Rows
set_option maxRecDepth 100000

theorem EnvOk.kindOf {sc : Scope} {env : Env} {x : Str} {k : NameKind} (e : EnvOk sc env) (h : sc.names.lookup x = some k) : env.kindOf x = some k := by
  unfold Env.kindOf
  rw [e.scope]
  exact h
theorem EnvOk.fn {sc : Scope} {env : Env} (e : EnvOk sc env) : env.scope.kind = .function := by rw [e.scope]; exact e.kind
theorem CE.txt {sc : Scope} {nm : List Str} {n : Nat} {x : Str} {k : Nat} {p : Pos} (l : List Nat) (h : x = ⟨l.toArray⟩) : CE sc nm n (.Constant (.str x) k p) (fun _ => some (.str ⟨l.toArray⟩)) := h ▸ CE.str
/-- the expressions es are f of the variables -/
def CL (sc : Scope) (nm : List Str) (n : Nat) (es : List Expr) (f : VS → Option (List Dat)) : Prop :=
  ∀ (prog : Program) (w : World) (A : Around) (env : Env) (s : Shared) (F : FL) (σ : VS) (ds : List Dat) (pos : Pos), At sc nm n A env s F σ → f σ = some ds →
    wpAny (model prog w) A (spliced (backTo pos (starEach es env))) (fun vs s' => Keeps s s' ∧ ∃ G, New s s' G ∧ DatAll (G ++ F) vs ds) (fun _ _ => False) s
section
variable {sc : Scope} {nm : List Str} {n : Nat} {prog : Program} {w : World} {A : Around} {env : Env} {s : Shared} {F : FL} {σ : VS}

theorem CL.nil : CL sc nm n [] (fun _ => some []) := by
  intro prog w A env s F σ ds pos a hd
  cases hd
  exact args_nil ⟨keeps_refl _, [], .nil _ _, .nil⟩
theorem CL.cons {e : Expr} {es : List Expr} {f : VS → Option Dat} {g : VS → Option (List Dat)} (he : CE sc nm n e f) (hes : CL sc nm n es g) (hs : ∀ env, starEach (e :: es) env = (false, eval e env) :: starEach es env) :
    CL sc nm n (e :: es) (fun σ => (f σ).bind fun d => (g σ).bind fun ds => some (d :: ds)) := by
  intro prog w A env s F σ ds pos a hd
  obtain ⟨x, hx, hd⟩ := Option.bind_eq_some_iff.mp hd
  obtain ⟨y, hy, hd⟩ := Option.bind_eq_some_iff.mp hd
  cases hd
  refine args_cons (he.then a hx fun u s₁ G₁ k₁ g₁ a₁ d₁ => ?_) (hs env)
  refine wpAny_mono (hes prog w A env s₁ _ σ y pos a₁ hy) (fun vs s₂ q => ?_) fun _ _ z => z
  obtain ⟨k₂, G₂, g₂, d₂⟩ := q
  exact ⟨keeps_trans k₁ k₂, G₂ ++ G₁, .trans k₁ k₂ g₁ g₂, by rw [List.append_assoc]; exact .cons (dat_more d₁) d₂⟩
theorem CL.then {es : List Expr} {f : VS → Option (List Dat)} {pos : Pos} (x : CL sc nm n es f) (a : At sc nm n A env s F σ) {ds : List Dat} (hd : f σ = some ds) {Q : List Value → Shared → Prop} {E : Value → Shared → Prop}
    (h : ∀ vs s' G, Keeps s s' → New s s' G → At sc nm n A env s' (G ++ F) σ → DatAll (G ++ F) vs ds → Q vs s') : wpAny (model prog w) A (spliced (backTo pos (starEach es env))) Q E s := by
  refine wpAny_mono (wpAny_toks (x prog w A env s F σ ds pos a hd)) (fun v s' y => ?_) fun _ _ z => z.2.elim
  obtain ⟨t, k, G, g, dd⟩ := y
  exact h v s' G k g (a.keeps k g t) dd

theorem CE.tuple {es : List Expr} {f : VS → Option (List Dat)} {k : Nat} {p : Pos} (h : CL sc nm n es f) : CE sc nm n (.Tuple es k p) (fun σ => (f σ).bind fun ds => if ds.length ≤ 1000000 then some (.tuple ds) else none) := by
  intro prog w A env s F σ d a hd
  obtain ⟨x, hx, hd⟩ := Option.bind_eq_some_iff.mp hd
  obtain ⟨hl, rfl⟩ := of_ite (c := x.length ≤ 1000000) hd
  refine Tuple_ (h.then a hx fun vs s₁ G₁ k₁ g₁ a₁ d₁ => ?_)
  rw [← d₁.length] at hl
  exact wpAny_newObj_type ((ends_tuple d₁).after k₁ g₁) (by show vs.toArray.size ≤ sizeLine; rw [List.size_toArray, sizeLine_eq]; omega)
theorem CE.list {es : List Expr} {f : VS → Option (List Dat)} {p : Pos} (h : CL sc nm n es f) : CE sc nm n (.List es p) (fun σ => (f σ).bind fun ds => if ds.length ≤ 1000000 then some (.list ds) else none) := by
  intro prog w A env s F σ d a hd
  obtain ⟨x, hx, hd⟩ := Option.bind_eq_some_iff.mp hd
  obtain ⟨hl, rfl⟩ := of_ite (c := x.length ≤ 1000000) hd
  refine List_ (h.then a hx fun vs s₁ G₁ k₁ g₁ a₁ d₁ => ?_)
  rw [← d₁.length] at hl
  exact wpAny_newObj_type ((ends_list d₁).after k₁ g₁) (by show vs.toArray.size ≤ sizeLine; rw [List.size_toArray, sizeLine_eq]; omega)

def lenD : Dat → Option Dat
  | .str x => if x.cps.toList.length ≤ 1000000 then some (.int x.cps.toList.length) else none
  | .list ds => if ds.length ≤ 1000000 then some (.int ds.length) else none
  | _ => none
theorem CE.len {e : Expr} {f : VS → Option Dat} {p pos : Pos} (he : CE sc nm n e f) (hs : ∀ env, starEach [e] env = [(false, eval e env)]) (hx : sc.names.lookup ("len" : Str) = some .globalImplicit) :
    CE sc nm n (.Call (.Name "len" p) [e] [] pos) (fun σ => (f σ).bind lenD) := by
  intro prog w A env s F σ d a hd
  obtain ⟨x, hx', hd⟩ := Option.bind_eq_some_iff.mp hd
  refine Call_name1 (hs env) (bi_name a.tops (v := .builtin "len") (.head _) a.envOk.fn (a.envOk.kindOf hx) a.envOk.gl a.envOk.bi ?_ (by decide))
  refine PySem.callWith_builtin1 (he.then a hx' fun u s₁ G₁ k₁ g₁ a₁ d₁ => ?_)
  cases d₁ with
  | str y t =>
    obtain ⟨hl, rfl⟩ := of_ite (c := y.cps.toList.length ≤ 1000000) hd
    rw [← str_len] at hl ⊢
    exact PyProof.Rows.len_str (by omega) ((ends_val (.int _ _)).after k₁ g₁)
  | @list l1 vs1 k1 ds1 hm1 r1 =>
    obtain ⟨hl, rfl⟩ := of_ite (c := ds1.length ≤ 1000000) hd
    have e := r1.length
    rw [← e] at hl ⊢
    have : vs1.toArray.size = vs1.length := List.size_toArray ..
    exact Calls.call_len_list (is_list (a₁.has _ hm1)) (by omega) (by rw [this]; exact (ends_val (.int _ _)).after k₁ g₁)
  | _ => cases hd

def seqNth (ds : List Dat) (i : Int) : Option Dat := if 0 ≤ i ∧ i < 1000000 then ds[i.toNat]? else none
def itemD : Dat → Dat → Option Dat
  | .list ds, .int i => seqNth ds i
  | .tuple ds, .int i => seqNth ds i
  | _, _ => none
theorem dats_at {F : FL} {vs : List Value} {ds : List Dat} {k : Nat} {d : Dat} (h : DatAll F vs ds) (hk : ds[k]? = some d) : ∃ v, vs[k]? = some v ∧ DatIn F v d := by
  obtain ⟨hl, rfl⟩ := List.getElem?_eq_some_iff.mp hk
  exact h.get hl
theorem CE.item {e i : Expr} {f g : VS → Option Dat} {pos : Pos} (he : CE sc nm n e f) (hi : CE sc nm n i g)
    (hs : ∀ o u, subscripted i false o u = operate [o, u] (getItem o u)) :
    CE sc nm n (.Subscript e i pos) (fun σ => (f σ).bind fun a => (g σ).bind fun b => itemD a b) := by
  intro prog w A env s F σ d a hd
  obtain ⟨x, hx, hd⟩ := Option.bind_eq_some_iff.mp hd
  obtain ⟨y, hy, hd⟩ := Option.bind_eq_some_iff.mp hd
  refine Subscript_ (he.then a hx fun u s₁ G₁ k₁ g₁ a₁ d₁ => hi.then a₁ hy fun v s₂ G₂ k₂ g₂ a₂ d₂ => ?_)
  have d₁ := dat_more (G := G₂) d₁
  -- a base that is no name is let go: nothing changes
  refine kba_turn (value' := .Name "_" ⟨0, 0, 0, 0⟩) (fun _ => rfl) ?_
  cases d₁ with
  | @list l1 vs1 k1 ds1 hm1 r1 =>
    cases d₂ with
    | int j t =>
      have hd : (if 0 ≤ j ∧ j < 1000000 then ds1[j.toNat]? else none) = some d := hd
      split at hd
      · rename_i hj
        obtain ⟨z, hz, dz⟩ := dats_at r1 hd
        exact item_listL (is_list (a₂.has _ hm1)) hj.1 (by omega) hz (((ends_val0 dz).after k₂ g₂).after k₁ g₁) (hs _ _) (fun _ => rfl)
      · cases hd
    | _ => cases hd
  | @tuple l1 vs1 k1 ds1 hm1 r1 =>
    cases d₂ with
    | int j t =>
      have hd : (if 0 ≤ j ∧ j < 1000000 then ds1[j.toNat]? else none) = some d := hd
      split at hd
      · rename_i hj
        obtain ⟨z, hz, dz⟩ := dats_at r1 hd
        have hlt : j.toNat < vs1.length := (List.getElem?_eq_some_iff.mp hz).1
        have hsi : seqIndex? j vs1.length = some j.toNat := by
          unfold seqIndex?
          have h1 : ¬ (j < 0) := by omega
          simp only [h1, if_false]
          rw [if_pos]
          simp; omega
        exact item_tupleL ⟨_, a₂.has _ hm1, rfl, _, rfl⟩ (by omega) (by omega) hsi hz (((ends_val0 dz).after k₂ g₂).after k₁ g₁) (hs _ _) (fun _ => rfl)
      · cases hd
    | _ => cases hd
  | _ => cases d₂ <;> cases hd
end
end Mine

end -- C4

section -- C5
namespace Mine
open PySem PySem.W PyProof.Rows
set_option maxRecDepth 100000

def cut {α : Type} (lo hi : Option Int) (l : List α) : List α :=
  match lo, hi with
  | none, none => l
  | some a, none => l.drop a.toNat
  | none, some b => l.take b.toNat
  | some a, some b => (l.take b.toNat).drop a.toNat
def partOk : Option Int → Bool
  | none => true
  | some i => decide (0 ≤ i)
def clipLo (lo : Option Int) (n : Nat) : Nat := match lo with | none => 0 | some i => min i.toNat n
def clipHi (hi : Option Int) (n : Nat) : Nat := match hi with | none => n | some i => min i.toNat n
theorem cut_clip {α : Type} (l : List α) (lo hi : Option Int) : (l.drop (clipLo lo l.length)).take (clipHi hi l.length - clipLo lo l.length) = cut lo hi l := by
  have e1 : ∀ a : Nat, l.drop (min a l.length) = l.drop a := fun a => by
    rcases Nat.le_total a l.length with h | h
    · rw [Nat.min_eq_left h]
    · rw [Nat.min_eq_right h, List.drop_eq_nil_of_le h, List.drop_length]
  cases lo with
  | none =>
    cases hi with
    | none => simp [clipLo, clipHi, cut]
    | some b => simp only [clipLo, clipHi, cut, Nat.sub_zero, List.drop_zero]; rw [List.take_eq_take_iff]; omega
  | some a =>
    cases hi with
    | none => simp only [clipLo, clipHi, cut, e1]; rw [List.take_of_length_le]; simp; omega
    | some b =>
      simp only [clipLo, clipHi, cut]
      rw [List.drop_take, e1, List.take_eq_take_iff]
      simp
      omega
theorem bounds_clip (lo hi : Option Int) (n : Nat) (h1 : partOk lo = true) (h2 : partOk hi = true) : sliceBounds lo hi none n = ((clipLo lo n : Int), (clipHi hi n : Int), 1) := by
  simp only [sliceBounds, Option.getD_none, show (1 : Int) > 0 by decide, if_true]
  congr 1
  · cases lo with
    | none => rfl
    | some a =>
      have : 0 ≤ a := of_decide_eq_true h1
      have : ¬ a < 0 := by omega
      simp only [this, if_false, clipLo]
      omega
  · congr 1
    cases hi with
    | none => rfl
    | some a =>
      have : 0 ≤ a := of_decide_eq_true h2
      have : ¬ a < 0 := by omega
      simp only [this, if_false, clipHi]
      omega
theorem pick_cut (items : Array Value) (lo hi : Option Int) (h1 : partOk lo = true) (h2 : partOk hi = true) : slicePick items lo hi none = (cut lo hi items.toList).toArray := by
  unfold slicePick
  rw [bounds_clip lo hi _ h1 h2]
  dsimp only
  rw [sliceRange_one, pick_run, show items.size = items.toList.length by simp, cut_clip]
theorem txt_ind (lo hi : Option Int) (n : Nat) (h1 : partOk lo = true) (h2 : partOk hi = true) : Builtin.Str.strSliceIndices lo hi 1 n = (List.range (clipHi hi n - clipLo lo n)).map (clipLo lo n + ·) := by
  have e : Builtin.Str.strSliceIndices lo hi 1 n = sliceRange (sliceBounds lo hi none n).1 (sliceBounds lo hi none n).2.1 1 := by
    simp only [Builtin.Str.strSliceIndices, sliceBounds, Option.getD_none, show (1 : Int) > 0 by decide, if_true]
    cases lo <;> cases hi <;> rfl
  rw [e, bounds_clip lo hi _ h1 h2]
  dsimp only
  rw [sliceRange_one]
theorem txt_cut (x : Str) (lo hi : Option Int) (h1 : partOk lo = true) (h2 : partOk hi = true) : (Builtin.Str.strSliceIndices lo hi 1 x.length).filterMap (x.cps[·]?) = cut lo hi x.cps.toList := by
  rw [txt_ind lo hi _ h1 h2, pick_run, show x.length = x.cps.toList.length by simp [Str.length], cut_clip]
theorem clipHi_le (hi : Option Int) (n : Nat) : clipHi hi n ≤ n := by
  cases hi with
  | none => exact Nat.le_refl _
  | some i => exact Nat.min_le_right _ _
theorem txt_slice (x : Str) (lo hi : Option Int) (h1 : partOk lo = true) (h2 : partOk hi = true) : Txt.slice x lo hi = ⟨(cut lo hi x.cps.toList).toArray⟩ := by
  unfold Txt.slice
  split
  · rename_i h
    rw [txt_ind lo hi _ h1 h2] at h
    simp only [beq_self_eq_true, Bool.true_and, List.length_map, List.length_range, beq_iff_eq] at h
    have h3 := clipHi_le hi x.length
    by_cases h0 : x.length = 0
    · have e : x.cps.toList = [] := by simpa [Str.length] using h0
      have : x = ⟨#[]⟩ := by cases x with | mk c => congr 1; simpa using e
      rw [← cut_clip]
      subst this
      simp
    · have e1 : clipLo lo x.length = 0 := by omega
      have e2 : clipHi hi x.length = x.length := by omega
      have := cut_clip x.cps.toList lo hi
      rw [← show x.length = x.cps.toList.length by simp [Str.length], e1, e2] at this
      rw [← this, str_len, List.drop_zero, Nat.sub_zero, List.take_length]
  · rw [txt_cut x lo hi h1 h2]
theorem dats_take {F : FL} {vs : List Value} {ds : List Dat} (h : DatAll F vs ds) (k : Nat) : DatAll F (vs.take k) (ds.take k) := by
  induction k generalizing vs ds with
  | zero => simpa using .nil
  | succ k ih =>
    cases h with
    | nil => simpa using .nil
    | cons h r => simpa using .cons h (ih r)
theorem dats_drop {F : FL} {vs : List Value} {ds : List Dat} (h : DatAll F vs ds) (k : Nat) : DatAll F (vs.drop k) (ds.drop k) := by
  induction k generalizing vs ds with
  | zero => simpa using h
  | succ k ih =>
    cases h with
    | nil => simpa using .nil
    | cons h r => simpa using ih r
theorem dats_cut {F : FL} {vs : List Value} {ds : List Dat} (h : DatAll F vs ds) (lo hi : Option Int) : DatAll F (cut lo hi vs) (cut lo hi ds) := by
  cases lo <;> cases hi
  · exact h
  · exact dats_take h _
  · exact dats_drop h _
  · exact dats_drop (dats_take h _) _

/-- a bound of a slice -/
def CO (sc : Scope) (nm : List Str) (n : Nat) (o : Option Expr) (f : VS → Option (Option Int)) : Prop :=
  ∀ (prog : Program) (w : World) (A : Around) (env : Env) (s : Shared) (F : FL) (σ : VS) (d : Option Int), At sc nm n A env s F σ → f σ = some d →
    wpAny (model prog w) A (evalPart o env) (fun v s' => Keeps s s' ∧ (∃ G, New s s' G) ∧ ∃ l : Option (Int × Tok), v = partValue l ∧ l.map (·.1) = d ∧ IsPart v d) (fun _ _ => False) s
def intD : Dat → Option (Option Int)
  | .int i => some (some i)
  | _ => none
section
variable {sc : Scope} {nm : List Str} {n : Nat} {prog : Program} {w : World} {A : Around} {env : Env} {s : Shared} {F : FL} {σ : VS}
theorem CO.no : CO sc nm n none (fun _ => some none) := by
  intro prog w A env s F σ d a hd
  cases hd
  exact wpAny_pure ⟨keeps_refl _, ⟨[], .nil _ _⟩, .none, rfl, rfl, .none⟩
theorem CO.yes {e : Expr} {f : VS → Option Dat} (he : CE sc nm n e f) : CO sc nm n (some e) (fun σ => (f σ).bind intD) := by
  intro prog w A env s F σ d a hd
  obtain ⟨x, hx, hd⟩ := Option.bind_eq_some_iff.mp hd
  refine evalPart_some_step (he.then a hx fun u s₁ G₁ k₁ g₁ a₁ d₁ => ?_)
  cases d₁ with
  | int i t => cases hd; exact ⟨k₁, ⟨G₁, g₁⟩, some (i, t), rfl, rfl, .int _ _⟩
  | _ => cases hd
theorem CO.then {o : Option Expr} {f : VS → Option (Option Int)} (x : CO sc nm n o f) (a : At sc nm n A env s F σ) {d : Option Int} (hd : f σ = Option.some d) {Q : Value → Shared → Prop} {E : Value → Shared → Prop}
    (h : ∀ v s' G l, Keeps s s' → New s s' G → At sc nm n A env s' (G ++ F) σ → v = partValue l → l.map (·.1) = d → IsPart v d → Q v s') : wpAny (model prog w) A (evalPart o env) Q E s := by
  refine wpAny_mono (wpAny_toks (x prog w A env s F σ d a hd)) (fun v s' y => ?_) fun _ _ z => z.2.elim
  obtain ⟨t, k, ⟨G, g⟩, l, e1, e2, e3⟩ := y
  exact h v s' G l k g (a.keeps k g t) e1 e2 e3
def cutD (lo hi : Option Int) : Dat → Option Dat
  | .list ds => if partOk lo = true ∧ partOk hi = true ∧ ds.length ≤ 1000000 then some (.list (cut lo hi ds)) else none
  | .str x => if partOk lo = true ∧ partOk hi = true ∧ x.cps.toList.length ≤ 1000000 then some (.str ⟨(cut lo hi x.cps.toList).toArray⟩) else none
  | _ => none
theorem ends_push {d : Dat} {v : Value} {o : Obj} {tk : Nat} (h : DatIn F v d) : Ends s F d v { s with heap := s.heap.push o, toks := tk } := ⟨keeps_push _ _ _, [], .nil _ _, h⟩
theorem CE.sliceL {e : Expr} {lo hi : Option Expr} {f : VS → Option Dat} {g k : VS → Option (Option Int)} {p pos : Pos} (he : CE sc nm n e f) (hlo : CO sc nm n lo g) (hhi : CO sc nm n hi k) (ht : ∀ o r, letTemporaryGo e o r = pure ()) :
    CE sc nm n (.Subscript e (.Slice lo hi .none p) pos) (fun σ => (f σ).bind fun a => (g σ).bind fun b => (k σ).bind fun c => cutD b c a) := by
  intro prog w A env s F σ d a hd
  obtain ⟨x, hx, hd⟩ := Option.bind_eq_some_iff.mp hd
  obtain ⟨y, hy, hd⟩ := Option.bind_eq_some_iff.mp hd
  obtain ⟨z, hz, hd⟩ := Option.bind_eq_some_iff.mp hd
  cases x with
  | list ds =>
    obtain ⟨hh, rfl⟩ := of_ite (c := partOk y = true ∧ partOk z = true ∧ ds.length ≤ 1000000) hd
    refine wpAny_Subscript_list_slice (he.then a hx fun u s₁ G₁ k₁ g₁ a₁ d₁ => hlo.then a₁ hy fun v₂ s₂ G₂ l₂ k₂ g₂ a₂ e2 f2 p2 => hhi.then a₂ hz fun v₃ s₃ G₃ l₃ k₃ g₃ a₃ e3 f3 p3 => ?_) ht
    have d₁ := dat_more (G := G₃) (dat_more (G := G₂) d₁)
    cases d₁ with
    | @list l1 vs1 k1 ds1 hm1 r1 =>
      refine ⟨l1, vs1.toArray, y, z, rfl, is_list (a₃.has _ hm1), ?_, p2, p3, ?_⟩
      · rw [List.size_toArray, r1.length, sizeLine_eq]; omega
      · rw [pick_cut _ _ _ hh.1 hh.2.1]
        refine Ends.after k₁ g₁ (Ends.after k₂ g₂ (Ends.after k₃ g₃ ?_))
        refine Ends.after (G := []) (keeps_push s₃ { cls := .type "slice", data := .fields #[v₂, v₃, .none] } s₃.toks) (.nil _ _) ?_
        have := ends_list (s := { s₃ with heap := s₃.heap.push { cls := .type "slice", data := .fields #[v₂, v₃, .none] } }) (tk := s₃.toks) (dats_cut r1 y z)
        rwa [show (s₃.heap.push { cls := .type "slice", data := .fields #[v₂, v₃, .none] }).objs.size = s₃.heap.objs.size + 1 from Heap.size_push ..] at this
  | str t =>
    obtain ⟨hh, rfl⟩ := of_ite (c := partOk y = true ∧ partOk z = true ∧ t.cps.toList.length ≤ 1000000) hd
    refine wpAny_Subscript_str_slice (he.then a hx fun u s₁ G₁ k₁ g₁ a₁ d₁ => hlo.then a₁ hy fun v₂ s₂ G₂ l₂ k₂ g₂ a₂ e2 f2 p2 => hhi.then a₂ hz fun v₃ s₃ G₃ l₃ k₃ g₃ a₃ e3 f3 p3 => ?_) ht
    cases d₁ with
    | str _ tk =>
      refine ⟨t, tk, l₂, l₃, rfl, e2, e3, ?_⟩
      subst f2 f3
      rw [← txt_slice _ _ _ hh.1 hh.2.1]
      refine post_val_or_str ⟨?_, fun t' k => ?_⟩
      · refine Nat.le_trans (Txt.slice_le t _ _) ?_
        rw [str_len, sizeLine_eq]; omega
      · exact Ends.after k₁ g₁ (Ends.after k₂ g₂ (Ends.after k₃ g₃ (ends_push (.str _ _))))
  | _ => cases hd
/-- a slice of a list that has no name -/
theorem CE.sliceT {e : Expr} {lo hi : Option Expr} {f : VS → Option Dat} {g k : VS → Option (Option Int)} {p pos : Pos} (he : CE sc nm n e f) (hlo : CO sc nm n lo g) (hhi : CO sc nm n hi k) :
    CE sc nm n (.Subscript e (.Slice lo hi .none p) pos) (fun σ => (f σ).bind fun a => (g σ).bind fun b => (k σ).bind fun c => match a with | .list ds => cutD b c (.list ds) | _ => none) := by
  intro prog w A env s F σ d a hd
  obtain ⟨x, hx, hd⟩ := Option.bind_eq_some_iff.mp hd
  obtain ⟨y, hy, hd⟩ := Option.bind_eq_some_iff.mp hd
  obtain ⟨z, hz, hd⟩ := Option.bind_eq_some_iff.mp hd
  cases x with
  | list ds =>
    obtain ⟨hh, rfl⟩ := of_ite (c := partOk y = true ∧ partOk z = true ∧ ds.length ≤ 1000000) hd
    refine Subscript_ (he.then a hx fun u s₁ G₁ k₁ g₁ a₁ d₁ => wpAny_Slice (hlo.then a₁ hy fun v₂ s₂ G₂ l₂ k₂ g₂ a₂ e2 f2 p2 => hhi.then a₂ hz fun v₃ s₃ G₃ l₃ k₃ g₃ a₃ e3 f3 p3 => ?_))
    rw [evalPart_none]
    refine wpAny_pure ?_
    have d₁ := dat_more (G := G₃) (dat_more (G := G₂) d₁)
    cases d₁ with
    | @list l1 vs1 k1 ds1 hm1 r1 =>
      refine kba_turn (value' := .Name "_" ⟨0, 0, 0, 0⟩) (fun _ => rfl) ?_
      have hl := is_list (a₃.has _ hm1)
      have hT : Shared.TypeIs { s₃ with heap := s₃.heap.push { cls := .type "slice", data := .fields #[v₂, v₃, .none] } } (.ref l1) "list" := (hl.push _).typeIs
      unfold subscriptTail
      refine wpAny_bind ?_
      rw [getitemInPython_of_ne hT.not_modules]
      refine wpAny_bind (wpAny_specialOf hT list_getitem_lookup ?_)
      refine wpAny_pure ?_
      refine wpAny_bind (m := operate [.ref s₃.heap.objs.size, .ref l1] (getItem (.ref l1) (.ref s₃.heap.objs.size))) (wpAny_operating ?_)
      refine wpAny_getItem_list_slice (lo := y) (hi := z) (hl.push _) (Heap.IsSliceOf.new ..) p2 p3 .none (by simp) ?_ (by rw [List.size_toArray, r1.length, sizeLine_eq]; omega)
      refine wpAny_bind (wpAny_of_eq (show letTemporaryGo (.Name "_" ⟨0, 0, 0, 0⟩) _ _ = pure () from rfl) (wpAny_pure ?_))
      rw [pick_cut _ _ _ hh.1 hh.2.1]
      refine Ends.after k₁ g₁ (Ends.after k₂ g₂ (Ends.after k₃ g₃ ?_))
      refine Ends.after (G := []) (keeps_push s₃ { cls := .type "slice", data := .fields #[v₂, v₃, .none] } s₃.toks) (.nil _ _) ?_
      exact ends_list (s := { s₃ with heap := s₃.heap.push { cls := .type "slice", data := .fields #[v₂, v₃, .none] } }) (tk := s₃.toks) (dats_cut r1 y z)
  | _ => cases hd
end
end Mine

end -- C5

section -- C6
namespace Mine
open PySem PySem.W PyProof.Rows
set_option maxRecDepth 100000

/-- the arguments have no star -/
def Plain (args : List Expr) : Prop := ∀ env, starEach args env = args.map fun e => (false, eval e env)
theorem Plain.all {args : List Expr} (h : Plain args) (env : Env) (pos : Pos) : backTo pos (starEach args env) = args.map fun e => (false, eval e env) := by
  rw [h env]
  unfold backTo
  rw [List.map_map]
  rfl

section
variable {sc : Scope} {nm : List Str} {n : Nat} {prog : Program} {w : World} {A : Around} {env : Env} {s : Shared} {F : FL} {σ : VS}

theorem evalArgs_trees {fv : Value} {args : List Expr} {pos : Pos} {Q : Args → Shared → Prop} {E : Value → Shared → Prop} (hp : Plain args)
    (h : wpAny (model prog w) A (spliced (backTo pos (starEach args env))) (fun vs s' => Q ⟨vs, []⟩ s') E s) : wpAny (model prog w) A (evalArgs fv true (backTo pos (starEach args env)) []) Q E s := by
  rw [hp.all] at h ⊢
  cases args with
  | nil =>
    unfold evalArgs
    show wpAny (model prog w) A (spliced [] >>= _) Q E s
    refine wpAny_bind (wpAny_mono h (fun vs s' h' => ?_) fun _ _ x => x)
    refine wpAny_bind (wpAny_pure ?_)
    refine wpAny_holding ?_
    exact wpAny_bind (wpAny_pure (wpAny_bind (wpAny_pure (wpAny_pure h'))))
  | cons e r => exact Calls.evalArgs_plain h

/-- a method of a text -/
theorem CE.meth {o : Expr} {args : List Expr} {name : Str} {id : String} {apos pos : Pos} {f : VS → Option Dat} {g : VS → Option (List Dat)} (R : Str → List Dat → Option Dat) (slot : Slot "str" name id) (ty : typeOf (.builtin id) = pure (.type "method_descriptor"))
    (ho : CE sc nm n o f) (ha : CL sc nm n args g) (hp : Plain args) (hb : ∀ env, attributeBase o name env (eval o env) = eval o env) (hline : (apos.endLine == pos.line) = true) (hfew : args.length < 30)
    (hc : ∀ {prog : Program} {w : World} {A : Around} {s : Shared} {F : FL} {x : Str} {t : Tok} {vs : List Value} {ds : List Dat} {d : Dat}, AOk n A → Has s.heap F → DatAll F vs ds → R x ds = some d →
      wpAny (model prog w) A (call (.builtin id) (.str x t :: vs)) (Ends s F d) (fun _ _ => False) s) :
    CE sc nm n (.Call (.Attribute o name apos) args [] pos) (fun σ => (f σ).bind fun a => (g σ).bind fun ds => match a with | .str x => R x ds | _ => none) := by
  intro prog w A env s F σ d a hd
  obtain ⟨x, hx, hd⟩ := Option.bind_eq_some_iff.mp hd
  obtain ⟨y, hy, hd⟩ := Option.bind_eq_some_iff.mp hd
  cases x with
  | str x =>
    refine wpAny_Call_method_lateS (hb env) ?_ hline (ho.then a hx fun u s₁ G₁ k₁ g₁ a₁ d₁ => ?_)
    · rw [hp.all]
      have e1 : (args.map fun e => ((false, eval e env) : Bool × Sem Value)).all (fun x => !x.1) = true := by simp
      rw [e1]
      show (true && decide (args.length + 0 + 0 < 30)) = true
      simpa using hfew
    · cases d₁ with
      | str _ t =>
        refine ⟨"str", id, PySem.F.plainAttrs_str, slot, ty, typeIs_str _ _ _, (fun _ e => nomatch e), ?_⟩
        refine Calls.callWith_builtin (by rw [hp.all]; simp) (evalArgs_trees hp (ha.then a₁ hy fun vs s₂ G₂ k₂ g₂ a₂ d₂ => ?_))
        exact wpAny_mono (hc a₂.ok a₂.has d₂ hd) (fun v s₃ e => (e.after k₂ g₂).after k₁ g₁) fun _ _ z => z
  | _ => cases hd

def oneC : Dat → Option Nat
  | .str y => match y.cps.toList with | [c] => some c | _ => none
  | _ => none
theorem of_oneC {d : Dat} {c : Nat} (h : oneC d = some c) : d = .str ⟨#[c]⟩ := by
  cases d with
  | str y =>
    unfold oneC at h
    dsimp only at h
    split at h
    · rename_i c' e
      cases h
      rw [str_mk e]
    · cases h
  | _ => cases h
/-- text.find(c) -/
def findR (x : Str) : List Dat → Option Dat
  | [d] => (oneC d).map fun c => .int (idxC c 0 x.cps.toList)
  | [d, .int 0, .int j] => (oneC d).bind fun c => if 0 ≤ j ∧ j ≤ x.cps.toList.length then some (.int (idxC c 0 (x.cps.toList.take j.toNat))) else none
  | _ => none
def rfindR (x : Str) : List Dat → Option Dat
  | [d, .int 0, .int j] => (oneC d).bind fun c => if 0 ≤ j ∧ j ≤ x.cps.toList.length then some (.int (ridxC c (-1) 0 (x.cps.toList.take j.toNat))) else none
  | _ => none
theorem toNat_max (len : Nat) (j : Int) (h : 0 ≤ j) (h2 : j ≤ len) : min (max 0 (if j < 0 then j + len else j)).toNat len = j.toNat := by
  rw [if_neg (by omega)]; omega
theorem post_int {i j : Int} (e : i = j) (h : Ends s F (.int j) (.int j s.toks) { s with toks := s.toks + 1 }) : (Made.int i).post (Ends s F (.int j)) s := by subst e; exact h
theorem gives_find3 (x y : Str) (j : Int) (t u v v' : Tok) (h : 0 ≤ j) (h2 : j ≤ x.length) :
    Gives (Builtin.«str.find» ⟨[.str x t, .str y u, .int 0 v, .int j v'], []⟩) (.int (match Builtin.Str.occurrences x y 0 j.toNat 1 with | k :: _ => (k : Int) | [] => -1)) := by
  show Gives (match Builtin.Str.occurrences x y 0 (min (max 0 (if j < 0 then j + x.length else j)).toNat x.length) 1 with | k :: _ => retInt k | [] => (do rule "str.find.not-found"; retInt (-1))) _
  rw [toNat_max _ _ h h2]
  cases Builtin.Str.occurrences x y 0 j.toNat 1 with
  | nil => exact .rule (.of_eq rfl)
  | cons k _ => exact .of_eq rfl
theorem gives_rfind3 (x y : Str) (j : Int) (t u v v' : Tok) (h : 0 ≤ j) (h2 : j ≤ x.length) :
    Gives (Builtin.«str.rfind» ⟨[.str x t, .str y u, .int 0 v, .int j v'], []⟩) (.int (match Builtin.Str.lastOccurrence x y 0 j.toNat with | some k => (k : Int) | none => -1)) := by
  show Gives (match Builtin.Str.lastOccurrence x y 0 (min (max 0 (if j < 0 then j + x.length else j)).toNat x.length) with | some k => retInt k | none => (do rule "str.rfind.not-found"; retInt (-1))) _
  rw [toNat_max _ _ h h2]
  cases Builtin.Str.lastOccurrence x y 0 j.toNat with
  | none => exact .rule (.of_eq rfl)
  | some k => exact .of_eq rfl

variable {o : Expr} {args : List Expr} {apos pos : Pos} {f : VS → Option Dat} {g : VS → Option (List Dat)}
theorem CE.find (ho : CE sc nm n o f) (ha : CL sc nm n args g) (hp : Plain args) (hb : ∀ env, attributeBase o "find" env (eval o env) = eval o env) (hline : (apos.endLine == pos.line) = true) (hfew : args.length < 30) :
    CE sc nm n (.Call (.Attribute o "find" apos) args [] pos) (fun σ => (f σ).bind fun a => (g σ).bind fun ds => match a with | .str x => findR x ds | _ => none) := by
  refine CE.meth findR PySem.F.slot_str_find PySem.F.type_str_find ho ha hp hb hline hfew ?_
  intro prog w A s F x t vs ds d _ _ hd hR
  unfold findR at hR
  split at hR
  · rename_i e
    obtain ⟨c, hc, rfl⟩ := Option.map_eq_some_iff.mp hR
    cases of_oneC hc
    cases hd with
    | cons h1 h2 =>
      cases h1; cases h2
      rename_i t'
      refine call_gives PySem.F.slot_str_find (typeIs_str _ _ _) PySem.F.entry_str_find (PySem.F.args_str_find_2 _ _) (gives_str_find x _ t t') ?_
      have := find_eq x c x.length (Nat.le_refl _)
      rw [show x.cps.toList.take x.length = x.cps.toList by rw [str_len, List.take_length]] at this
      exact post_int this (ends_val (.int _ _))
  · rename_i e j
    obtain ⟨c, hc, hR⟩ := Option.bind_eq_some_iff.mp hR
    obtain ⟨hj, rfl⟩ := of_ite (c := 0 ≤ j ∧ j ≤ x.cps.toList.length) hR
    rw [← str_len] at hj
    cases of_oneC hc
    cases hd with
    | cons h1 h2 =>
      cases h2 with
      | cons h2 h3 =>
        cases h3 with
        | cons h3 h4 =>
          cases h1; cases h2; cases h3; cases h4
          refine call_gives PySem.F.slot_str_find (typeIs_str _ _ _) PySem.F.entry_str_find (PySem.F.args_str_find_4 _ _ _ _) (gives_find3 x _ j _ _ _ _ hj.1 hj.2) ?_
          exact post_int (find_eq x c j.toNat (by omega)) (ends_val (.int _ _))
  · cases hR
theorem CE.rfind (ho : CE sc nm n o f) (ha : CL sc nm n args g) (hp : Plain args) (hb : ∀ env, attributeBase o "rfind" env (eval o env) = eval o env) (hline : (apos.endLine == pos.line) = true) (hfew : args.length < 30) :
    CE sc nm n (.Call (.Attribute o "rfind" apos) args [] pos) (fun σ => (f σ).bind fun a => (g σ).bind fun ds => match a with | .str x => rfindR x ds | _ => none) := by
  refine CE.meth rfindR PySem.F.slot_str_rfind PySem.F.type_str_rfind ho ha hp hb hline hfew ?_
  intro prog w A s F x t vs ds d _ _ hd hR
  unfold rfindR at hR
  split at hR
  · rename_i e j
    obtain ⟨c, hc, hR⟩ := Option.bind_eq_some_iff.mp hR
    obtain ⟨hj, rfl⟩ := of_ite (c := 0 ≤ j ∧ j ≤ x.cps.toList.length) hR
    rw [← str_len] at hj
    cases of_oneC hc
    cases hd with
    | cons h1 h2 =>
      cases h2 with
      | cons h2 h3 =>
        cases h3 with
        | cons h3 h4 =>
          cases h1; cases h2; cases h3; cases h4
          refine call_gives PySem.F.slot_str_rfind (typeIs_str _ _ _) PySem.F.entry_str_rfind (PySem.F.args_str_rfind_4 _ _ _ _) (gives_rfind3 x _ j _ _ _ _ hj.1 hj.2) ?_
          exact post_int (rfind_eq x c j.toNat (by omega)) (ends_val (.int _ _))
  · cases hR
def lstripR (x : Str) : List Dat → Option Dat
  | [d] => (oneC d).bind fun c => if x.cps.toList.length ≤ 1000000 then some (.str ⟨(dropC c x.cps.toList).toArray⟩) else none
  | _ => none
theorem CE.lstrip (ho : CE sc nm n o f) (ha : CL sc nm n args g) (hp : Plain args) (hb : ∀ env, attributeBase o "lstrip" env (eval o env) = eval o env) (hline : (apos.endLine == pos.line) = true) (hfew : args.length < 30) :
    CE sc nm n (.Call (.Attribute o "lstrip" apos) args [] pos) (fun σ => (f σ).bind fun a => (g σ).bind fun ds => match a with | .str x => lstripR x ds | _ => none) := by
  refine CE.meth lstripR PySem.F.slot_str_lstrip PySem.F.type_str_lstrip ho ha hp hb hline hfew ?_
  intro prog w A s F x t vs ds d _ _ hd hR
  unfold lstripR at hR
  split at hR
  · rename_i e
    obtain ⟨c, hc, hR⟩ := Option.bind_eq_some_iff.mp hR
    obtain ⟨hj, rfl⟩ := of_ite (c := x.cps.toList.length ≤ 1000000) hR
    rw [← str_len] at hj
    cases of_oneC hc
    cases hd with
    | cons h1 h2 =>
      cases h1; cases h2
      rw [← lstrip_eq]
      exact PySem.SC.lstripChars (fun t' k => ends_val (.str _ _)) (by rw [sizeLine_eq]; omega)
  · cases hR
def splitR (x : Str) : List Dat → Option Dat
  | [] => if x.cps.toList.length ≤ 1000000 then some (.list ((wl Unicode.isSpace none x.cps.toList).map fun w => .str ⟨w.toArray⟩)) else none
  | _ => none
theorem dats_strs {F : FL} : ∀ (l : List (Str × Tok)), DatAll F (strValues l) (l.map fun p => .str p.1)
  | [] => .nil
  | (x, t) :: l => .cons (.str x t) (dats_strs l)
theorem CE.split (ho : CE sc nm n o f) (ha : CL sc nm n args g) (hp : Plain args) (hb : ∀ env, attributeBase o "split" env (eval o env) = eval o env) (hline : (apos.endLine == pos.line) = true) (hfew : args.length < 30) :
    CE sc nm n (.Call (.Attribute o "split" apos) args [] pos) (fun σ => (f σ).bind fun a => (g σ).bind fun ds => match a with | .str x => splitR x ds | _ => none) := by
  refine CE.meth splitR PySem.F.slot_str_split PySem.F.type_str_split ho ha hp hb hline hfew ?_
  intro prog w A s F x t vs ds d _ _ hd hR
  unfold splitR at hR
  split at hR
  · obtain ⟨hj, rfl⟩ := of_ite (c := x.cps.toList.length ≤ 1000000) hR
    rw [← str_len] at hj
    cases hd
    have hl : (Builtin.Str.spaceWords x (x.length + 1)).length ≤ sizeLine := by
      have h1 := (StrLaws.sw_weight x).1
      have h2 := StrLaws.len_le_wsum (Builtin.Str.spaceWords x (x.length + 1))
      rw [sizeLine_eq]; omega
    refine call_meets PySem.F.slot_str_split (typeIs_str _ _ _) PySem.F.entry_str_split (PySem.F.args_str_split_1 _) (meets_str_split_space x t (by rw [sizeLine_eq]; omega) hl) ?_
    have hw : Txt.words x = if (Builtin.Str.spaceWords x (x.length + 1) == [(0, x.length)]) = true then [x] else PySem.wordsOf x := rfl
    rw [words_eq] at hw
    have e : ((wl Unicode.isSpace none x.cps.toList).map fun w => Dat.str ⟨w.toArray⟩) = ((wl Unicode.isSpace none x.cps.toList).map fun w => (⟨w.toArray⟩ : Str)).map Dat.str := by rw [List.map_map]; rfl
    rw [e, hw]
    split
    · exact ends_list (.cons (.str _ _) .nil)
    · rw [strsFrom_eq]
      have q := dats_strs (F := F) (numbered s.toks (PySem.wordsOf x))
      rw [show ((numbered s.toks (PySem.wordsOf x)).map fun p => Dat.str p.1) = (PySem.wordsOf x).map Dat.str by have := congrArg (List.map Dat.str) (numbered_texts s.toks (PySem.wordsOf x)); rwa [List.map_map] at this] at q
      exact ends_list q
  · cases hR
end
end Mine

end -- C6

section -- C7
namespace Mine
open PySem PySem.W PyProof.Rows
set_option maxRecDepth 100000
section
variable {sc : Scope} {nm : List Str} {n : Nat} {prog : Program} {w : World} {A : Around} {env : Env} {s : Shared} {F : FL} {σ : VS}

theorem add_fresh {x y : Str} {t u : Tok} {Q : Value → Shared → Prop} {E : Value → Shared → Prop} (hx : (x.length == 0) = false) (hy : (y.length == 0) = false) (hsz : x.length + y.length ≤ sizeLine)
    (h : Q (.str (x ++ y) s.toks) { s with toks := s.toks + 1 }) : wpAny (model prog w) A (binaryOp .Add (.str x t) (.str y u)) Q E s := by
  refine binaryOp_concat (typeIs_str s x t) (typeIs_str s y u) PySem.noFill_str_add PySem.seq_str_add ?_
  refine call_gives PySem.F.slot_str_add (typeIs_str _ _ _) PySem.F.entry_str_add (PySem.F.args_str_add_2 _ _) (gives_str_add x y t u) ?_
  rw [hx, hy]
  exact ⟨by rw [strLen_append]; exact hsz, h⟩

def replD (c : Nat) : Dat → Dat → Option Dat
  | .str x, .str z => if x.cps.toList.length ≤ 100000 ∧ 1 ≤ z.cps.toList.length ∧ z.cps.toList.length ≤ 10 then some (.str ⟨(repC c (c :: z.cps.toList) x.cps.toList).toArray⟩) else none
  | _, _ => none
theorem CE.repl {o e : Expr} {y : Str} {k k' : Nat} {p p' p'' apos pos : Pos} {f g : VS → Option Dat} (c : Nat) (hy : y = ⟨#[c]⟩) (ho : CE sc nm n o f) (he : CE sc nm n e g)
    (hb : ∀ env, attributeBase o "replace" env (eval o env) = eval o env) (hline : (apos.endLine == pos.line) = true) :
    CE sc nm n (.Call (.Attribute o "replace" apos) [.Constant (.str y) k p, .BinOp (.Constant (.str y) k' p') .Add e p''] [] pos) (fun σ => (f σ).bind fun a => (g σ).bind fun b => replD c a b) := by
  intro prog w A env s F σ d a hd
  obtain ⟨x, hx, hd⟩ := Option.bind_eq_some_iff.mp hd
  obtain ⟨z, hz, hd⟩ := Option.bind_eq_some_iff.mp hd
  subst hy
  cases x with
  | str x =>
    cases z with
    | str z =>
      obtain ⟨hj, rfl⟩ := of_ite (c := x.cps.toList.length ≤ 100000 ∧ 1 ≤ z.cps.toList.length ∧ z.cps.toList.length ≤ 10) hd
      rw [← str_len, ← str_len] at hj
      refine wpAny_Call_method_lateS (hb env) rfl hline (ho.then a hx fun u s₁ G₁ k₁ g₁ a₁ d₁ => ?_)
      cases d₁ with
      | str _ t =>
        refine ⟨"str", "str.replace", PySem.F.plainAttrs_str, PySem.F.slot_str_replace, PySem.F.type_str_replace, typeIs_str _ _ _, (fun _ e => nomatch e), ?_⟩
        refine Calls.callWith_builtin rfl (evalArgs_trees (fun _ => rfl) (args_cons (Calls.Constant_str (args_cons ?_ rfl)) rfl))
        refine wpAny_BinOp (Calls.Constant_str ?_)
        have k₂ : Keeps s₁ { s₁ with toks := s₁.toks + 1 + 1 } := keeps_toks _ _
        have a₂ : At sc nm n A env { s₁ with toks := s₁.toks + 1 + 1 } ([] ++ (G₁ ++ F)) σ := a₁.keeps k₂ (.nil _ _) (by show s₁.toks ≤ s₁.toks + 1 + 1; omega)
        have ht := a₁.tok
        refine wpAny_mono (wpAny_toks (he prog w A env _ _ σ _ a₂ hz)) (fun v s₃ q => ?_) fun _ _ z => z.2.elim
        obtain ⟨t₃, k₃, G₃, g₃, d₃⟩ := q
        have t₃ : s₁.toks + 1 + 1 ≤ s₃.toks := t₃
        cases d₃ with
        | str _ t' =>
          have e1 : (⟨#[c]⟩ : Str).length = 1 := rfl
          refine add_fresh rfl (by simp only [beq_eq_false_iff_ne]; omega) (by rw [e1, sizeLine_eq]; omega) ?_
          refine args_nil ?_
          have e2 : (⟨#[c]⟩ ++ z : Str) = ⟨(c :: z.cps.toList).toArray⟩ := by rw [str_app]; rfl
          have e3 : repC c (c :: z.cps.toList) x.cps.toList = repC c (⟨#[c]⟩ ++ z : Str).cps.toList x.cps.toList := by rw [e2]
          rw [e3, ← replace_eq]
          have e4 : (⟨#[c]⟩ ++ z : Str).length = 1 + z.length := by rw [strLen_append, e1]
          refine PySem.SC.replaceW (show @Ne Nat s₁.toks 0 by omega) (show @Ne Nat s₃.toks 0 by omega) (show @Ne Nat s₁.toks s₃.toks by omega) ?_ (by omega) (by rw [e4]; omega) fun t' k => ?_
          · refine Bool.eq_false_iff.mpr fun h => ?_
            have := congrArg Str.length (eq_of_beq h)
            rw [e4, e1] at this
            omega
          · refine Ends.after k₁ g₁ (Ends.after k₂ (.nil _ _) (Ends.after k₃ g₃ ?_))
            exact ⟨⟨_, _, rfl, fun _ _ e => e⟩, [], .nil _ _, .str _ _⟩
    | _ => cases hd
  | _ => cases hd
end
end Mine

end -- C7

section -- C8
namespace Mine
open PySem PySem.W PyProof.Rows
set_option maxRecDepth 100000
section
variable {sc : Scope} {nm : List Str} {n : Nat} {prog : Program} {w : World} {A : Around} {env : Env} {s : Shared} {F : FL} {σ : VS}

def sumL : List Dat → Option Int
  | [] => some 0
  | .int i :: r => (sumL r).map (i + ·)
  | _ :: _ => none
def sumD : Dat → Option Dat
  | .list ds => (sumL ds).map .int
  | _ => none
theorem of_sumL {F : FL} : ∀ {ds : List Dat} {vs : List Value} {i : Int}, DatAll F vs ds → sumL ds = some i → ∃ xs : List (Int × Tok), vs = xs.map (fun p => Value.int p.1 p.2) ∧ (xs.map (·.1)).sum = i
  | [], _, i, h, hi => by cases h; cases hi; exact ⟨[], rfl, rfl⟩
  | d :: ds, _, i, h, hi => by
    cases h with
    | cons h r =>
      cases h with
      | int k t =>
        obtain ⟨j, hj, rfl⟩ := Option.map_eq_some_iff.mp hi
        obtain ⟨xs, rfl, e⟩ := of_sumL r hj
        exact ⟨(k, t) :: xs, rfl, by simp [e]⟩
      | _ => cases hi
theorem CE.sum {e : Expr} {f : VS → Option Dat} {p pos : Pos} (he : CE sc nm n e f) (hs : ∀ env, starEach [e] env = [(false, eval e env)]) (hx : sc.names.lookup ("sum" : Str) = some .globalImplicit) :
    CE sc nm n (.Call (.Name "sum" p) [e] [] pos) (fun σ => (f σ).bind sumD) := by
  intro prog w A env s F σ d a hd
  obtain ⟨x, hx', hd⟩ := Option.bind_eq_some_iff.mp hd
  refine Call_name1 (hs env) (bi_name a.tops (v := .builtin "sum") (.tail _ (.tail _ (.tail _ (.tail _ (.head _))))) a.envOk.fn (a.envOk.kindOf hx) a.envOk.gl a.envOk.bi ?_ (by decide))
  refine PySem.callWith_builtin1 (he.then a hx' fun u s₁ G₁ k₁ g₁ a₁ d₁ => ?_)
  cases d₁ with
  | @list l1 vs1 k1 ds1 hm1 r1 =>
    obtain ⟨i, hi, rfl⟩ := Option.map_eq_some_iff.mp hd
    obtain ⟨xs, rfl, rfl⟩ := of_sumL r1 hi
    have e : (xs.map (fun p => Value.int p.1 p.2)).toArray = intItems xs.toArray := by simp [intItems]
    have hl := a₁.has _ hm1
    rw [e] at hl
    refine sum_intListG a₁.ok.1 (is_list hl) fun h' tk t' hk => ?_
    have : preSum (numAt xs.toArray) xs.toArray.size = (xs.map (·.1)).sum := by
      rw [preSum_eq, List.take_of_length_le (by simp)]
    rw [this]
    exact Ends.after k₁ g₁ ⟨⟨_, _, rfl, hk⟩, [], .nil _ _, .int _ _⟩
  | _ => cases hd
end
end Mine

end -- C8

section -- S1
namespace Mine
open PySem PySem.W PyProof.Rows
set_option maxRecDepth 100000

abbrev BP := Addr → Obj → Prop
/-- nobody relies on what lies at a -/
def Off (B : BP) (F : FL) (a : Addr) : Prop := (∀ o, ¬ B a o) ∧ ∀ o, (a, o) ∉ F
def KeepB (B : BP) (h : Heap) : Prop := ∀ b o, B b o → h.get? b = some o
def NewB (B : BP) (G : FL) : Prop := ∀ p ∈ G, ∀ o, ¬ B p.1 o
theorem NewB.nil (B : BP) : NewB B [] := fun _ h => nomatch h
theorem NewB.append {B : BP} {G G' : FL} (x : NewB B G) (y : NewB B G') : NewB B (G ++ G') := fun p hp => (List.mem_append.mp hp).elim (x p) (y p)
theorem NewB.of_new {B : BP} {s s' : Shared} {G : FL} (k : KeepB B s.heap) (n : New s s' G) : NewB B G := fun p hp o hb => by
  have := k _ _ hb
  rw [(n p hp).2] at this
  cases this
theorem KeepB.keeps {B : BP} {h h' : Heap} (x : KeepB B h) (k : ∀ b o, h.get? b = some o → h'.get? b = some o) : KeepB B h' := fun b o hb => k b o (x b o hb)
theorem KeepB.but {B : BP} {F : FL} {h h' : Heap} {a : Addr} (x : KeepB B h) (f : Off B F a) (k : Heap.SameBut a h h') : KeepB B h' := fun b o hb => k.extBut b o (fun e => f.1 o (e ▸ hb)) (x b o hb)
theorem Has.but {B : BP} {F : FL} {h h' : Heap} {a : Addr} (x : Has h F) (f : Off B F a) (k : Heap.SameBut a h h') : Has h' F := fun p hp => k.extBut _ _ (fun e => f.2 p.2 (by rw [← e]; exact hp)) (x p hp)
theorem Off.more {B : BP} {F G : FL} {a : Addr} {s s' : Shared} {o : Obj} (x : Off B F a) (n : New s s' G) (ha : s.heap.get? a = some o) : Off B (G ++ F) a := by
  refine ⟨x.1, fun o' h => ?_⟩
  rcases List.mem_append.mp h with h | h
  · rw [(n _ h).2] at ha; cases ha
  · exact x.2 o' h

def Rest (gs : Bool) (s₀ s : Shared) : Prop := ∃ h tk g, s = { s₀ with heap := h, toks := tk, gens := g } ∧ (gs = false → g = s₀.gens) ∧ (AllBare s₀.gens → AllBare g)
theorem Rest.refl (gs : Bool) (s : Shared) : Rest gs s s := ⟨_, _, _, rfl, fun _ => rfl, fun h => h⟩
theorem Rest.same {gs : Bool} {s₀ s : Shared} (x : Rest gs s₀ s) (h' : Heap) (tk' : Nat) : Rest gs s₀ { s with heap := h', toks := tk' } := by
  obtain ⟨h, tk, g, rfl, a, b⟩ := x
  exact ⟨h', tk', g, rfl, a, b⟩
theorem Rest.keeps {gs : Bool} {s₀ s s' : Shared} (x : Rest gs s₀ s) (k : Keeps s s') : Rest gs s₀ s' := by
  obtain ⟨h', tk', rfl, _⟩ := k
  exact x.same h' tk'
theorem Rest.trans {gs : Bool} {a b c : Shared} (x : Rest gs a b) (y : Rest gs b c) : Rest gs a c := by
  obtain ⟨h, tk, g, rfl, p, q⟩ := x
  obtain ⟨h', tk', g', rfl, p', q'⟩ := y
  exact ⟨h', tk', g', rfl, fun e => (p' e).trans (p e), fun z => q' (q z)⟩

/-- the lists that are being filled -/
def Accs (env : Env) (nm : List Str) (h : Heap) (B : BP) (F : FL) (σ : VS) (al : Nat → Addr) : Prop :=
  (∀ i x ds, nm[i]? = some x → σ.at i = .acc ds → ∃ vs k, Holds env h x (.ref (al i)) ∧ h.get? (al i) = some (listOf vs.toArray k) ∧ DatAll F vs ds ∧ Off B F (al i) ∧ al i ≠ env.locals ∧ ∀ y c, env.cells.lookup y = some c → c ≠ al i) ∧
  ∀ i j x y ds es, nm[i]? = some x → nm[j]? = some y → σ.at i = .acc ds → σ.at j = .acc es → al i = al j → i = j

/-- a frame -/
structure Fm (gs : Bool) (sc : Scope) (nm mu : List Str) (n : Nat) (A : Around) (env : Env) (s₀ : Shared) (B : BP) (s : Shared) (F : FL) (σ : VS) : Prop where
  envOk : EnvOk sc env
  ok : AOk n A
  tb : ∃ h₀, Tops h₀ ∧ ∀ b o, h₀.get? b = some o → B b o
  has : Has s.heap F
  sees : Sees env nm s.heap F σ
  tok : 1 ≤ s.toks
  rest : Rest gs s₀ s
  keep : KeepB B s.heap
  ns : ∃ m, s.heap.Ns env.locals m
  offL : Off B F env.locals
  cells : ∀ x c, env.cells.lookup x = some c → c ≠ env.locals ∧ ∃ v, s.heap.IsCell c v
  apart : ∀ x ∈ mu, ∀ y c, env.cells.lookup x = some c → env.cells.lookup y = some c → y = x
  st : ∀ x ∈ mu, env.kindOf x = some .local ∨ (env.kindOf x = some .cell ∧ ∃ c, env.cells.lookup x = some c ∧ Off B F c)
  lim : ∀ i x ds, nm[i]? = some x → σ.at i = .acc ds → x ∉ mu → ∃ l, Holds env s₀.heap x (.ref l) ∧ Holds env s.heap x (.ref l)
  accs : ∃ al, Accs env nm s.heap B F σ al

section
variable {gs : Bool} {sc : Scope} {nm mu : List Str} {n : Nat} {A : Around} {env : Env} {s₀ s s' : Shared} {B : BP} {F G : FL} {σ : VS}
theorem Fm.at (x : Fm gs sc nm mu n A env s₀ B s F σ) : At sc nm n A env s F σ :=
  ⟨x.envOk, x.ok, by obtain ⟨h₀, t, k⟩ := x.tb; exact t.keeps fun b o e => x.keep b o (k b o e), x.has, x.sees, x.tok⟩
theorem Fm.keeps1 (x : Fm gs sc nm mu n A env s₀ B s F σ) (k : Keeps s s') (g : New s s' G) (t : 1 ≤ s'.toks) : Fm gs sc nm mu n A env s₀ B s' (G ++ F) σ := by
  obtain ⟨al, a1, a2⟩ := x.accs
  obtain ⟨m, hm⟩ := x.ns
  refine ⟨x.envOk, x.ok, x.tb, x.has.more k g, x.sees.keeps k, t, x.rest.keeps k, x.keep.keeps (keeps_get k), ⟨m, hm.keeps (keeps_get k)⟩, ?_, ?_, x.apart, ?_, fun i y ds h1 h2 h3 => (let ⟨l, e1, e2⟩ := x.lim i y ds h1 h2 h3; ⟨l, e1, e2.keeps (keeps_get k)⟩), al, ?_, a2⟩
  · obtain ⟨o, _, _, ho, _⟩ := hm
    exact x.offL.more g ho
  · intro y c e
    obtain ⟨h1, v, h2⟩ := x.cells y c e
    exact ⟨h1, v, h2.keeps (keeps_get k)⟩
  · intro y hy
    rcases x.st y hy with h | ⟨h, c, e, f⟩
    · exact .inl h
    · obtain ⟨_, v, o, ho, _⟩ := x.cells y c e
      exact .inr ⟨h, c, e, f.more g ho⟩
  · intro i y ds h1 h2
    obtain ⟨vs, kk, b1, b2, b3, b4, b5⟩ := a1 i y ds h1 h2
    exact ⟨vs, kk, b1.keeps (keeps_get k), keeps_get k _ _ b2, dats_more b3, b4.more g b2, b5⟩

theorem Fm.keeps (x : Fm gs sc nm mu n A env s₀ B s F σ) (k : Keeps s s') (g : New s s' G) (t : s.toks ≤ s'.toks) : Fm gs sc nm mu n A env s₀ B s' (G ++ F) σ := x.keeps1 k g (Nat.le_trans x.tok t)
theorem ns_one {h : Heap} {a : Addr} {m m' : Str → Option Value} (x : h.Ns a m) (y : h.Ns a m') (z : Str) : m z = m' z := by
  obtain ⟨o, es, ep, h1, h2, _, h3⟩ := x
  obtain ⟨o', es', ep', h1', h2', _, h3'⟩ := y
  rw [h1] at h1'; cases h1'
  rw [h2] at h2'; cases h2'
  rw [← h3, ← h3']

theorem at_set (σ : VS) (i j : Nat) (q : VV) : VS.at (σ.set i q) j = if i = j ∧ j < σ.length then q else σ.at j := by
  unfold VS.at
  simp only [List.getD_eq_getElem?_getD, List.getElem?_set]
  by_cases h : i = j
  · subst h
    by_cases hl : i < σ.length
    · simp [hl]
    · simp only [if_true, true_and, hl, if_false]
      rw [List.getElem?_eq_none (by omega)]
  · simp [h]

/-- what a variable holds -/
def VOk (env : Env) (h : Heap) (B : BP) (F : FL) (v : Value) : VV → Prop
  | .no => True
  | .val d => DatIn F v d
  | .acc ds => ∃ l vs k, v = .ref l ∧ h.get? l = some (listOf vs.toArray k) ∧ DatAll F vs ds ∧ Off B F l ∧ l ≠ env.locals ∧ (∀ y c, env.cells.lookup y = some c → c ≠ l)
/-- the lists that the other variables fill are apart from the one at l -/
def Apart (nm : List Str) (env : Env) (h : Heap) (σ : VS) (i : Nat) (v : Value) : VV → Prop
  | .acc _ => ∀ j x ds, j ≠ i → nm[j]? = some x → σ.at j = .acc ds → ¬ Holds env h x v
  | _ => True

theorem nodup_at {nm : List Str} (hn : nm.Nodup) {i j : Nat} {x : Str} (hi : nm[i]? = some x) (hj : nm[j]? = some x) : i = j := by
  obtain ⟨a, b⟩ := List.getElem?_eq_some_iff.mp hi
  exact (List.getElem?_inj a hn).mp (hi.trans hj.symm)

theorem Holds.one {env : Env} {h : Heap} {x : Str} {u v : Value} (a : Holds env h x u) (b : Holds env h x v) : u = v := by
  rcases a with ⟨k, m, hm, e⟩ | ⟨k, c, e, o, ho, hd⟩
  · rcases b with ⟨k', m', hm', e'⟩ | ⟨k', _⟩
    · have := ns_one hm hm' x
      rw [e, e'] at this
      exact Option.some.inj this
    · rw [k] at k'; rcases k' with k' | k' <;> cases k'
  · rcases b with ⟨k', _⟩ | ⟨k', c', e', o', ho', hd'⟩
    · rw [k'] at k; rcases k with k | k <;> cases k
    · rw [e] at e'; cases e'
      rw [ho] at ho'; cases ho'
      rw [hd] at hd'
      cases hd'; rfl

theorem Fm.store {prog : Program} {w : World} {E : Value → Shared → Prop} {x : Str} {i : Nat} {v : Value} {q : VV} {Q : Unit → Shared → Prop} (y : Fm gs sc nm mu n A env s₀ B s F σ) (hx : nm[i]? = some x) (hm : x ∈ mu) (hnd : nm.Nodup)
    (hq : VOk env s.heap B F v q) (ha : Apart nm env s.heap σ i v q)
    (h : ∀ s', Fm gs sc nm mu n A env s₀ B s' F (σ.set i q) → Q () s') : wpAny (model prog w) A (storeName env x v) Q E s := by
  obtain ⟨al, a1, a2⟩ := y.accs
  obtain ⟨m, hns⟩ := y.ns
  -- what both ways share
  have key : ∀ (a : Addr) (h' : Heap) (tk : Nat), Off B F a → Heap.SameBut a s.heap h' → s.toks ≤ tk → (∃ m', h'.Ns env.locals m') → (∀ z c, env.cells.lookup z = some c → ∃ u, h'.IsCell c u) →
      Holds env h' x v → (∀ z u, z ≠ x → Holds env s.heap z u → Holds env h' z u) → (∀ l o, l ≠ env.locals → (∀ z c, env.cells.lookup z = some c → c ≠ l) → s.heap.get? l = some o → h'.get? l = some o) →
      Fm gs sc nm mu n A env s₀ B { s with heap := h', toks := tk } F (σ.set i q) := by
    intro a h' tk fa hs ht hn hc hh ho hl
    refine ⟨y.envOk, y.ok, y.tb, y.has.but fa hs, ?_, Nat.le_trans y.tok ht, y.rest.same h' tk, y.keep.but fa hs, hn, y.offL, fun z c e => ⟨(y.cells z c e).1, hc z c e⟩, y.apart, y.st, ?_, ?_⟩
    · intro j z d hz hd
      unfold VS.get at hd
      rw [at_set] at hd
      by_cases hj : i = j ∧ j < σ.length
      · rw [if_pos hj] at hd
        obtain ⟨rfl, _⟩ := hj
        rw [hx] at hz; cases hz
        cases q with
        | val d' => cases hd; exact ⟨v, hh, hq⟩
        | _ => cases hd
      · rw [if_neg hj] at hd
        by_cases hzx : z = x
        · subst hzx
          have := nodup_at hnd hx hz
          subst this
          have hj' : ¬ i < σ.length := fun h => hj ⟨rfl, h⟩
          have : σ.at i = .no := by unfold VS.at; rw [List.getD_eq_getElem?_getD, List.getElem?_eq_none (by omega)]; rfl
          rw [this] at hd; cases hd
        · obtain ⟨u, h1, h2⟩ := y.sees j z d hz hd
          exact ⟨u, ho z u hzx h1, h2⟩
    · intro j z es hz hd hn
      have hzx : z ≠ x := fun e => hn (e ▸ hm)
      rw [at_set] at hd
      by_cases hj : i = j ∧ j < σ.length
      · exfalso
        rw [← hj.1, hx] at hz
        exact hzx (Option.some.inj hz).symm
      · rw [if_neg hj] at hd
        obtain ⟨l, e1, e2⟩ := y.lim j z es hz hd hn
        exact ⟨l, e1, ho z _ hzx e2⟩
    · have other : ∀ j z ds, nm[j]? = some z → j ≠ i → σ.at j = .acc ds → ∃ vs k, Holds env h' z (.ref (al j)) ∧ h'.get? (al j) = some (listOf vs.toArray k) ∧ DatAll F vs ds ∧ Off B F (al j) ∧ al j ≠ env.locals ∧ ∀ y c, env.cells.lookup y = some c → c ≠ al j := by
        intro j z ds hz hji hd
        obtain ⟨vs, k, b1, b2, b3, b4, b5, b6⟩ := a1 j z ds hz hd
        have hzx : z ≠ x := fun e => hji (nodup_at hnd hz (e ▸ hx))
        exact ⟨vs, k, ho z _ hzx b1, hl _ _ b5 b6 b2, b3, b4, b5, b6⟩
      have dead : ∀ j ds, VS.at (σ.set i q) j = .acc ds → (i = j ∧ j < σ.length ∧ q = .acc ds) ∨ (j ≠ i ∧ σ.at j = .acc ds) := by
        intro j ds hd
        rw [at_set] at hd
        by_cases hj : i = j ∧ j < σ.length
        · rw [if_pos hj] at hd; exact .inl ⟨hj.1, hj.2, hd⟩
        · rw [if_neg hj] at hd
          refine .inr ⟨fun e => ?_, hd⟩
          subst e
          have hj' : ¬ j < σ.length := fun h => hj ⟨rfl, h⟩
          have : σ.at j = .no := by unfold VS.at; rw [List.getD_eq_getElem?_getD, List.getElem?_eq_none (by omega)]; rfl
          rw [this] at hd; cases hd
      cases q with
      | acc ds₀ =>
        obtain ⟨l, vs, k, rfl, c1, c2, c3, c4, c5⟩ := hq
        refine ⟨fun j => if j = i then l else al j, ?_, ?_⟩
        · intro j z ds hz hd
          rcases dead j ds hd with ⟨rfl, _, e⟩ | ⟨hji, hd⟩
          · cases e
            rw [hx] at hz; cases hz
            simp only [if_true]
            exact ⟨vs, k, hh, hl _ _ c4 c5 c1, c2, c3, c4, c5⟩
          · simp only [if_neg hji]
            exact other j z ds hz hji hd
        · intro j j' z z' ds ds' hz hz' hd hd' e
          rcases dead j ds hd with ⟨rfl, _, e1⟩ | ⟨hji, hd⟩
          · rcases dead j' ds' hd' with ⟨rfl, _, e1'⟩ | ⟨hji', hd'⟩
            · rfl
            · simp only [if_true, if_neg hji'] at e
              obtain ⟨_, _, b1, _⟩ := a1 j' z' ds' hz' hd'
              exact absurd (e ▸ b1) (ha j' z' ds' hji' hz' hd')
          · rcases dead j' ds' hd' with ⟨rfl, _, e1'⟩ | ⟨hji', hd'⟩
            · simp only [if_true, if_neg hji] at e
              obtain ⟨_, _, b1, _⟩ := a1 j z ds hz hd
              exact absurd (e ▸ b1) (ha j z ds hji hz hd)
            · simp only [if_neg hji, if_neg hji'] at e
              exact a2 j j' z z' ds ds' hz hz' hd hd' e
      | no =>
        refine ⟨al, fun j z ds hz hd => ?_, fun j j' z z' ds ds' hz hz' hd hd' e => ?_⟩
        · rcases dead j ds hd with ⟨_, _, e⟩ | ⟨hji, hd⟩
          · cases e
          · exact other j z ds hz hji hd
        · rcases dead j ds hd with ⟨_, _, e⟩ | ⟨hji, hd⟩
          · cases e
          · rcases dead j' ds' hd' with ⟨_, _, e⟩ | ⟨hji', hd'⟩
            · cases e
            · exact a2 j j' z z' ds ds' hz hz' hd hd' e
      | val d =>
        refine ⟨al, fun j z ds hz hd => ?_, fun j j' z z' ds ds' hz hz' hd hd' e => ?_⟩
        · rcases dead j ds hd with ⟨_, _, e⟩ | ⟨hji, hd⟩
          · cases e
          · exact other j z ds hz hji hd
        · rcases dead j ds hd with ⟨_, _, e⟩ | ⟨hji, hd⟩
          · cases e
          · rcases dead j' ds' hd' with ⟨_, _, e⟩ | ⟨hji', hd'⟩
            · cases e
            · exact a2 j j' z z' ds ds' hz hz' hd hd' e
  rcases y.st x hm with hl | ⟨hl, c, hc, fc⟩
  · refine wpAny_storeName_local hl hns (fun h' hn' hs' => h _ (key env.locals h' _ y.offL hs' (Nat.le_succ _) ⟨_, hn'⟩ ?_ (.inl ⟨hl, _, hn', if_pos rfl⟩) ?_ ?_)) (by rw [y.envOk.fn]; rfl)
    · intro z c e
      obtain ⟨h1, u, h2⟩ := y.cells z c e
      exact ⟨u, h2.sameBut hs' h1⟩
    · intro z u hzx hz
      rcases hz with ⟨a, m', hm', e⟩ | ⟨a, c, e, hcell⟩
      · refine .inl ⟨a, _, hn', ?_⟩
        show (if z = x then some v else m z) = some u
        rw [if_neg hzx, ns_one hns hm' z]; exact e
      · exact .inr ⟨a, c, e, hcell.sameBut hs' (y.cells z c e).1⟩
    · exact fun l o hl _ e => hs'.extBut l o hl e
  · obtain ⟨hcl, u₀, hcell⟩ := y.cells x c hc
    refine wpAny_storeName_cell y.envOk.fn hl hc hcell fun h' hc' hs' => h _ (key c h' _ fc hs' (Nat.le_refl _) ⟨_, hns.sameBut hs' hcl.symm⟩ ?_ (.inr ⟨.inl hl, c, hc, hc'⟩) ?_ ?_)
    · intro z c' e
      by_cases hz : c' = c
      · subst hz; exact ⟨_, hc'⟩
      · obtain ⟨h1, u, h2⟩ := y.cells z c' e
        exact ⟨u, h2.sameBut hs' hz⟩
    · intro z u hzx hz
      rcases hz with ⟨a, m', hm', e⟩ | ⟨a, c', e, hcell⟩
      · exact .inl ⟨a, _, hm'.sameBut hs' hcl.symm, e⟩
      · exact .inr ⟨a, c', e, hcell.sameBut hs' fun q => hzx (y.apart x hm z c hc (q ▸ e))⟩
    · exact fun l o _ h2 e => hs'.extBut l o (fun q => h2 x c hc q.symm) e
end
end Mine

end -- S1

section -- S2
namespace Mine
open PySem PySem.W PyProof.Rows
set_option maxRecDepth 100000

inductive Out where
  | next (σ : VS)
  | ret (d : Dat)

def SEnd (gs : Bool) (sc : Scope) (nm mu : List Str) (n : Nat) (A : Around) (env : Env) (s₀ : Shared) (B : BP) (F : FL) (o : Out) (fl : Flow) (s' : Shared) : Prop := match o with
  | .next σ' => fl = .next ∧ ∃ G, NewB B G ∧ Fm gs sc nm mu n A env s₀ B s' (G ++ F) σ'
  | .ret d => ∃ v G, fl = .ret v ∧ NewB B G ∧ Has s'.heap (G ++ F) ∧ DatIn (G ++ F) v d ∧ KeepB B s'.heap ∧ Rest gs s₀ s' ∧ 1 ≤ s'.toks
def CX (gs : Bool) (sc : Scope) (nm mu : List Str) (n : Nat) (st : Stmt) (f : VS → Option Out) : Prop :=
  ∀ (prog : Program) (w : World) (A : Around) (env : Env) (s₀ : Shared) (B : BP) (s : Shared) (F : FL) (σ : VS) (o : Out), Fm gs sc nm mu n A env s₀ B s F σ → f σ = some o →
    wpAny (model prog w) A (exec st env) (SEnd gs sc nm mu n A env s₀ B F o) (fun _ _ => False) s
def CS (gs : Bool) (sc : Scope) (nm mu : List Str) (n : Nat) (b : List Stmt) (f : VS → Option Out) : Prop :=
  ∀ (prog : Program) (w : World) (A : Around) (env : Env) (s₀ : Shared) (B : BP) (s : Shared) (F : FL) (σ : VS) (o : Out), Fm gs sc nm mu n A env s₀ B s F σ → f σ = some o →
    wpAny (model prog w) A (execs b env) (SEnd gs sc nm mu n A env s₀ B F o) (fun _ _ => False) s

def Out.go (o : Option Out) (g : VS → Option Out) : Option Out := match o with
  | some (.next σ) => g σ
  | some (.ret d) => some (.ret d)
  | none => none

section
variable {gs : Bool} {sc : Scope} {nm mu : List Str} {n : Nat} {prog : Program} {w : World} {A : Around} {env : Env} {s₀ s : Shared} {B : BP} {F G : FL} {σ : VS}

theorem SEnd.more {o : Out} {fl : Flow} {s' : Shared} (x : SEnd gs sc nm mu n A env s₀ B (G ++ F) o fl s') (g : NewB B G) : SEnd gs sc nm mu n A env s₀ B F o fl s' := by
  cases o with
  | next σ' =>
    obtain ⟨rfl, G', n', f⟩ := x
    exact ⟨rfl, G' ++ G, n'.append g, by rw [List.append_assoc]; exact f⟩
  | ret d =>
    obtain ⟨v, G', rfl, n', a, b, c⟩ := x
    exact ⟨v, G' ++ G, rfl, n'.append g, by rw [List.append_assoc]; exact a, by rw [List.append_assoc]; exact b, c⟩

theorem Fm.eval {e : Expr} {f : VS → Option Dat} (y : Fm gs sc nm mu n A env s₀ B s F σ) (x : CE sc nm n e f) {d : Dat} (hd : f σ = some d) {Q : Value → Shared → Prop} {E : Value → Shared → Prop}
    (h : ∀ v s' G, Keeps s s' → New s s' G → NewB B G → Fm gs sc nm mu n A env s₀ B s' (G ++ F) σ → DatIn (G ++ F) v d → Q v s') : wpAny (model prog w) A (PySem.eval e env) Q E s := by
  refine wpAny_mono (wpAny_toks (x prog w A env s F σ d y.at hd)) (fun v s' z => ?_) fun _ _ z => z.2.elim
  obtain ⟨t, k, G, g, dd⟩ := z
  exact h v s' G k g (.of_new y.keep g) (y.keeps k g t) dd
theorem Fm.test {e : Expr} {f : VS → Option Bool} (y : Fm gs sc nm mu n A env s₀ B s F σ) (x : CT sc nm n e f) {b : Bool} (hd : f σ = some b) {Q : Bool → Shared → Prop} {E : Value → Shared → Prop}
    (h : ∀ s', Fm gs sc nm mu n A env s₀ B s' F σ → Q b s') : wpAny (model prog w) A (isTrue e env (PySem.eval e env)) Q E s := by
  refine wpAny_mono (wpAny_toks (x prog w A env s F σ b y.at hd)) (fun c s' z => ?_) fun _ _ z => z.2.elim
  obtain ⟨t, rfl, k⟩ := z
  exact h s' (y.keeps (G := []) k (.nil _ _) t)

theorem CS.nil : CS gs sc nm mu n [] (fun σ => some (.next σ)) := by
  intro prog w A env s₀ B s F σ o y ho
  cases ho
  exact wpAny_execs_nil ⟨rfl, [], .nil _, y⟩
theorem CS.cons {st : Stmt} {b : List Stmt} {f g : VS → Option Out} (h1 : CX gs sc nm mu n st f) (h2 : CS gs sc nm mu n b g) : CS gs sc nm mu n (st :: b) (fun σ => Out.go (f σ) g) := by
  intro prog w A env s₀ B s F σ o y ho
  replace ho : Out.go (f σ) g = some o := ho
  refine wpAny_execs_cons ?_
  cases hf : f σ with
  | none => rw [hf] at ho; cases ho
  | some o₁ =>
    rw [hf] at ho
    refine wpAny_mono (h1 prog w A env s₀ B s F σ o₁ y hf) (fun fl s' z => ?_) fun _ _ z => z
    cases o₁ with
    | next σ' =>
      obtain ⟨rfl, G, g, y'⟩ := z
      exact wpAny_mono (h2 prog w A env s₀ B s' _ σ' o y' ho) (fun fl s'' z => z.more g) fun _ _ z => z
    | ret d =>
      cases ho
      obtain ⟨v, G, rfl, r⟩ := z
      exact ⟨v, G, rfl, r⟩
theorem CX.assign (i : Nat) {x : Str} {e : Expr} {p pos : Pos} {f : VS → Option Dat} (he : CE sc nm n e f) (hx : nm[i]? = some x) (hm : x ∈ mu) (hnd : nm.Nodup)
    (hs : ∀ env, swapsWith e (some (.Name x p)) pos.line env = pure false) : CX gs sc nm mu n (.Assign [.Name x p] e pos) (fun σ => (f σ).map fun d => .next (σ.set i (.val d))) := by
  intro prog w A env s₀ B s F σ o y ho
  obtain ⟨d, hd, rfl⟩ := Option.map_eq_some_iff.mp ho
  refine wpAny_Assign_Name (y.eval he hd fun v s₁ G k g nb y₁ dd => ?_) (hs env)
  exact y₁.store hx hm hnd (q := .val d) dd trivial fun s₂ y₂ => ⟨rfl, G, nb, y₂⟩
theorem CX.ret {e : Expr} {pos : Pos} {f : VS → Option Dat} (he : CE sc nm n e f) : CX gs sc nm mu n (.Return (some e) pos) (fun σ => (f σ).map .ret) := by
  intro prog w A env s₀ B s F σ o y ho
  obtain ⟨d, hd, rfl⟩ := Option.map_eq_some_iff.mp ho
  refine wpAny_Return_some (y.eval he hd fun v s₁ G k g nb y₁ dd => ?_)
  exact ⟨v, G, rfl, nb, y₁.has, dd, y₁.keep, y₁.rest, y₁.tok⟩
theorem CE.false_ {k : Nat} {p : Pos} {b : Bool} : CE sc nm n (.Constant (.bool b) k p) (fun _ => some (.bool b)) := by
  intro prog w A env s F σ d a hd
  cases hd
  exact wpAny_pure (ends_val0 (.bool _))
theorem CE.none_ {k : Nat} {p : Pos} : CE sc nm n (.Constant .none k p) (fun _ => some .none) := by
  intro prog w A env s F σ d a hd
  cases hd
  exact wpAny_pure (ends_val0 .none)
theorem CX.if_ {t : Expr} {b e : List Stmt} {pos : Pos} {ft : VS → Option Bool} {fb fe : VS → Option Out} (ht : CT sc nm n t ft) (hb : CS gs sc nm mu n b fb) (he : CS gs sc nm mu n e fe) :
    CX gs sc nm mu n (.If t b e pos) (fun σ => (ft σ).bind fun c => bif c then fb σ else fe σ) := by
  intro prog w A env s₀ B s F σ o y ho
  obtain ⟨c, hc, ho⟩ := Option.bind_eq_some_iff.mp ho
  refine wpAny_If (y.test ht hc fun s₁ y₁ => ?_)
  cases c with
  | true => exact hb prog w A env s₀ B s₁ F σ o y₁ ho
  | false => exact he prog w A env s₀ B s₁ F σ o y₁ ho

/-- a list that is filled is a value from here on -/
def fz (i : Nat) (σ : VS) : VS := match σ.at i with
  | .acc ds => σ.set i (.val (.list ds))
  | _ => σ
theorem Fm.freeze (i : Nat) {x : Str} (hx : nm[i]? = some x) (y : Fm gs sc nm mu n A env s₀ B s F σ) : ∃ G, NewB B G ∧ Fm gs sc nm mu n A env s₀ B s (G ++ F) (fz i σ) := by
  unfold fz
  split
  · rename_i ds hd
    obtain ⟨al, a1, a2⟩ := y.accs
    obtain ⟨vs, k, b1, b2, b3, b4, b5, b6⟩ := a1 i x ds hx hd
    have hlen : i < σ.length := by
      apply Classical.byContradiction
      intro h
      have : σ.at i = .no := by unfold VS.at; rw [List.getD_eq_getElem?_getD, List.getElem?_eq_none (by omega)]; rfl
      rw [this] at hd; cases hd
    have off : ∀ {a : Addr}, Off B F a → a ≠ al i → Off B ([(al i, listOf vs.toArray k)] ++ F) a := fun {a} fa ha => ⟨fa.1, fun o h => by
      rcases List.mem_cons.mp h with h | h
      · exact ha (Prod.mk.inj h).1
      · exact fa.2 o h⟩
    refine ⟨[(al i, listOf vs.toArray k)], ?_, y.envOk, y.ok, y.tb, ?_, ?_, y.tok, y.rest, y.keep, y.ns, off y.offL b5.symm, y.cells, y.apart, ?_, ?_, al, ?_, ?_⟩
    · intro p hp o hb
      cases List.mem_singleton.mp hp
      exact b4.1 o hb
    · intro p hp
      rcases List.mem_cons.mp hp with h | h
      · cases h; exact b2
      · exact y.has p h
    · intro j z d hz hdj
      unfold VS.get at hdj
      rw [at_set] at hdj
      by_cases hj : i = j ∧ j < σ.length
      · rw [if_pos hj] at hdj
        cases hdj
        obtain ⟨rfl, _⟩ := hj
        rw [hx] at hz; cases hz
        exact ⟨_, b1, .list (List.mem_cons_self) (dats_more b3)⟩
      · rw [if_neg hj] at hdj
        obtain ⟨u, h1, h2⟩ := y.sees j z d hz hdj
        exact ⟨u, h1, dat_more h2⟩
    · intro z hz
      rcases y.st z hz with h | ⟨h, c, e, f⟩
      · exact .inl h
      · exact .inr ⟨h, c, e, off f (b6 z c e)⟩
    · intro j z es hz hdj hn
      rw [at_set] at hdj
      split at hdj
      · cases hdj
      · exact y.lim j z es hz hdj hn
    · intro j z ds' hz hdj
      rw [at_set] at hdj
      by_cases hj : i = j ∧ j < σ.length
      · rw [if_pos hj] at hdj; cases hdj
      · rw [if_neg hj] at hdj
        have hij : j ≠ i := fun e => hj ⟨e.symm, e ▸ hlen⟩
        obtain ⟨vs', k', c1, c2, c3, c4, c5⟩ := a1 j z ds' hz hdj
        exact ⟨vs', k', c1, c2, dats_more c3, off c4 (fun e => hij (a2 j i z x ds' ds hz hx hdj hd e)), c5⟩
    · intro j j' z z' ds' ds'' hz hz' hd' hd'' e
      rw [at_set] at hd' hd''
      split at hd'
      · cases hd'
      · split at hd''
        · cases hd''
        · exact a2 j j' z z' ds' ds'' hz hz' hd' hd'' e
  · exact ⟨[], .nil _, y⟩
theorem CS.freeze (i : Nat) {x : Str} {b : List Stmt} {f : VS → Option Out} (hx : nm[i]? = some x) (h : CS gs sc nm mu n b f) : CS gs sc nm mu n b (fun σ => f (fz i σ)) := by
  intro prog w A env s₀ B s F σ o y ho
  obtain ⟨G, g, y'⟩ := y.freeze i hx
  exact wpAny_mono (h prog w A env s₀ B s _ _ o y' ho) (fun fl s' z => z.more g) fun _ _ z => z

theorem Fm.dead (y : Fm gs sc nm mu n A env s₀ B s F σ) {a : Addr} (ha : s.heap.get? a = none) : Off B F a :=
  ⟨fun o h => (by
    have := y.keep a o h
    rw [ha] at this
    cases this), fun o h => (by
    have := y.has _ h
    rw [ha] at this
    cases this)⟩
theorem size_none (h : Heap) : h.get? h.objs.size = none := by
  cases e : h.get? h.objs.size with
  | none => rfl
  | some o => exact absurd (Heap.lt_size e) (Nat.lt_irrefl _)
theorem push_none {h : Heap} {a : Addr} {o o' : Obj} (ha : a ≠ h.objs.size) (e : (h.push o).get? a = some o') : h.get? a = some o' := by
  have hlt := Heap.lt_size e
  rw [Heap.size_push] at hlt
  have : a < h.objs.size := Nat.lt_of_le_of_ne (Nat.le_of_lt_succ hlt) ha
  rw [← e]
  simp only [Heap.get?, Heap.push]
  rw [Array.getElem?_push_lt this]
  simp [this]

theorem Fm.newAcc (y : Fm gs sc nm mu n A env s₀ B s F σ) : Fm gs sc nm mu n A env s₀ B { s with heap := s.heap.push (listOf #[] 0) } F σ ∧ VOk env (s.heap.push (listOf #[] 0)) B F (.ref s.heap.objs.size) (.acc []) ∧
    ∀ i, Apart nm env (s.heap.push (listOf #[] 0)) σ i (.ref s.heap.objs.size) (.acc []) := by
  have y' := y.keeps (G := []) (s' := { s with heap := s.heap.push (listOf #[] 0) }) (keeps_push s (listOf #[] 0) s.toks) (.nil _ _) (Nat.le_refl _)
  have hd := y.dead (size_none s.heap)
  refine ⟨y', ⟨_, [], 0, rfl, Heap.get?_push_size _ rfl, .nil, hd, ?_, ?_⟩, ?_⟩
  · intro e
    obtain ⟨m, hm⟩ := y.ns
    exact absurd hm.lt (by rw [← e]; exact Nat.lt_irrefl _)
  · intro z c hc e
    obtain ⟨_, v, hv⟩ := y.cells z c hc
    exact absurd hv.lt (by rw [e]; exact Nat.lt_irrefl _)
  · intro i j x ds _ hx hdj hh
    obtain ⟨al, a1, _⟩ := y.accs
    obtain ⟨vs, k, b1, b2, _⟩ := a1 j x ds hx hdj
    have := (b1.keeps fun b o e => Heap.get?_push_of_some (listOf #[] 0) e).one hh
    have e : al j = s.heap.objs.size := Value.ref.inj this
    have := Heap.lt_size b2
    rw [e] at this
    exact Nat.lt_irrefl _ this
theorem CX.newAcc (i : Nat) {x : Str} {p p' pos : Pos} (hx : nm[i]? = some x) (hm : x ∈ mu) (hnd : nm.Nodup) : CX gs sc nm mu n (.Assign [.Name x p] (.List [] p') pos) (fun σ => some (.next (σ.set i (.acc [])))) := by
  intro prog w A env s₀ B s F σ o y ho
  cases ho
  refine wpAny_Assign_Name (List_ (args_nil (wpAny_newObj_type ?_ (by show 0 ≤ sizeLine; exact Nat.zero_le _)))) rfl
  obtain ⟨y', v, a⟩ := y.newAcc
  exact y'.store hx hm hnd (q := .acc []) v (a i) fun s₂ y₂ => ⟨rfl, [], .nil _, y₂⟩
end
end Mine

end -- S2

section -- S3
namespace Mine
open PySem PySem.W PyProof.Rows
set_option maxRecDepth 100000

section
variable {gs : Bool} {sc : Scope} {nm mu : List Str} {n : Nat} {prog : Program} {w : World} {A : Around} {env : Env} {s₀ s : Shared} {B : BP} {F G : FL} {σ : VS}

theorem Holds.but {h h' : Heap} {x : Str} {v : Value} {a : Addr} (y : Holds env h x v) (k : Heap.SameBut a h h') (hl : a ≠ env.locals) (hc : ∀ z c, env.cells.lookup z = some c → c ≠ a) : Holds env h' x v := by
  rcases y with ⟨e, m, hn, q⟩ | ⟨e, c, q, hi⟩
  · exact .inl ⟨e, m, hn.sameBut k hl.symm, q⟩
  · exact .inr ⟨e, c, q, hi.sameBut k (hc _ _ q)⟩

theorem Fm.append (i : Nat) {x : Str} {l : Addr} {vs : List Value} {ds : List Dat} {k k' : Nat} {v : Value} {d : Dat} {h' : Heap} (y : Fm gs sc nm mu n A env s₀ B s F σ) (hx : nm[i]? = some x) (hd : σ.at i = .acc ds) (hh : Holds env s.heap x (.ref l))
    (hl : s.heap.get? l = some (listOf vs.toArray k)) (dd : DatIn F v d) (hl' : h'.get? l = some (listOf (vs ++ [v]).toArray k')) (hs : Heap.SameBut l s.heap h') :
    Fm gs sc nm mu n A env s₀ B { s with heap := h' } F (σ.set i (.acc (ds ++ [d]))) := by
  obtain ⟨al, a1, a2⟩ := y.accs
  obtain ⟨vs₀, k₀, b1, b2, b3, b4, b5, b6⟩ := a1 i x ds hx hd
  have hlen : i < σ.length := by
    apply Classical.byContradiction
    intro h
    have : σ.at i = .no := by unfold VS.at; rw [List.getD_eq_getElem?_getD, List.getElem?_eq_none (by omega)]; rfl
    rw [this] at hd; cases hd
  have e : al i = l := Value.ref.inj (b1.one hh)
  rw [e] at b2 b4 b5 b6
  rw [hl] at b2
  have e2 : vs = vs₀ := by
    have := Option.some.inj b2
    injection this with _ _ h3
    injection h3 with h3
    exact congrArg Array.toList h3
  subst e2
  obtain ⟨m, hn⟩ := y.ns
  refine ⟨y.envOk, y.ok, y.tb, y.has.but b4 hs, ?_, y.tok, y.rest.same h' s.toks, y.keep.but b4 hs, ⟨m, hn.sameBut hs b5.symm⟩, y.offL, ?_, y.apart, y.st, ?_, al, ?_, ?_⟩
  · intro j z d' hz hdj
    unfold VS.get at hdj
    rw [at_set] at hdj
    by_cases hj : i = j ∧ j < σ.length
    · rw [if_pos hj] at hdj
      cases hdj
    · rw [if_neg hj] at hdj
      obtain ⟨u, h1, h2⟩ := y.sees j z d' hz hdj
      exact ⟨u, h1.but hs b5 b6, h2⟩
  · intro z c hc
    obtain ⟨h1, u, h2⟩ := y.cells z c hc
    exact ⟨h1, u, h2.sameBut hs (b6 z c hc)⟩
  · intro j z es hz hdj hn
    rw [at_set] at hdj
    by_cases hj : i = j ∧ j < σ.length
    · obtain ⟨rfl, _⟩ := hj
      rw [hx] at hz; cases hz
      obtain ⟨l', e1, e2⟩ := y.lim i x ds hx hd hn
      exact ⟨l', e1, e2.but hs b5 b6⟩
    · rw [if_neg hj] at hdj
      obtain ⟨l', e1, e2⟩ := y.lim j z es hz hdj hn
      exact ⟨l', e1, e2.but hs b5 b6⟩
  · intro j z es hz hdj
    rw [at_set] at hdj
    by_cases hj : i = j ∧ j < σ.length
    · rw [if_pos hj] at hdj
      cases hdj
      obtain ⟨rfl, _⟩ := hj
      rw [hx] at hz; cases hz
      rw [e]
      exact ⟨vs ++ [v], k', hh.but hs b5 b6, hl', b3.append (.cons dd .nil), b4, b5, b6⟩
    · rw [if_neg hj] at hdj
      have hij : j ≠ i := fun q => hj ⟨q.symm, q ▸ hlen⟩
      obtain ⟨vs', kk, c1, c2, c3, c4, c5, c6⟩ := a1 j z es hz hdj
      exact ⟨vs', kk, c1.but hs b5 b6, hs.extBut _ _ (fun q => hij (a2 j i z x es ds hz hx hdj hd (q.trans e.symm))) c2, c3, c4, c5, c6⟩
  · intro j j' z z' es es' hz hz' hd1 hd2 q
    have old : ∀ j es, VS.at (σ.set i (.acc (ds ++ [d]))) j = .acc es → ∃ es', σ.at j = .acc es' := by
      intro j es hj
      rw [at_set] at hj
      split at hj
      · rename_i hq; exact ⟨ds, hq.1 ▸ hd⟩
      · exact ⟨es, hj⟩
    obtain ⟨f1, g1⟩ := old _ _ hd1
    obtain ⟨f2, g2⟩ := old _ _ hd2
    exact a2 j j' z z' f1 f2 hz hz' g1 g2 q

theorem CX.append (i : Nat) {x : Str} {e : Expr} {p apos pos spos : Pos} {f : VS → Option Dat} (he : CE sc nm n e f) (hx : nm[i]? = some x) (h1 : (x == ("__debug__" : Str)) = false) (h2 : (x == ("__classdict__" : Str)) = false) (hp : Plain [e])
    (hb : ∀ env, attributeBase (.Name x p) "append" env (PySem.eval (.Name x p) env) = PySem.eval (.Name x p) env) (hline : (apos.endLine == pos.line) = true) (hsw : ∀ env, swapsWith (.Call (.Attribute (.Name x p) "append" apos) [e] [] pos) none spos.line env = pure false) :
    CX gs sc nm mu n (.Expr (.Call (.Attribute (.Name x p) "append" apos) [e] [] pos) spos) (fun σ => match σ.at i with
      | .acc ds => if ds.length ≤ 1000000 then (f σ).map fun d => .next (σ.set i (.acc (ds ++ [d]))) else none
      | _ => none) := by
  intro prog w A env s₀ B s F σ o y ho
  dsimp only at ho
  split at ho
  · rename_i ds hds
    split at ho
    · rename_i hsz
      obtain ⟨d, hd, rfl⟩ := Option.map_eq_some_iff.mp ho
      have hi : interactive env = false := by
        unfold interactive
        rw [y.envOk.fn]
        rfl
      obtain ⟨al, a1, a2⟩ := y.accs
      obtain ⟨vs, k, b1, b2, b3, b4, b5, b6⟩ := a1 i x ds hx hds
      refine wpAny_Expr ?_ hi (hsw env)
      refine wpAny_Call_method_lateS (hb env) (by rw [hp.all]; rfl) hline (load_holds y.envOk b1 ?_ h1 h2)
      refine ⟨"list", "list.append", PySem.F.plainAttrs_list, PySem.F.slot_list_append, PySem.F.type_list_append, ⟨_, b2, rfl⟩, (fun a e => by cases e; exact ⟨_, b2, rfl⟩), ?_⟩
      refine Calls.callWith_builtin (by rw [hp.all]; rfl) (evalArgs_trees hp (args_cons (y.eval he hd fun v s₁ G kk g nb y₁ dd => args_nil ?_) (hp env)))
      have b2' := keeps_get kk _ _ b2
      refine wpAny_list_append_plain (items := vs.toArray) ⟨k, b2'⟩ (fun h' hl' hs' => ?_) (by rw [List.size_toArray, b3.length, sizeLine_eq]; omega)
      obtain ⟨k', hl'⟩ := hl'
      refine ⟨rfl, G, nb, y₁.append i hx hds (b1.keeps (keeps_get kk)) b2' dd (k' := k') ?_ hs'⟩
      rw [hl']
      simp
    · cases ho
  · cases ho

/-- the target takes a value -/
def CA (nm mu : List Str) (tgt : Expr) (g : VS → Dat → Option VS) : Prop :=
  ∀ {gs : Bool} {sc : Scope} {n : Nat} {prog : Program} {w : World} {A : Around} {env : Env} {s₀ s : Shared} {B : BP} {F : FL} {σ σ' : VS} {v : Value} {d : Dat} {Q : Unit → Shared → Prop} {E : Value → Shared → Prop},
    Fm gs sc nm mu n A env s₀ B s F σ → DatIn F v d → g σ d = some σ' → (∀ s', Fm gs sc nm mu n A env s₀ B s' F σ' → Q () s') → wpAny (model prog w) A (assign tgt env v) Q E s
def tgN (i : Nat) (σ : VS) (d : Dat) : Option VS := some (σ.set i (.val d))
def tgP (i j : Nat) (σ : VS) (d : Dat) : Option VS := match d with | .tuple [a, b] => some ((σ.set i (.val a)).set j (.val b)) | _ => none
theorem CA.name (i : Nat) {x : Str} {p : Pos} (hx : nm[i]? = some x) (hm : x ∈ mu) (hnd : nm.Nodup) : CA nm mu (.Name x p) (tgN i) := by
  intro gs sc n prog w A env s₀ s B F σ σ' v d Q E y dd hg h
  cases hg
  exact wpAny_assign_Name (y.store hx hm hnd (q := .val d) dd trivial h)
theorem CA.pair (i j : Nat) {x y : Str} {p q p' : Pos} {k : Nat} (hx : nm[i]? = some x) (hy : nm[j]? = some y) (hm : x ∈ mu) (hm' : y ∈ mu) (hnd : nm.Nodup) :
    CA nm mu (.Tuple [.Name x p, .Name y q] k p') (tgP i j) := by
  intro gs sc n prog w A env s₀ s B F σ σ' v d Q E fm dd hg h
  unfold tgP at hg
  split at hg
  · rename_i a b
    cases hg
    cases dd with
    | tuple hmem r =>
      cases r with
      | cons r1 r =>
        cases r with
        | cons r2 r =>
          cases r
          rename_i t n v1 v2
          have hT : s.heap.IsTuple t #[v1, v2] := ⟨_, fm.has _ hmem, rfl, _, rfl⟩
          refine wpAny_assign_Tuple fm.ok.1 hT rfl rfl fun h₁ hx₁ => ?_
          have k₁ : Keeps s { s with heap := h₁ } := ⟨h₁, s.toks, rfl, fun b o e => hx₁ b o (Nat.ne_of_lt (Heap.lt_size e)) e⟩
          have fm₁ := fm.keeps (G := []) k₁ (.nil _ _) (Nat.le_refl _)
          refine wpAny_bind (wpAny_holding (wpAny_bind (wpAny_standAt (wpAny_bindName (fm₁.store hx hm hnd (q := .val a) r1 trivial fun s₂ fm₂ => ?_)))))
          exact wpAny_bind (wpAny_holding (wpAny_bind (wpAny_standAt (wpAny_bindName (fm₂.store hy hm' hnd (q := .val b) r2 trivial fun s₃ fm₃ => wpAny_pure (h s₃ fm₃))))))
  · cases hg
end
end Mine

end -- S3

section -- S4
namespace Mine
open PySem PySem.W PyProof.Rows
set_option maxRecDepth 100000

/-- what an iterator walks -/
structure Src (prog : Program) (w : World) (A : Around) (tgt : Expr) (it : Value) (wr : List Addr) (St : List Dat → FL → Heap → Prop) : Prop where
  frame : ∀ {ds : List Dat} {F G : FL} {h h' : Heap}, St ds F h → (∀ b ∈ wr, ∀ o, h.get? b = some o → h'.get? b = some o) → St ds (G ++ F) h'
  live : ∀ {ds : List Dat} {F : FL} {h : Heap}, St ds F h → ∀ b ∈ wr, ∃ o, h.get? b = some o
  item : ∀ {d : Dat} {ds : List Dat} {F : FL} {s : Shared} {Q : Value → Shared → Prop} {E : Value → Shared → Prop}, St (d :: ds) F s.heap → Has s.heap F → (∀ b ∈ wr, ∀ o, (b, o) ∉ F) →
    (∀ v h' tk G, St ds (G ++ F) h' → (∀ p ∈ G, h'.get? p.1 = some p.2 ∧ s.heap.get? p.1 = none) → DatIn (G ++ F) v d → (∀ b o, b ∉ wr → s.heap.get? b = some o → h'.get? b = some o) → s.toks ≤ tk → Q v { s with heap := h', toks := tk }) →
    wpAny (model prog w) A (pyNext it) (fun r s₁ => ∃ v, r = some v ∧ wpAny (model prog w) A (letOwnedTupleGo tgt it v) (fun _ s₂ => Q v s₂) E s₁) E s
  done : ∀ {F : FL} {s : Shared} {Q : Shared → Prop} {E : Value → Shared → Prop}, St [] F s.heap → Has s.heap F →
    (∀ h' tk, (∀ b o, b ∉ wr → s.heap.get? b = some o → h'.get? b = some o) → s.toks ≤ tk → Q { s with heap := h', toks := tk }) → wpAny (model prog w) A (pyNext it) (fun r s₁ => r = none ∧ Q s₁) E s
  self : ∀ {ds : List Dat} {F : FL} {s : Shared} {Q : Value → Shared → Prop} {E : Value → Shared → Prop}, St ds F s.heap → Q it s → wpAny (model prog w) A (pyIter it) Q E s

def BW (B : BP) (wr : List Addr) (h : Heap) : BP := fun b o => B b o ∨ (b ∈ wr ∧ h.get? b = some o)
def Live (wr : List Addr) (h : Heap) : Prop := ∀ b ∈ wr, ∃ o, h.get? b = some o
theorem BW.eq {B : BP} {wr : List Addr} {h h' : Heap} (l : Live wr h) (k : KeepB (BW B wr h) h') : BW B wr h' = BW B wr h := by
  funext b o
  refine propext ⟨fun x => ?_, fun x => ?_⟩
  · rcases x with x | ⟨x, e⟩
    · exact .inl x
    · obtain ⟨o', ho⟩ := l b x
      have := k b o' (.inr ⟨x, ho⟩)
      rw [e] at this; cases this
      exact .inr ⟨x, ho⟩
  · rcases x with x | ⟨x, e⟩
    · exact .inl x
    · exact .inr ⟨x, k b o (.inr ⟨x, e⟩)⟩
theorem BW.live {B : BP} {wr : List Addr} {h h' : Heap} (l : Live wr h) (k : KeepB (BW B wr h) h') : Live wr h' := fun b hb => by
  obtain ⟨o, ho⟩ := l b hb
  exact ⟨o, k b o (.inr ⟨hb, ho⟩)⟩
theorem Off.notin {B : BP} {F : FL} {wr : List Addr} {h : Heap} {a : Addr} (l : Live wr h) (x : Off (BW B wr h) F a) : a ∉ wr := fun ha => by
  obtain ⟨o, ho⟩ := l a ha
  exact x.1 o (.inr ⟨ha, ho⟩)
theorem NewB.notin {B : BP} {G : FL} {wr : List Addr} {h : Heap} (l : Live wr h) (x : NewB (BW B wr h) G) : ∀ b ∈ wr, ∀ o, (b, o) ∉ G := fun b hb o hm => by
  obtain ⟨o', ho⟩ := l b hb
  exact x _ hm o' (.inr ⟨hb, ho⟩)
theorem NewB.weak {B : BP} {G : FL} {wr : List Addr} {h : Heap} (x : NewB (BW B wr h) G) : NewB B G := fun p hp o hb => x p hp o (.inl hb)
theorem Off.weak {B : BP} {F : FL} {wr : List Addr} {h : Heap} {a : Addr} (x : Off (BW B wr h) F a) : Off B F a := ⟨fun o hb => x.1 o (.inl hb), x.2⟩

section
variable {gs : Bool} {sc : Scope} {nm mu : List Str} {n : Nat} {prog : Program} {w : World} {A : Around} {env : Env} {s₀ s : Shared} {B : BP} {F G : FL} {σ : VS} {wr : List Addr}

theorem Fm.weak {h : Heap} (y : Fm gs sc nm mu n A env s₀ (BW B wr h) s F σ) (tb : ∃ h₀, Tops h₀ ∧ ∀ b o, h₀.get? b = some o → B b o) : Fm gs sc nm mu n A env s₀ B s F σ := by
  obtain ⟨al, a1, a2⟩ := y.accs
  refine ⟨y.envOk, y.ok, tb, y.has, y.sees, y.tok, y.rest, fun b o hb => y.keep b o (.inl hb), y.ns, y.offL.weak, y.cells, y.apart, ?_, y.lim, al, ?_, a2⟩
  · intro z hz
    rcases y.st z hz with h | ⟨h, c, e, f⟩
    · exact .inl h
    · exact .inr ⟨h, c, e, f.weak⟩
  · intro i x ds hx hd
    obtain ⟨vs, k, b1, b2, b3, b4, b5⟩ := a1 i x ds hx hd
    exact ⟨vs, k, b1, b2, b3, b4.weak, b5⟩
/-- the iterator's objects are relied upon from here on -/
theorem Fm.strong (y : Fm gs sc nm mu n A env s₀ B s F σ) (hl : env.locals ∉ wr) (hc : ∀ z c, env.cells.lookup z = some c → c ∉ wr) (ha : ∀ i x ds, nm[i]? = some x → σ.at i = .acc ds → ∀ l, Holds env s.heap x (.ref l) → l ∉ wr) :
    Fm gs sc nm mu n A env s₀ (BW B wr s.heap) s F σ := by
  have off : ∀ {a : Addr}, Off B F a → a ∉ wr → Off (BW B wr s.heap) F a := fun {a} x h => ⟨fun o hb => by
    rcases hb with hb | ⟨hb, _⟩
    · exact x.1 o hb
    · exact h hb, x.2⟩
  obtain ⟨al, a1, a2⟩ := y.accs
  obtain ⟨h₀, t, tk⟩ := y.tb
  refine ⟨y.envOk, y.ok, ⟨h₀, t, fun b o e => .inl (tk b o e)⟩, y.has, y.sees, y.tok, y.rest, ?_, y.ns, off y.offL hl, y.cells, y.apart, ?_, y.lim, al, ?_, a2⟩
  · intro b o hb
    rcases hb with hb | ⟨_, hb⟩
    · exact y.keep b o hb
    · exact hb
  · intro z hz
    rcases y.st z hz with h | ⟨h, c, e, f⟩
    · exact .inl h
    · exact .inr ⟨h, c, e, off f (hc z c e)⟩
  · intro i x ds hx hd
    obtain ⟨vs, k, b1, b2, b3, b4, b5⟩ := a1 i x ds hx hd
    exact ⟨vs, k, b1, b2, b3, off b4 (ha i x ds hx hd _ b1), b5⟩
/-- the iterator goes on -/
theorem Fm.turn {h' : Heap} {tk : Nat} (y : Fm gs sc nm mu n A env s₀ (BW B wr s.heap) s F σ) (hw : ∀ b ∈ wr, ∀ o, (b, o) ∉ F) (hwB : ∀ b ∈ wr, ∀ o, ¬ B b o) (tb : ∃ h₀, Tops h₀ ∧ ∀ b o, h₀.get? b = some o → B b o) (l : Live wr s.heap) (hc : ∀ z c, env.cells.lookup z = some c → c ∉ wr)
    (g : ∀ p ∈ G, h'.get? p.1 = some p.2 ∧ s.heap.get? p.1 = none) (k : ∀ b o, b ∉ wr → s.heap.get? b = some o → h'.get? b = some o) (ht : s.toks ≤ tk) :
    Fm gs sc nm mu n A env s₀ (BW B wr h') { s with heap := h', toks := tk } (G ++ F) σ := by
  have hl : env.locals ∉ wr := y.offL.notin l
  obtain ⟨m, hn⟩ := y.ns
  have hol : ∀ {x : Str} {v : Value}, Holds env s.heap x v → Holds env h' x v := by
    intro x v q
    rcases q with ⟨e, m', hm', q⟩ | ⟨e, c, q, o, ho, hd⟩
    · obtain ⟨o, es, ep, ho, r⟩ := hm'
      exact .inl ⟨e, m', ⟨o, es, ep, k _ _ hl ho, r⟩, q⟩
    · exact .inr ⟨e, c, q, o, k _ _ (hc _ _ q) ho, hd⟩
  have gF : ∀ {a : Addr} {o : Obj}, Off (BW B wr s.heap) F a → s.heap.get? a = some o → Off (BW B wr h') (G ++ F) a := by
    intro a o x ha
    refine ⟨fun o' hb => ?_, fun o' hm => ?_⟩
    · rcases hb with hb | ⟨hb, _⟩
      · exact x.1 o' (.inl hb)
      · exact x.notin l hb
    · rcases List.mem_append.mp hm with h | h
      · have := (g _ h).2; rw [ha] at this; cases this
      · exact x.2 o' h
  obtain ⟨al, a1, a2⟩ := y.accs
  obtain ⟨h₀, t, tt⟩ := tb
  refine ⟨y.envOk, y.ok, ⟨h₀, t, fun b o e => .inl (tt b o e)⟩, ?_, ?_, Nat.le_trans y.tok ht, y.rest.same h' tk, ?_, ?_, ?_, ?_, y.apart, ?_, fun i x ds h1 h2 h3 => (let ⟨l, e1, e2⟩ := y.lim i x ds h1 h2 h3; ⟨l, e1, hol e2⟩), al, ?_, a2⟩
  · intro p hp
    rcases List.mem_append.mp hp with h | h
    · exact (g p h).1
    · exact k _ _ (fun q => hw _ q p.2 h) (y.has p h)
  · intro i x d hx hd
    obtain ⟨v, h1, h2⟩ := y.sees i x d hx hd
    exact ⟨v, hol h1, dat_more h2⟩
  · intro b o hb
    rcases hb with hb | ⟨_, hb⟩
    · exact k b o (fun q => hwB b q o hb) (y.keep b o (.inl hb))
    · exact hb
  · obtain ⟨o, es, ep, ho, r⟩ := hn
    exact ⟨m, o, es, ep, k _ _ hl ho, r⟩
  · obtain ⟨o, es, ep, ho, r⟩ := hn
    exact gF y.offL ho
  · intro z c e
    obtain ⟨h1, v, o, ho, hd⟩ := y.cells z c e
    exact ⟨h1, v, o, k _ _ (hc z c e) ho, hd⟩
  · intro z hz
    rcases y.st z hz with h | ⟨h, c, e, f⟩
    · exact .inl h
    · obtain ⟨_, v, o, ho, _⟩ := y.cells z c e
      exact .inr ⟨h, c, e, gF f ho⟩
  · intro i x ds hx hd
    obtain ⟨vs, kk, b1, b2, b3, b4, b5⟩ := a1 i x ds hx hd
    exact ⟨vs, kk, hol b1, k _ _ (b4.notin l) b2, dats_more b3, gF b4 b2, b5⟩

def loopF (tg : VS → Dat → Option VS) (body : VS → Option Out) : List Dat → VS → Option Out
  | [], σ => some (.next σ)
  | d :: ds, σ => match tg σ d with
    | none => none
    | some σ₁ => Out.go (body σ₁) (loopF tg body ds)

/-- the loop's own state -/
structure LoopAt (gs : Bool) (sc : Scope) (nm mu : List Str) (n : Nat) (A : Around) (env : Env) (s₀ : Shared) (B : BP) (wr : List Addr) (St : List Dat → FL → Heap → Prop) (F : FL) (ds : List Dat) (s : Shared) (G : FL) (σ : VS) : Prop where
  fm : Fm gs sc nm mu n A env s₀ (BW B wr s.heap) s (G ++ F) σ
  new : NewB B G
  st : St ds (G ++ F) s.heap
  off : ∀ b ∈ wr, ∀ o, (b, o) ∉ G ++ F

theorem for_turns {tgt : Expr} {body : List Stmt} {it : Value} {St : List Dat → FL → Heap → Prop} {tg : VS → Dat → Option VS} {fb : VS → Option Out} {o : Out} {R : Result → Shared → Prop} (S : Src prog w A tgt it wr St) (ht : CA nm mu tgt tg) (hb : CS gs sc nm mu n body fb)
    (hwB : ∀ b ∈ wr, ∀ o, ¬ B b o) (tb : ∃ h₀, Tops h₀ ∧ ∀ b o, h₀.get? b = some o → B b o) (hc : ∀ z c, env.cells.lookup z = some c → c ∉ wr)
    (hR : ∀ fl s', SEnd gs sc nm mu n A env s₀ B F o fl s' → R (.ok fl) s') {ds : List Dat} (x : LoopAt gs sc nm mu n A env s₀ B wr St F ds s G σ) (ho : loopF tg fb ds σ = some o) :
    codeAny (model prog w) A (.forLoop tgt it body [] env) R s := by
  refine codeAny_forLoop_any (fun k s' => ∃ ds G σ, LoopAt gs sc nm mu n A env s₀ B wr St F ds s' G σ ∧ loopF tg fb ds σ = some o ∧ k = ds.length) ?_ ds.length ⟨ds, G, σ, x, ho, rfl⟩
  rintro k s ⟨ds, G, σ, x, ho, rfl⟩
  have lv : Live wr s.heap := S.live x.st
  cases ds with
  | nil =>
    cases ho
    refine wpAny_mono (S.done (Q := fun s' => R (.ok .next) s') x.st x.fm.has fun h' tk kk tt => hR _ _ ⟨rfl, G, x.new, ?_⟩) (fun r s₁ z => ?_) fun _ _ z => z
    · exact (x.fm.turn (G := []) x.off hwB tb lv hc (fun _ h => nomatch h) kk tt).weak tb
    · obtain ⟨rfl, z⟩ := z
      exact wpAny_execs_nil z
  | cons d ds =>
    have ho : (match tg σ d with | none => none | some σ₁ => Out.go (fb σ₁) (loopF tg fb ds)) = some o := ho
    split at ho
    · cases ho
    · rename_i σ₁ hσ₁
      refine wpAny_mono (S.item (Q := fun v s₂ => wpAny (model prog w) A (assign tgt env v) (fun _ s₂ => wpAny (model prog w) A (execs body env) (fun f s₃ => match f with
            | .next | .cont => ∃ m, m < (d :: ds).length ∧ ∃ ds G σ, LoopAt gs sc nm mu n A env s₀ B wr St F ds s₃ G σ ∧ loopF tg fb ds σ = some o ∧ m = ds.length
            | .brk => R (.ok .next) s₃
            | .ret v => R (.ok (.ret v)) s₃) (notedBy (model prog w) A env fun e s' => R (.error e) s') s₂) (notedBy (model prog w) A env fun e s' => R (.error e) s') s₂) x.st x.fm.has x.off fun v h' tk G₁ st₁ g₁ dd k₁ t₁ => ?_) (fun r s₁ z => ?_) fun _ _ z => z
      · have y₁ := x.fm.turn (G := G₁) (tk := tk) x.off hwB tb lv hc g₁ k₁ t₁
        have lv₁ : Live wr h' := S.live st₁
        have nb₁ : NewB B (G₁ ++ G) := NewB.append (fun p hp o hb => by
          have := x.fm.keep _ _ (.inl hb)
          rw [(g₁ p hp).2] at this; cases this) x.new
        have off₁ : ∀ b ∈ wr, ∀ o, (b, o) ∉ G₁ ++ (G ++ F) := fun b hb o hm => by
          rcases List.mem_append.mp hm with h | h
          · obtain ⟨o', ho'⟩ := lv b hb
            have := (g₁ _ h).2
            rw [ho'] at this; cases this
          · exact x.off b hb o h
        refine ht y₁ dd hσ₁ fun s₂ y₂ => ?_
        have st₂ : St ds (G₁ ++ (G ++ F)) s₂.heap := S.frame (G := []) st₁ fun b hb o e => y₂.keep b o (.inr ⟨hb, e⟩)
        have lv₂ : Live wr s₂.heap := S.live st₂
        rw [← BW.eq lv₁ y₂.keep] at y₂
        cases hf : fb σ₁ with
        | none => rw [hf] at ho; cases ho
        | some o₁ =>
          rw [hf] at ho
          refine wpAny_mono (hb prog w A env s₀ _ s₂ _ σ₁ o₁ y₂ hf) (fun f s₃ z => ?_) fun _ _ z => z.elim
          cases o₁ with
          | next σ₂ =>
            obtain ⟨rfl, G₂, nb₂, y₃⟩ := z
            refine ⟨ds.length, Nat.lt_succ_self _, ds, G₂ ++ (G₁ ++ G), σ₂, ⟨?_, nb₂.weak.append nb₁, ?_, ?_⟩, ho, rfl⟩
            · rw [BW.eq lv₂ y₃.keep]
              simpa only [List.append_assoc] using y₃
            · have := S.frame (G := G₂) st₂ (h' := s₃.heap) fun b hb o e => y₃.keep b o (.inr ⟨hb, e⟩)
              simpa only [List.append_assoc] using this
            · intro b hb o hm
              have hm : (b, o) ∈ G₂ ++ (G₁ ++ (G ++ F)) := by simpa only [List.append_assoc] using hm
              rcases List.mem_append.mp hm with h | h
              · exact nb₂.notin lv₂ b hb o h
              · exact off₁ b hb o h
          | ret d' =>
            cases ho
            obtain ⟨v', G₂, rfl, nb₂, h1, h2, h3, h4⟩ := z
            refine hR _ _ ⟨v', G₂ ++ (G₁ ++ G), rfl, nb₂.weak.append nb₁, ?_, ?_, fun b o hb => h3 b o (.inl hb), h4⟩
            · simpa only [List.append_assoc] using h1
            · simpa only [List.append_assoc] using h2
      · obtain ⟨v, rfl, z⟩ := z
        exact z
end
end Mine

end -- S4

section -- S5
namespace Mine
open PySem PySem.W PyProof.Rows
set_option maxRecDepth 100000

section
variable {prog : Program} {w : World} {A : Around} {E : Value → Shared → Prop} {s : Shared}

theorem lotg_quiet {tgt : Expr} {I : Addr} {v : Value} {o : Obj} {T : String} {Q : Unit → Shared → Prop} (ho : s.heap.get? I = some o) (hc : o.cls = .type T)
    (hT : ["enumerate", "zip", "dict_itemiterator", "dict_reverseitemiterator", "odict_iterator", "itertools.zip_longest", "itertools.pairwise"].contains T = false) (h : Q () s) :
    wpAny (model prog w) A (letOwnedTupleGo tgt (.ref I) v) Q E s := by
  have key : wpAny (model prog w) A (do
    let (.ref r, .ref a) := ((.ref I : Value), v) | return
    let o ← load r
    match o.cls, o.data with
    | .type n, .fields vs =>
      if ["enumerate", "zip", "dict_itemiterator", "dict_reverseitemiterator", "odict_iterator", "itertools.zip_longest", "itertools.pairwise"].contains n && vs[0]? == some (rawInt a) then
        rule "for.unpacks-the-owned-tuple"
        updateField r 0 .none
    | _, _ => pure () : Sem Unit) Q E s := by
    cases v with
    | ref a =>
      refine wpAny_bind (wpAny_load ho ?_)
      rw [hc]
      cases o.data with
      | fields vs =>
        dsimp only
        rw [hT, Bool.false_and]
        exact wpAny_pure h
      | _ => exact wpAny_pure h
    | _ => exact wpAny_pure h
  unfold letOwnedTupleGo
  split
  · exact key
  · exact key
  · exact wpAny_pure h

theorem drop_cons' {α : Type} {l r : List α} {i : Nat} {a : α} (h : l.drop i = a :: r) : l[i]? = some a ∧ l.drop (i + 1) = r := by
  constructor
  · have := List.getElem?_drop (xs := l) (i := i) (j := 0)
    rw [h] at this
    simpa using this.symm
  · rw [← List.tail_drop, h]; rfl

def listSt (I ax : Addr) (ds : List Dat) (F : FL) (h : Heap) : Prop := ∃ (i : Nat) (vs : List Value) (k : Nat), h.IsListIter I ax i ∧ (ax, listOf vs.toArray k) ∈ F ∧ DatAll F (vs.drop i) ds
theorem Src.list (hA : A.handled = none) (tgt : Expr) (I ax : Addr) : Src prog w A tgt (.ref I) [I] (listSt I ax) where
  frame := by
    rintro ds F G h h' ⟨i, vs, k, hi, hm, hd⟩ hk
    exact ⟨i, vs, k, hi.at fun o e => hk I (List.mem_singleton.mpr rfl) o e, List.mem_append_right _ hm, dats_more hd⟩
  live := by
    rintro ds F h ⟨i, vs, k, ⟨o, ho, _⟩, hm, hd⟩ b hb
    cases List.mem_singleton.mp hb
    exact ⟨o, ho⟩
  item := by
    rintro d ds F s Q E ⟨i, vs, k, hi, hm, hd⟩ hF hoff h
    generalize hr : vs.drop i = r at hd
    cases hd with
    | cons h1 h2 =>
      rename_i v r
      obtain ⟨e1, e2⟩ := drop_cons' hr
      refine wpAny_pyNext_list_item hi (is_list (hF _ hm)) (x := v) (by simpa using e1) fun h' hit' hs' => ?_
      obtain ⟨o, ho, hc, _⟩ := id hit'
      refine ⟨v, rfl, lotg_quiet ho hc (by decide) ?_⟩
      exact h v h' s.toks [] ⟨i + 1, vs, k, hit', hm, e2 ▸ h2⟩ (fun _ q => nomatch q) h1 (fun b o hb e => hs'.extBut b o (fun q => hb (List.mem_singleton.mpr q)) e) (Nat.le_refl _)
  done := by
    rintro F s Q E ⟨i, vs, k, hi, hm, hd⟩ hF h
    generalize hr : vs.drop i = r at hd
    cases hd
    have hle : vs.length ≤ i := by simpa using hr
    refine wpAny_pyNext_list_end hA hi (is_list (hF _ hm)) (by simpa using hle) fun h' he' => ⟨rfl, h h' s.toks (fun b o hb e => he' b o (fun q => hb (List.mem_singleton.mpr q)) e) (Nat.le_refl _)⟩
  self := by
    rintro ds F s Q E ⟨i, vs, k, hi, _⟩ h
    exact wpAny_pyIter_listiter hi h

def tupleSt (I ax : Addr) (ds : List Dat) (F : FL) (h : Heap) : Prop := ∃ (i : Nat) (vs : List Value) (k : Nat), h.IsTupleIter I ax i ∧ (ax, ({ cls := .type "tuple", data := .seq (List.toArray vs) k } : Obj)) ∈ F ∧ DatAll F (vs.drop i) ds
theorem Src.tuple (hA : A.handled = none) (tgt : Expr) (I ax : Addr) : Src prog w A tgt (.ref I) [I] (tupleSt I ax) where
  frame := by
    rintro ds F G h h' ⟨i, vs, k, hi, hm, hd⟩ hk
    exact ⟨i, vs, k, hi.at fun o e => hk I (List.mem_singleton.mpr rfl) o e, List.mem_append_right _ hm, dats_more hd⟩
  live := by
    rintro ds F h ⟨i, vs, k, ⟨o, ho, _⟩, hm, hd⟩ b hb
    cases List.mem_singleton.mp hb
    exact ⟨o, ho⟩
  item := by
    rintro d ds F s Q E ⟨i, vs, k, hi, hm, hd⟩ hF hoff h
    generalize hr : vs.drop i = r at hd
    cases hd with
    | cons h1 h2 =>
      rename_i v r
      obtain ⟨e1, e2⟩ := drop_cons' hr
      refine wpAny_pyNext_tuple_item hi ⟨_, hF _ hm, rfl, _, rfl⟩ (x := v) (by simpa using e1) fun h' hit' hs' => ?_
      obtain ⟨o, ho, hc, _⟩ := id hit'
      refine ⟨v, rfl, lotg_quiet ho hc (by decide) ?_⟩
      exact h v h' s.toks [] ⟨i + 1, vs, k, hit', hm, e2 ▸ h2⟩ (fun _ q => nomatch q) h1 (fun b o hb e => hs'.extBut b o (fun q => hb (List.mem_singleton.mpr q)) e) (Nat.le_refl _)
  done := by
    rintro F s Q E ⟨i, vs, k, hi, hm, hd⟩ hF h
    generalize hr : vs.drop i = r at hd
    cases hd
    have hle : vs.length ≤ i := by simpa using hr
    refine wpAny_pyNext_tuple_end hA hi ⟨_, hF _ hm, rfl, _, rfl⟩ (by simpa using hle) fun h' he' => ⟨rfl, h h' s.toks (fun b o hb e => he' b o (fun q => hb (List.mem_singleton.mpr q)) e) (Nat.le_refl _)⟩
  self := by
    rintro ds F s Q E ⟨i, vs, k, hi, _⟩ h
    exact wpAny_pyIter_tupleiter hi h

def iota (x : Int) : Nat → List Dat
  | 0 => []
  | k + 1 => .int x :: iota (x + 1) k
def rangeSt (I : Addr) (ds : List Dat) (_F : FL) (h : Heap) : Prop := ∃ (x : Int) (k : Nat), IsRangeIter h I x k 1 ∧ ds = iota x k
theorem Src.range (hA : A.handled = none) (tgt : Expr) (I : Addr) : Src prog w A tgt (.ref I) [I] (rangeSt I) where
  frame := by
    rintro ds F G h h' ⟨x, k, hi, e⟩ hk
    exact ⟨x, k, hk I (List.mem_singleton.mpr rfl) _ hi, e⟩
  live := by
    rintro ds F h ⟨x, k, hi, e⟩ b hb
    cases List.mem_singleton.mp hb
    exact ⟨_, hi⟩
  item := by
    rintro d ds F s Q E ⟨x, k, hi, e⟩ hF hoff h
    cases k with
    | zero => cases e
    | succ k =>
      cases e
      refine wpAny_pyNext_range_item hi (by omega) fun h' hit' hs' => ?_
      refine ⟨_, rfl, lotg_quiet hit' rfl (by decide) ?_⟩
      have e1 : ((k + 1 : Nat) : Int) - 1 = (k : Int) := by omega
      rw [e1] at hit'
      exact h _ h' _ [] ⟨x + 1, k, hit', rfl⟩ (fun _ q => nomatch q) (.int _ _) (fun b o hb e => hs'.extBut b o (fun q => hb (List.mem_singleton.mpr q)) e) (Nat.le_succ _)
  done := by
    rintro F s Q E ⟨x, k, hi, e⟩ hF h
    cases k with
    | succ k => cases e
    | zero =>
      exact wpAny_pyNext_range_end hA hi (by omega) fun h' he' => ⟨rfl, h h' s.toks (fun b o hb e => he' b o (fun q => hb (List.mem_singleton.mpr q)) e) (Nat.le_refl _)⟩
  self := by
    rintro ds F s Q E ⟨x, k, hi, _⟩ h
    exact wpAny_pyIter_rangeiter hi h
end

/-- the expression yields the items -/
def CI (sc : Scope) (nm : List Str) (n : Nat) (e : Expr) (f : VS → Option (List Dat)) : Prop :=
  ∀ (prog : Program) (w : World) (A : Around) (env : Env) (s : Shared) (F : FL) (σ : VS) (ds : List Dat) (tgt : Expr) (Q : Value → Shared → Prop) (E : Value → Shared → Prop), At sc nm n A env s F σ → f σ = some ds → (∃ es k p, tgt = .Tuple es k p) ∨ (∃ x p, tgt = .Name x p) →
    (∀ it s' G wr St, Keeps s s' → New s s' G → s.toks ≤ s'.toks → Src prog w A tgt it wr St → St ds (G ++ F) s'.heap → (∀ b ∈ wr, s.heap.get? b = none) → (∀ b ∈ wr, ∀ o, (b, o) ∉ G ++ F) → Q it s') →
    wpAny (model prog w) A (PySem.eval e env) (fun x s₁ => wpAny (model prog w) A (pyIter x) Q E s₁) E s
section
variable {sc : Scope} {nm : List Str} {n : Nat}
def listD : Dat → Option (List Dat)
  | .list ds => some ds
  | .tuple ds => some ds
  | _ => none
theorem iter_fresh {s s₁ : Shared} {F G : FL} (k : Keeps s s₁) (hF : Has s₁.heap (G ++ F)) : (∀ b ∈ [s₁.heap.objs.size], s.heap.get? b = none) ∧ (∀ b ∈ [s₁.heap.objs.size], ∀ o, (b, o) ∉ G ++ F) := by
  constructor
  · intro b hb
    cases List.mem_singleton.mp hb
    exact not_there k (size_none _)
  · intro b hb o hm
    cases List.mem_singleton.mp hb
    have := hF _ hm
    rw [size_none] at this
    cases this
theorem CI.seq {e : Expr} {f : VS → Option Dat} (he : CE sc nm n e f) : CI sc nm n e (fun σ => (f σ).bind listD) := by
  intro prog w A env s F σ ds tgt Q E a hd _ h
  obtain ⟨x, hx, hd⟩ := Option.bind_eq_some_iff.mp hd
  refine wpAny_mono (wpAny_toks (he prog w A env s F σ x a hx)) (fun v s₁ z => ?_) fun _ _ z => z.2.elim
  obtain ⟨t₁, k₁, G₁, g₁, d₁⟩ := z
  have hF := a.has.more k₁ g₁
  obtain ⟨i1, i2⟩ := iter_fresh k₁ hF
  cases d₁ with
  | @list l1 vs1 kk ds1 hm1 r1 =>
    cases hd
    refine wpAny_pyIter_list (is_list (hF _ hm1)) ?_
    have k₂ := keeps_push s₁ { cls := .type "list_iterator", data := .fields #[.ref l1, .int 0 0] } s₁.toks
    exact h _ _ G₁ [s₁.heap.objs.size] (listSt s₁.heap.objs.size l1) (keeps_trans k₁ k₂) (fun p hp => ⟨keeps_get k₂ _ _ (g₁ p hp).1, (g₁ p hp).2⟩) t₁ (.list a.ok.1 _ _ _) ⟨0, vs1, kk, ⟨_, Heap.get?_push_size _ rfl, rfl, rfl⟩, hm1, r1⟩ i1 i2
  | @tuple l1 vs1 kk ds1 hm1 r1 =>
    cases hd
    refine wpAny_pyIter_tuple (items := vs1.toArray) ⟨_, hF _ hm1, rfl, _, rfl⟩ ?_
    have k₂ := keeps_push s₁ { cls := .type "tuple_iterator", data := .fields #[.ref l1, .int 0 0] } s₁.toks
    exact h _ _ G₁ [s₁.heap.objs.size] (tupleSt s₁.heap.objs.size l1) (keeps_trans k₁ k₂) (fun p hp => ⟨keeps_get k₂ _ _ (g₁ p hp).1, (g₁ p hp).2⟩) t₁ (.tuple a.ok.1 _ _ _) ⟨0, vs1, kk, ⟨_, Heap.get?_push_size _ rfl, rfl, rfl⟩, hm1, r1⟩ i1 i2
  | _ => cases hd
def rangeD : Dat → Option (List Dat)
  | .int i => if 0 ≤ i ∧ i < 1000000 then some (iota 0 i.toNat) else none
  | _ => none
theorem small_of {i : Int} (h : 0 ≤ i ∧ i < 1000000) : Builtin.Range.small 0 i 1 = true ∧ Builtin.Range.rangeSize 0 i 1 = (i.toNat : Int) := by
  have e : Builtin.Range.rangeSize 0 i 1 = (i.toNat : Int) := by
    unfold Builtin.Range.rangeSize
    split <;> omega
  refine ⟨?_, e⟩
  unfold Builtin.Range.small
  rw [e]
  simp [Builtin.Range.rangeFitsLong]
  omega
theorem CI.range {e : Expr} {f : VS → Option Dat} {p pos : Pos} (he : CE sc nm n e f) (hs : ∀ env, starEach [e] env = [(false, PySem.eval e env)]) (hx : sc.names.lookup ("range" : Str) = some .globalImplicit) :
    CI sc nm n (.Call (.Name "range" p) [e] [] pos) (fun σ => (f σ).bind rangeD) := by
  intro prog w A env s F σ ds tgt Q E a hd _ h
  obtain ⟨x, hx', hd⟩ := Option.bind_eq_some_iff.mp hd
  refine Call_name1 (hs env) (bi_name a.tops (v := .type "range") (.tail _ (.tail _ (.tail _ (.head _)))) a.envOk.fn (a.envOk.kindOf hx) a.envOk.gl a.envOk.bi ?_ (by decide))
  refine PySem.callWith_type1 ?_
  refine wpAny_mono (wpAny_toks (he prog w A env s F σ x a hx')) (fun v s₁ z => ?_) fun _ _ z => z.2.elim
  obtain ⟨t₁, k₁, G₁, g₁, d₁⟩ := z
  have hF := a.has.more k₁ g₁
  cases d₁ with
  | int i t =>
    obtain ⟨hi, rfl⟩ := of_ite (c := 0 ≤ i ∧ i < 1000000) hd
    refine call_range_1 ?_
    obtain ⟨sm, sz⟩ := small_of hi
    have k₂ := keeps_push s₁ { cls := .type "range", data := .fields #[.int 0 s₁.toks, .int i t, .int 1 (s₁.toks + 1)] } (s₁.toks + 1 + 1)
    refine wpAny_pyIter_range (IsRange.new _ _ _ _ _ _ _) sm ?_
    have hF₂ : Has (s₁.heap.push { cls := .type "range", data := .fields #[.int 0 s₁.toks, .int i t, .int 1 (s₁.toks + 1)] }) (G₁ ++ F) := hF.keeps (keeps_get k₂)
    obtain ⟨i1, i2⟩ := iter_fresh (keeps_trans k₁ k₂) hF₂
    have k₃ := keeps_push { s₁ with heap := s₁.heap.push { cls := .type "range", data := .fields #[.int 0 s₁.toks, .int i t, .int 1 (s₁.toks + 1)] }, toks := s₁.toks + 1 + 1 } { cls := .type "range_iterator", data := .fields #[rawInt 0, rawInt (Builtin.Range.rangeSize 0 i 1), rawInt 1] } (s₁.toks + 1 + 1)
    refine h _ _ G₁ _ (rangeSt _) (keeps_trans (keeps_trans k₁ k₂) k₃) (fun p hp => ⟨keeps_get k₃ _ _ (keeps_get k₂ _ _ (g₁ p hp).1), (g₁ p hp).2⟩) (Nat.le_trans t₁ (by show s₁.toks ≤ s₁.toks + 1 + 1; omega)) (.range a.ok.1 _ _) ⟨0, i.toNat, ?_, rfl⟩ i1 i2
    rw [sz]
    exact Heap.get?_push_size _ rfl
  | _ => cases hd
end

section
variable {gs : Bool} {sc : Scope} {nm mu : List Str} {n : Nat}
theorem CX.for_ {tgt e : Expr} {body : List Stmt} {pos : Pos} {f : VS → Option (List Dat)} {tg : VS → Dat → Option VS} {fb : VS → Option Out} (he : CI sc nm n e f) (ht : CA nm mu tgt tg) (hb : CS gs sc nm mu n body fb) (hs : ∀ env x, foldedSetIterable e env x = pure x)
    (htgt : (∃ es k p, tgt = .Tuple es k p) ∨ (∃ x p, tgt = .Name x p)) : CX gs sc nm mu n (.For tgt e body [] pos) (fun σ => (f σ).bind fun ds => loopF tg fb ds σ) := by
  intro prog w A env s₀ B s F σ o y ho
  obtain ⟨ds, hd, ho⟩ := Option.bind_eq_some_iff.mp ho
  refine wpAny_For (he prog w A env s F σ ds tgt _ _ y.at hd htgt fun it s' G wr St k g t S st fr off => ?_) (hs env)
  have y' := y.keeps k g t
  have hc : ∀ z c, env.cells.lookup z = some c → c ∉ wr := fun z c e hm => by
    obtain ⟨_, v, o, h', _⟩ := y.cells z c e
    rw [fr c hm] at h'; cases h'
  refine for_turns S ht hb (B := B) (F := F) ?_ y.tb hc (fun fl s' z => z) ⟨y'.strong (wr := wr) ?_ hc ?_, .of_new y.keep g, st, off⟩ ho
  · intro b hb o hB
    have := y.keep b o hB
    rw [fr b hb] at this; cases this
  · intro hm
    obtain ⟨m, o, _, _, h', _⟩ := y.ns
    rw [fr _ hm] at h'; cases h'
  · intro i x ds hx hd l hh hm
    obtain ⟨al, a1, _⟩ := y.accs
    obtain ⟨vs, kk, b1, b2, _⟩ := a1 i x ds hx hd
    have e : al i = l := Value.ref.inj ((b1.keeps (keeps_get k)).one hh)
    rw [e, fr l hm] at b2; cases b2
end
end Mine

end -- S5

section -- S6
namespace Mine
open PySem PySem.W PyProof.Rows
set_option maxRecDepth 100000

def ltD : Dat → Dat → Option Bool
  | .int a, .int b => some (decide (a < b))
  | _, _ => none
def isD : Dat → Dat → Option Bool
  | .none, .none => some true
  | .int _, .none => some false
  | _, _ => none
def notInD : Dat → Dat → Option Bool
  | d, .str x => (oneC d).map fun c => decide (idxC c 0 x.cps.toList < 0)
  | _, _ => none
theorem cmp_lt {n : Nat} : Cmp n .Lt ltD := by
  intro prog w A s F a b u v c Q E _ _ ha hb hc h
  cases ha with
  | int i t =>
    cases hb with
    | int j t' => cases hc; exact PyProof.Rows.lt_int h
    | _ => cases hc
  | _ => cases hb <;> cases hc
theorem cmp_is {n : Nat} : Cmp n .Is isD := by
  intro prog w A s F a b u v c Q E _ _ ha hb hc h
  cases ha with
  | none =>
    cases hb with
    | none => cases hc; exact wpAny_is_plain rfl h
    | _ => cases hc
  | int i t =>
    cases hb with
    | none => cases hc; exact wpAny_is_plain rfl h
    | _ => cases hc
  | _ => cases hb <;> cases hc
theorem occ_neg (x : Str) (c : Nat) : (!(!(Builtin.Str.occurrences x ⟨#[c]⟩ 0 x.length 1).isEmpty)) = decide (idxC c 0 x.cps.toList < 0) := by
  have h := find_eq x c x.length (Nat.le_refl _)
  rw [show x.cps.toList.take x.length = x.cps.toList by rw [str_len, List.take_length]] at h
  cases e : Builtin.Str.occurrences x ⟨#[c]⟩ 0 x.length 1 with
  | nil => rw [e] at h; rw [← h]; rfl
  | cons i r =>
    rw [e] at h
    rw [← h]
    have : ¬ ((i : Int) < 0) := by omega
    simp [this]
theorem cmp_notIn {n : Nat} : Cmp n .NotIn notInD := by
  intro prog w A s F a b u v c Q E _ _ ha hb hc h
  cases b with
  | str x =>
    obtain ⟨i, hi, rfl⟩ := Option.map_eq_some_iff.mp hc
    cases of_oneC hi
    cases ha
    cases hb
    exact PySem.P.notIn_str (by rw [occ_neg]; exact h)
  | _ => cases hc

/-- the texts of a list -/
def strsOf : List Dat → Option (List Str)
  | [] => some []
  | .str x :: r => (strsOf r).map (x :: ·)
  | _ :: _ => none
def catL : List Str → List Nat
  | [] => []
  | x :: r => x.cps.toList ++ catL r
theorem strsOf_are {F : FL} : ∀ {ds : List Dat} {vs : List Value} {l : List Str}, DatAll F vs ds → strsOf ds = some l → StrsAre vs l
  | [], _, _, h, e => by cases h; cases e; exact .nil
  | d :: ds, _, _, h, e => by
    cases h with
    | cons h r =>
      cases h with
      | str x t =>
        obtain ⟨l', hl, rfl⟩ := Option.map_eq_some_iff.mp e
        exact .cons x t (strsOf_are r hl)
      | _ => cases e
theorem join_cat : ∀ l : List Str, Txt.join ⟨#[]⟩ l = ⟨(catL l).toArray⟩ := by
  intro l
  show Builtin.Str.glued Str.empty l = _
  rw [glued_cat]
  congr 2
  induction l with
  | nil => rfl
  | cons x l ih => rw [catL, ← ih]; simp [cat]
theorem cat_len : ∀ l : List Str, (l.map (·.length)).sum = (catL l).length
  | [] => rfl
  | x :: l => by rw [List.map_cons, List.sum_cons, cat_len l, catL, List.length_append, str_len]
def joinR (x : Str) : List Dat → Option Dat
  | [.list ds] => match x.cps.toList with
    | [] => (strsOf ds).bind fun l => if (catL l).length ≤ 1000000 then some (.str ⟨(catL l).toArray⟩) else none
    | _ => none
  | _ => none
section
variable {sc : Scope} {nm : List Str} {n : Nat} {o : Expr} {args : List Expr} {apos pos : Pos} {f : VS → Option Dat} {g : VS → Option (List Dat)}
theorem CE.join (ho : CE sc nm n o f) (ha : CL sc nm n args g) (hp : Plain args) (hb : ∀ env, attributeBase o "join" env (eval o env) = eval o env) (hline : (apos.endLine == pos.line) = true) (hfew : args.length < 30) :
    CE sc nm n (.Call (.Attribute o "join" apos) args [] pos) (fun σ => (f σ).bind fun a => (g σ).bind fun ds => match a with | .str x => joinR x ds | _ => none) := by
  refine CE.meth joinR PySem.F.slot_str_join PySem.F.type_str_join ho ha hp hb hline hfew ?_
  intro prog w A s F x t vs ds d _ hF hd hR
  unfold joinR at hR
  split at hR
  · rename_i ds'
    split at hR
    · rename_i hx
      obtain ⟨l, hl, hR⟩ := Option.bind_eq_some_iff.mp hR
      obtain ⟨hle, rfl⟩ := of_ite (c := (catL l).length ≤ 1000000) hR
      cases hd with
      | cons h1 h2 =>
        cases h2
        cases h1 with
        | list hm r =>
          have ex : x = ⟨#[]⟩ := str_mk hx
          subst ex
          refine join_list (is_list (hF _ hm)) (strsOf_are r hl) ?_ fun t' k => ?_
          · have : (⟨#[]⟩ : Str).length = 0 := rfl
            rw [this, cat_len]; omega
          · rw [join_cat]; exact ends_val (.str _ _)
    · cases hR
  · cases hR
end

section
variable {gs : Bool} {sc : Scope} {nm mu : List Str} {n : Nat}
theorem CX.assignPair (i j : Nat) {x y : Str} {p q tp pos : Pos} {k : Nat} {e : Expr} {f : VS → Option Dat} (he : CE sc nm n e f) (hx : nm[i]? = some x) (hy : nm[j]? = some y) (hm : x ∈ mu) (hm' : y ∈ mu) (hnd : nm.Nodup)
    (hsw : ∀ env, swapsWithSole [.Tuple [.Name x p, .Name y q] k tp] e pos.line env = pure false) (hw : ∀ env, EnvOk sc env → swappedStores [.Tuple [.Name x p, .Name y q] k tp] e env = pure (some [x, y])) :
    CX gs sc nm mu n (.Assign [.Tuple [.Name x p, .Name y q] k tp] e pos) (fun σ => (f σ).bind fun d => match d with | .tuple [a, b] => some (.next ((σ.set j (.val b)).set i (.val a))) | _ => none) := by
  intro prog w A env s₀ B s F σ o fm ho
  obtain ⟨d, hd, ho⟩ := Option.bind_eq_some_iff.mp ho
  split at ho
  · rename_i a b
    cases ho
    refine PyProof.Rows.Assign_Tuple_swapped (names := [x, y]) (fm.eval he hd fun v s₁ G kk g nb y₁ dd => ?_) (hsw env) (hw env fm.envOk)
    cases dd with
    | tuple hmem r =>
      cases r with
      | cons r1 r =>
        cases r with
        | cons r2 r =>
          cases r
          rename_i t n v1 v2
          have hT : IsTup s₁.heap t #[v1, v2] := ⟨_, y₁.has _ hmem, rfl, _, rfl⟩
          refine unpackItems_tuple (items := #[v1, v2]) y₁.ok.1 hT fun h₁ hx₁ => ?_
          have k₁ : Keeps s₁ { s₁ with heap := h₁ } := ⟨h₁, s₁.toks, rfl, fun b o e => hx₁ b o (Nat.ne_of_lt (Heap.lt_size e)) e⟩
          have fm₁ := y₁.keeps (G := []) k₁ (.nil _ _) (Nat.le_refl _)
          refine wpAny_bind (wpAny_holding (wpAny_bindName (fm₁.store hy hm' hnd (q := .val b) r2 trivial fun s₂ fm₂ => ?_)))
          exact wpAny_bind (wpAny_holding (wpAny_bindName (fm₂.store hx hm hnd (q := .val a) r1 trivial fun s₃ fm₃ => wpAny_pure ⟨rfl, G, nb, fm₃⟩)))
  · cases ho
end
end Mine

end -- S6

section -- S7
namespace Mine
open PySem PySem.W PyProof.Rows
set_option maxRecDepth 100000

def relabelS (scope sc : Scope) : Scope :=
  { scope with names := scope.names.map fun (n, k) => if (k == .free && sc.kind == .function && sc.names.lookup n == some .cell) then (n, .cell) else (n, k) }
theorem relabel_eq {sc scope : Scope} {env : Env} (he : EnvOk sc env) : relabel scope env = relabelS scope sc := by
  unfold relabel relabelS Env.kindOf
  rw [he.scope]

/-- a comprehension's own environment -/
theorem wp_compEnv {M : Model} {A : Around} {E : Value → Shared → Prop} {s : Shared} {env : Env} {scope : Scope} {cl : List (Str × Addr)} {Q : Env → Shared → Prop}
    (h : Q { scope, locals := s.heap.objs.size, globals := env.globals, cells := cellsFrom (s.heap.objs.size + 1) scope.names cl, qual := env.qual, func := none, code := env.code, frame := env.frame, builtins := env.builtins }
      { s with heap := pushCells (s.heap.push { cls := .type "dict", data := .dict #[] }) scope.names }) :
    wpAny M A (newFunctionEnv scope env.globals cl [] env.qual none .none (some env)) Q E s := by
  simp only [newFunctionEnv, Option.isSome_some, if_true]
  refine wpAny_bind (wpAny_alloc ?_)
  refine wpAny_bind (wpAny_layCells _ (fun name kind cells => by cases hkc : kind == NameKind.cell <;> simp [hkc]) _ _ _ _ ?_)
  rw [show ({ s with heap := s.heap.push { cls := .type "dict", data := .dict #[] } } : Shared).heap.objs.size = s.heap.objs.size + 1 from Heap.size_push ..]
  exact wpAny_pure h

theorem cells_mem : ∀ (names : List (Str × NameKind)) (n : Nat) (acc : List (Str × Addr)) (x : Str) (c : Addr), (x, c) ∈ cellsFrom n names acc → (x, c) ∈ acc ∨ (n ≤ c ∧ (x, NameKind.cell) ∈ names)
  | [], _, _, _, _, h => .inl h
  | (name, kind) :: r, n, acc, x, c, h => by
    unfold cellsFrom at h
    split at h
    · rename_i hk
      rcases cells_mem r _ _ x c h with h | ⟨h1, h2⟩
      · rcases List.mem_cons.mp h with h | h
        · cases h
          rw [eq_of_beq hk]
          exact .inr ⟨Nat.le_refl _, List.mem_cons_self⟩
        · exact .inl h
      · exact .inr ⟨Nat.le_of_succ_le h1, List.mem_cons_of_mem _ h2⟩
    · rcases cells_mem r _ _ x c h with h | ⟨h1, h2⟩
      · exact .inl h
      · exact .inr ⟨h1, List.mem_cons_of_mem _ h2⟩
theorem cells_inj : ∀ (names : List (Str × NameKind)) (n : Nat) (acc : List (Str × Addr)) (m : Nat), m ≤ n → (∀ p ∈ acc, p.2 < n) → (∀ x y c, m ≤ c → (x, c) ∈ acc → (y, c) ∈ acc → y = x) → ∀ (x y : Str) (c : Nat), m ≤ c → (x, c) ∈ cellsFrom n names acc → (y, c) ∈ cellsFrom n names acc → y = x
  | [], _, _, _, _, _, ha, x, y, c, hc, h1, h2 => ha x y c hc h1 h2
  | (name, kind) :: r, n, acc, m, hm, hl, ha, x, y, c, hc, h1, h2 => by
    unfold cellsFrom at h1 h2
    split at h1
    · rename_i hk
      rw [if_pos hk] at h2
      refine cells_inj r (n + 1) _ m (Nat.le_succ_of_le hm) ?_ ?_ x y c hc h1 h2
      · intro p hp
        rcases List.mem_cons.mp hp with h | h
        · rw [h]; exact Nat.lt_succ_self _
        · exact Nat.lt_succ_of_lt (hl p h)
      · intro x y c hc h1 h2
        rcases List.mem_cons.mp h1 with e1 | e1 <;> rcases List.mem_cons.mp h2 with e2 | e2
        · rw [(Prod.mk.inj e1).1, (Prod.mk.inj e2).1]
        · have := hl _ e2
          rw [show c = n from (Prod.mk.inj e1).2] at this
          exact absurd this (Nat.lt_irrefl _)
        · have := hl _ e1
          rw [show c = n from (Prod.mk.inj e2).2] at this
          exact absurd this (Nat.lt_irrefl _)
        · exact ha x y c hc e1 e2
    · rename_i hk
      rw [if_neg hk] at h2
      exact cells_inj r n acc m hm hl ha x y c hc h1 h2
theorem cells_empty : ∀ (names : List (Str × NameKind)) (h : Heap) (acc : List (Str × Addr)) (x : Str) (c : Addr), (x, c) ∈ cellsFrom h.objs.size names acc → (x, c) ∈ acc ∨ (pushCells h names).IsCell c none
  | [], _, _, _, _, h => .inl h
  | (name, kind) :: r, hp, acc, x, c, h => by
    unfold cellsFrom at h
    unfold pushCells
    split at h
    · rename_i hk
      rw [if_pos hk]
      rw [show hp.objs.size + 1 = (hp.push { cls := .type "cell", data := .cell none }).objs.size from (Heap.size_push ..).symm] at h
      rcases cells_empty r _ _ x c h with h | h
      · rcases List.mem_cons.mp h with h | h
        · cases h
          exact .inr ⟨_, pushCells_keeps r _ _ _ (Heap.get?_push_size _ rfl), rfl⟩
        · exact .inl h
      · exact .inr h
    · rename_i hk
      rw [if_neg hk]
      exact cells_empty r hp acc x c h
theorem cells_kept : ∀ (names : List (Str × NameKind)) (n : Nat) (acc : List (Str × Addr)) (x : Str), (x, NameKind.cell) ∉ names → (cellsFrom n names acc).lookup x = acc.lookup x
  | [], _, _, _, _ => rfl
  | (name, kind) :: r, n, acc, x, h => by
    unfold cellsFrom
    have hr : (x, NameKind.cell) ∉ r := fun q => h (List.mem_cons_of_mem _ q)
    split
    · rename_i hk
      rw [cells_kept r _ _ x hr, List.lookup_cons]
      have : (x == name) = false := by
        apply beq_eq_false_iff_ne.mpr
        rintro rfl
        rw [eq_of_beq hk] at h
        exact h List.mem_cons_self
      rw [this]
    · exact cells_kept r _ _ x hr
theorem cells_more : ∀ (names : List (Str × NameKind)) (n m : Nat) (acc : List (Str × Addr)) (x : Str), m ≤ n → ((x, NameKind.cell) ∈ names ∨ ∃ c, acc.lookup x = some c ∧ m ≤ c) → ∃ c, (cellsFrom n names acc).lookup x = some c ∧ m ≤ c
  | [], _, _, _, _, _, h => by
    rcases h with h | h
    · cases h
    · exact h
  | (name, kind) :: r, n, m, acc, x, hm, h => by
    unfold cellsFrom
    split
    · rename_i hk
      refine cells_more r (n + 1) m _ x (Nat.le_succ_of_le hm) ?_
      cases hx : x == name with
      | true => exact .inr ⟨n, by rw [List.lookup_cons, hx], hm⟩
      | false =>
        rcases h with h | ⟨c, h1, h2⟩
        · rcases List.mem_cons.mp h with h | h
          · rw [(Prod.mk.inj h).1] at hx
            simp at hx
          · exact .inl h
        · exact .inr ⟨c, by rw [List.lookup_cons, hx]; exact h1, h2⟩
    · rename_i hk
      refine cells_more r n m acc x hm ?_
      rcases h with h | h
      · rcases List.mem_cons.mp h with h | h
        · rw [← (Prod.mk.inj h).2] at hk
          exact absurd rfl hk
        · exact .inl h
      · exact .inr h

theorem closure_some {env : Env} : ∀ (names : List (Str × NameKind)) (acc : List (Str × Addr)), (∀ x, (x, NameKind.free) ∈ names → ∃ c, env.cells.lookup x = some c) → (∀ p ∈ acc, env.cells.lookup p.1 = some p.2) →
    ∃ cl, (forIn names acc fun x r => if (x.2 == NameKind.free) = true then (do let a ← cellOf env x.1; pure (ForInStep.yield ((x.1, a) :: r))) else pure (ForInStep.yield r) : Sem (List (Str × Addr))) = pure cl ∧
      (∀ p ∈ cl, env.cells.lookup p.1 = some p.2 ∧ (p ∈ acc ∨ (p.1, NameKind.free) ∈ names)) ∧ ((∀ x, (x, NameKind.free) ∈ names → ∃ c, cl.lookup x = some c)) ∧ ∀ x c, acc.lookup x = some c → ∃ c, cl.lookup x = some c
  | [], acc, _, ha => ⟨acc, rfl, fun p hp => ⟨ha p hp, .inl hp⟩, (fun _ h => nomatch h), fun x c h => ⟨c, h⟩⟩
  | (name, kind) :: r, acc, hn, ha => by
    rw [List.forIn_cons]
    cases hk : kind == NameKind.free with
    | true =>
      have := eq_of_beq hk
      subst this
      obtain ⟨c, hc⟩ := hn name List.mem_cons_self
      obtain ⟨cl, e, h1, h2, h3⟩ := closure_some r ((name, c) :: acc) (fun x hx => hn x (List.mem_cons_of_mem _ hx)) (fun p hp => by
        rcases List.mem_cons.mp hp with h | h
        · rw [h]; exact hc
        · exact ha p h)
      refine ⟨cl, ?_, ?_, ?_, ?_⟩
      · rw [← e]
        have : cellOf env name = pure c := by unfold cellOf; rw [hc]
        simp only [beq_self_eq_true, if_true, this]
        rfl
      · intro p hp
        obtain ⟨a, b⟩ := h1 p hp
        refine ⟨a, ?_⟩
        rcases b with b | b
        · rcases List.mem_cons.mp b with h | h
          · rw [h]; exact .inr List.mem_cons_self
          · exact .inl h
        · exact .inr (List.mem_cons_of_mem _ b)
      · intro x hx
        rcases List.mem_cons.mp hx with h | h
        · exact h3 x c (by rw [List.lookup_cons, (Prod.mk.inj h).1]; simp)
        · exact h2 x h
      · intro x c' hx
        cases hq : x == name with
        | true => exact h3 x c (by rw [List.lookup_cons, hq])
        | false => exact h3 x c' (by rw [List.lookup_cons, hq]; exact hx)
    | false =>
      obtain ⟨cl, e, h1, h2, h3⟩ := closure_some r acc (fun x hx => hn x (List.mem_cons_of_mem _ hx)) ha
      refine ⟨cl, ?_, ?_, ?_, h3⟩
      · rw [← e]
        simp only [Bool.false_eq_true, if_false]
        rfl
      · intro p hp
        obtain ⟨a, b⟩ := h1 p hp
        exact ⟨a, b.imp id (List.mem_cons_of_mem _)⟩
      · intro x hx
        rcases List.mem_cons.mp hx with h | h
        · rw [← (Prod.mk.inj h).2] at hk
          cases hk
        · exact h2 x h
theorem closureFor_some {scope : Scope} {env : Env} (h : ∀ x, (x, NameKind.free) ∈ scope.names → ∃ c, env.cells.lookup x = some c) :
    ∃ cl, closureFor scope env = pure cl ∧ (∀ p ∈ cl, env.cells.lookup p.1 = some p.2 ∧ (p.1, NameKind.free) ∈ scope.names) ∧ ∀ x, (x, NameKind.free) ∈ scope.names → ∃ c, cl.lookup x = some c := by
  obtain ⟨cl, e, h1, h2, _⟩ := closure_some scope.names [] h (fun _ q => nomatch q)
  refine ⟨cl, ?_, fun p hp => ⟨(h1 p hp).1, (h1 p hp).2.resolve_left (fun q => nomatch q)⟩, h2⟩
  unfold closureFor
  rw [← e]
  show (forIn scope.names [] _ >>= fun cs => pure cs) = _
  have : ∀ (m m' : Sem (List (Str × Addr))), m = m' → (m >>= fun cs => pure cs) = m' := by
    rintro m _ rfl
    exact bind_pure m
  refine this _ _ ?_
  congr 1
end Mine

end -- S7

section -- S8
namespace Mine
open PySem PySem.W PyProof.Rows
set_option maxRecDepth 100000

section
variable {prog : Program} {w : World} {A : Around} {R : Result → Shared → Prop} {s : Shared}
theorem compLoop_any {elt target iter : Expr} {ifs : List Expr} {scope : Scope} {pos : Pos} {it acc : Value} {env : Env} (I : Nat → Shared → Prop)
    (turn : ∀ n s, I n s → wpAny (model prog w) A (pyNext it) (fun r s₁ => match r with
      | none => R (.ok .next) s₁
      | some v => wpAny (model prog w) A (letOwnedTupleGo target it v) (fun _ s₁ => wpAny (model prog w) A (assign target env v) (fun _ s₂ =>
          wpAny (model prog w) A (forIn ifs true fun c r => if r = true then do let ok ← isTrue c env (eval c env); pure (ForInStep.yield ok) else pure (ForInStep.yield r)) (fun ok s₃ =>
            if ok = true then wpAny (model prog w) A (eval elt env) (fun x s₄ =>
              wpAny (model prog w) A (call (.builtin "list.append") [acc, x]) (fun _ s₅ => ∃ m, m < n ∧ I m s₅) (fun _ _ => False) s₄) (fun _ _ => False) s₃
            else ∃ m, m < n ∧ I m s₃) (fun _ _ => False) s₂) (fun _ _ => False) s₁) (fun _ _ => False) s₁) (fun _ _ => False) s)
    (n : Nat) (h : I n s) : codeAny (model prog w) A (.compLoop (.ListComp elt [⟨target, iter, ifs, 0⟩] scope pos) 0 it acc env) R s := by
  refine codeAny_loop rfl I (fun n s hI => ?_) n h
  show wpAny _ A ((compTurn (.ListComp elt [⟨target, iter, ifs, 0⟩] scope pos) 0 it acc env).onRaise (fun x => do noteFrame x env; theTreesLotGoes x)) _ _ s
  refine wpAny_noted ?_
  rw [compTurn_list]
  refine wp_no ?_
  refine wpAny_bind (wpAny_standAt (wpAny_bind (wpAny_mono (turn n s hI) (fun r s₁ h₁ => ?_) fun _ _ h' => h')))
  cases r with
  | none => exact wpAny_pure h₁
  | some v =>
    refine wpAny_bind (wpAny_mono h₁ (fun _ s₂ h₁ => ?_) fun _ _ h' => h')
    refine wpAny_bind (wpAny_mono h₁ (fun _ s₂ h₂ => wpAny_bind (wpAny_mono h₂ (fun ok s₃ h₃ => ?_) fun _ _ h' => h')) fun _ _ h' => h')
    cases ok with
    | false => exact wpAny_pure ⟨rfl, h₃⟩
    | true =>
      exact wpAny_bind (wpAny_bind (wpAny_mono h₃ (fun x s₄ h₄ => wpAny_bind (wpAny_mono h₄ (fun _ s₅ h₅ => wpAny_pure (wpAny_pure ⟨rfl, h₅⟩)) fun _ _ h' => h')) fun _ _ h' => h'))
end

/-- the tests of a comprehension -/
def CTs (sc : Scope) (nm : List Str) (n : Nat) (es : List Expr) (f : VS → Option Bool) : Prop :=
  ∀ (prog : Program) (w : World) (A : Around) (env : Env) (s : Shared) (F : FL) (σ : VS) (b : Bool), At sc nm n A env s F σ → f σ = some b →
    wpAny (model prog w) A (forIn es true fun c r => if r = true then do let ok ← isTrue c env (eval c env); pure (ForInStep.yield ok) else pure (ForInStep.yield r)) (fun c s' => c = b ∧ Keeps s s') (fun _ _ => False) s
theorem CTs.nil {sc : Scope} {nm : List Str} {n : Nat} : CTs sc nm n [] (fun _ => some true) := by
  intro prog w A env s F σ b a hd
  cases hd
  exact wpAny_tests_nil ⟨rfl, keeps_refl _⟩
theorem CTs.one {sc : Scope} {nm : List Str} {n : Nat} {e : Expr} {f : VS → Option Bool} (h : CT sc nm n e f) : CTs sc nm n [e] f := by
  intro prog w A env s F σ b a hd
  exact wpAny_tests_one (h prog w A env s F σ b a hd)

def compF (tg : VS → Dat → Option VS) (ft : VS → Option Bool) (fe : VS → Option Dat) : List Dat → VS → Option (List Dat)
  | [], _ => some []
  | d :: ds, σ => (tg σ d).bind fun σ₁ => (ft σ₁).bind fun b => bif b then (fe σ₁).bind fun y => (compF tg ft fe ds σ₁).map (y :: ·) else compF tg ft fe ds σ₁

/-- a comprehension's own state -/
structure CompAt (sc : Scope) (nm mu : List Str) (n : Nat) (A : Around) (env : Env) (s₀ : Shared) (B : BP) (wr : List Addr) (D : Addr) (St : List Dat → FL → Heap → Prop) (F : FL) (ds es : List Dat) (s : Shared) (G : FL) (σ : VS) : Prop where
  fm : Fm false sc nm mu n A env s₀ (BW B (D :: wr) s.heap) s (G ++ F) σ
  new : NewB B G
  st : St ds (G ++ F) s.heap
  off : ∀ b ∈ D :: wr, ∀ o, (b, o) ∉ G ++ F
  acc : ∃ ys k, s.heap.get? D = some (listOf ys.toArray k) ∧ DatAll (G ++ F) ys es

section
variable {sc : Scope} {nm mu : List Str} {n : Nat} {prog : Program} {w : World} {A : Around} {env : Env} {s₀ s : Shared} {B : BP} {F G : FL} {σ : VS} {wr : List Addr} {D : Addr}

theorem comp_turns {tgt elt iter : Expr} {ifs : List Expr} {scope : Scope} {pos : Pos} {it : Value} {St : List Dat → FL → Heap → Prop} {tg : VS → Dat → Option VS} {ft : VS → Option Bool} {fe : VS → Option Dat} {R : Result → Shared → Prop} {out : List Dat}
    (S : Src prog w A tgt it wr St) (hD : D ∉ wr) (ht : CA nm mu tgt tg) (hf : CTs sc nm n ifs ft) (he : CE sc nm n elt fe)
    (hwB : ∀ b ∈ D :: wr, ∀ o, ¬ B b o) (tb : ∃ h₀, Tops h₀ ∧ ∀ b o, h₀.get? b = some o → B b o) (hc : ∀ z c, env.cells.lookup z = some c → c ∉ D :: wr)
    (hR : ∀ s' G σ, CompAt sc nm mu n A env s₀ B wr D St F [] out s' G σ → ∀ h' tk, (∀ b o, b ∉ D :: wr → s'.heap.get? b = some o → h'.get? b = some o) → s'.heap.get? D = h'.get? D → s'.toks ≤ tk → R (.ok .next) { s' with heap := h', toks := tk }) {ds es : List Dat}
    (x : CompAt sc nm mu n A env s₀ B wr D St F ds es s G σ) (hsz : ds.length + es.length ≤ 1000000) (ho : (compF tg ft fe ds σ).map (es ++ ·) = some out) :
    codeAny (model prog w) A (.compLoop (.ListComp elt [⟨tgt, iter, ifs, 0⟩] scope pos) 0 it (.ref D) env) R s := by
  refine compLoop_any (fun k s' => ∃ ds es G σ, CompAt sc nm mu n A env s₀ B wr D St F ds es s' G σ ∧ ds.length + es.length ≤ 1000000 ∧ (compF tg ft fe ds σ).map (es ++ ·) = some out ∧ k = ds.length) ?_ ds.length ⟨ds, es, G, σ, x, hsz, ho, rfl⟩
  rintro k s ⟨ds, es, G, σ, x, hsz, ho, rfl⟩
  have lv : Live (D :: wr) s.heap := by
    intro b hb
    rcases List.mem_cons.mp hb with rfl | hb
    · obtain ⟨ys, k, e, _⟩ := x.acc
      exact ⟨_, e⟩
    · exact S.live x.st b hb
  cases ds with
  | nil =>
    have e : es = out := by
      have : some (es ++ []) = some out := ho
      rw [List.append_nil] at this
      exact Option.some.inj this
    subst e
    refine wpAny_mono (S.done (Q := fun s' => R (.ok .next) s') x.st x.fm.has fun h' tk kk tt => ?_) (fun r s₁ z => ?_) fun _ _ z => z
    · refine hR s G σ x h' tk (fun b o hb e => kk b o (fun q => hb (List.mem_cons_of_mem _ q)) e) ?_ tt
      obtain ⟨ys, k, e, _⟩ := x.acc
      rw [e, kk D _ hD e]
    · obtain ⟨rfl, z⟩ := z
      exact z
  | cons d ds =>
    obtain ⟨r, hr, hro⟩ := Option.map_eq_some_iff.mp ho
    obtain ⟨σ₁, hσ₁, hr⟩ := Option.bind_eq_some_iff.mp hr
    obtain ⟨b, hb, hr⟩ := Option.bind_eq_some_iff.mp hr
    refine wpAny_mono (S.item (Q := fun v s₂ => wpAny (model prog w) A (assign tgt env v) (fun _ s₂ =>
          wpAny (model prog w) A (forIn ifs true fun c r => if r = true then do let ok ← isTrue c env (eval c env); pure (ForInStep.yield ok) else pure (ForInStep.yield r)) (fun ok s₃ =>
            if ok = true then wpAny (model prog w) A (eval elt env) (fun x s₄ =>
              wpAny (model prog w) A (call (.builtin "list.append") [.ref D, x]) (fun _ s₅ => ∃ m, m < (d :: ds).length ∧ ∃ ds es G σ, CompAt sc nm mu n A env s₀ B wr D St F ds es s₅ G σ ∧ ds.length + es.length ≤ 1000000 ∧ (compF tg ft fe ds σ).map (es ++ ·) = some out ∧ m = ds.length) (fun _ _ => False) s₄) (fun _ _ => False) s₃
            else ∃ m, m < (d :: ds).length ∧ ∃ ds es G σ, CompAt sc nm mu n A env s₀ B wr D St F ds es s₃ G σ ∧ ds.length + es.length ≤ 1000000 ∧ (compF tg ft fe ds σ).map (es ++ ·) = some out ∧ m = ds.length) (fun _ _ => False) s₂) (fun _ _ => False) s₂) x.st x.fm.has (fun b hb => x.off b (List.mem_cons_of_mem _ hb)) fun v h' tk G₁ st₁ g₁ dd k₁ t₁ => ?_) (fun r s₁ z => ?_) fun _ _ z => z
    · have k₁' : ∀ b o, b ∉ D :: wr → s.heap.get? b = some o → h'.get? b = some o := fun b o hb e => k₁ b o (fun q => hb (List.mem_cons_of_mem _ q)) e
      obtain ⟨ys, ky, eD, dD⟩ := x.acc
      have eD₁ := k₁ D _ hD eD
      have y₁ := x.fm.turn (G := G₁) (tk := tk) x.off hwB tb lv hc g₁ k₁' t₁
      have lv₁ : Live (D :: wr) h' := by
        intro b hb
        rcases List.mem_cons.mp hb with rfl | hb
        · exact ⟨_, eD₁⟩
        · exact S.live st₁ b hb
      have nb₁ : NewB B (G₁ ++ G) := NewB.append (fun p hp o hb => by
        have := x.fm.keep _ _ (.inl hb)
        rw [(g₁ p hp).2] at this; cases this) x.new
      have off₁ : ∀ b ∈ D :: wr, ∀ o, (b, o) ∉ G₁ ++ (G ++ F) := fun b hb o hm => by
        rcases List.mem_append.mp hm with h | h
        · obtain ⟨o', ho'⟩ := lv b hb
          have := (g₁ _ h).2
          rw [ho'] at this; cases this
        · exact x.off b hb o h
      refine ht y₁ dd hσ₁ fun s₂ y₂ => ?_
      have kp₂ : ∀ b ∈ D :: wr, ∀ o, h'.get? b = some o → s₂.heap.get? b = some o := fun b hb o e => y₂.keep b o (.inr ⟨hb, e⟩)
      have st₂ : St ds (G₁ ++ (G ++ F)) s₂.heap := S.frame (G := []) st₁ fun b hb o e => kp₂ b (List.mem_cons_of_mem _ hb) o e
      have eD₂ := kp₂ D List.mem_cons_self _ eD₁
      have lv₂ := BW.live lv₁ y₂.keep
      rw [← BW.eq lv₁ y₂.keep] at y₂
      refine wpAny_mono (wpAny_toks (hf prog w A env s₂ _ σ₁ b y₂.at hb)) (fun c s₃ z => ?_) fun _ _ z => z.2.elim
      obtain ⟨t₃, rfl, k₃⟩ := z
      have y₃ := y₂.keeps (G := []) k₃ (.nil _ _) t₃
      have kp₃ : ∀ b o, s₂.heap.get? b = some o → s₃.heap.get? b = some o := keeps_get k₃
      have st₃ : St ds (G₁ ++ (G ++ F)) s₃.heap := S.frame (G := []) st₂ fun b _ o e => kp₃ b o e
      have eD₃ := kp₃ _ _ eD₂
      rw [← BW.eq lv₂ y₃.keep] at y₃
      have lv₃ : Live (D :: wr) s₃.heap := fun b hb => by
        obtain ⟨o, ho⟩ := lv₂ b hb
        exact ⟨o, kp₃ _ _ ho⟩
      cases c with
      | false =>
        refine ⟨ds.length, Nat.lt_succ_self _, ds, es, G₁ ++ G, σ₁, ⟨?_, nb₁, ?_, ?_, ?_⟩, by simp at hsz; omega, ?_, rfl⟩
        · simpa only [List.append_assoc, List.nil_append] using y₃
        · simpa only [List.append_assoc] using st₃
        · simpa only [List.append_assoc] using off₁
        · exact ⟨ys, ky, eD₃, by rw [List.append_assoc]; exact dats_more dD⟩
        · have hr : compF tg ft fe ds σ₁ = some r := hr
          rw [hr, ← hro]; rfl
      | true =>
        have hr : ((fe σ₁).bind fun y => (compF tg ft fe ds σ₁).map (y :: ·)) = some r := hr
        obtain ⟨y, hy, hr⟩ := Option.bind_eq_some_iff.mp hr
        obtain ⟨r', hr', rfl⟩ := Option.map_eq_some_iff.mp hr
        rw [if_pos rfl]
        refine y₃.eval he hy fun v' s₄ G₄ k₄ g₄ nb₄ y₄ d₄ => ?_
        have kp₄ : ∀ b o, s₃.heap.get? b = some o → s₄.heap.get? b = some o := keeps_get k₄
        have st₄ := S.frame (G := G₄) st₃ fun b _ o e => kp₄ b o e
        have eD₄ := kp₄ _ _ eD₃
        have lv₄ : Live (D :: wr) s₄.heap := fun b hb => by
          obtain ⟨o, ho⟩ := lv₃ b hb
          exact ⟨o, kp₄ _ _ ho⟩
        rw [← BW.eq lv₃ y₄.keep] at y₄
        have hys := dD.length
        refine append_at eD₄ (fun h₅ hs₅ eD₅ => ?_) (by rw [List.size_toArray, hys, sizeLine_eq]; simp at hsz; omega)
        have off₄ : ∀ b ∈ D :: wr, ∀ o, (b, o) ∉ G₄ ++ (G₁ ++ (G ++ F)) := fun b hb o hm => by
          rcases List.mem_append.mp hm with h | h
          · exact nb₄.notin lv₃ b hb o h
          · exact off₁ b hb o h
        have y₅ := y₄.turn (G := []) (tk := s₄.toks) (h' := h₅) off₄ hwB tb lv₄ hc (fun _ q => nomatch q) (fun b o hb e => hs₅.extBut b o (fun q => hb (q ▸ List.mem_cons_self)) e) (Nat.le_refl _)
        refine ⟨ds.length, Nat.lt_succ_self _, ds, es ++ [y], G₄ ++ (G₁ ++ G), σ₁, ⟨?_, nb₄.weak.append nb₁, ?_, ?_, ?_⟩, by simp at hsz ⊢; omega, ?_, rfl⟩
        · have e : G₄ ++ (G₁ ++ G) ++ F = [] ++ (G₄ ++ (G₁ ++ (G ++ F))) := by simp
          rw [e]; exact y₅
        · have := S.frame (G := []) st₄ (h' := h₅) fun b hb o e => hs₅.extBut b o (fun q => hD (q ▸ hb)) e
          simpa only [List.append_assoc, List.nil_append] using this
        · simpa only [List.append_assoc] using off₄
        · refine ⟨ys ++ [v'], ky + 1, ?_, ?_⟩
          · rw [eD₅]; simp
          · have d1 : DatAll (G₄ ++ (G₁ ++ (G ++ F))) (ys ++ [v']) (es ++ [y]) := (dats_more (G := G₄) (dats_more (G := G₁) dD)).append (.cons d₄ .nil)
            simpa only [List.append_assoc] using d1
        · rw [hr']
          show some (es ++ [y] ++ r') = _
          rw [← hro, List.append_assoc]; rfl
    · obtain ⟨v, rfl, z⟩ := z
      exact z
end
end Mine

end -- S8

section -- S9
namespace Mine
open PySem PySem.W PyProof.Rows
set_option maxRecDepth 100000

/-- what can be read off a comprehension's text -/
structure CompOk (sc scope : Scope) (nm own : List Str) (cap : List (Nat × Str)) : Prop where
  kind : scope.kind = .function
  names : ∀ x ∈ scope.names, x.2 = .local → scope.names.lookup x.1 = some .local
  free : ∀ x, (x, NameKind.free) ∈ scope.names → ∃ p ∈ cap, p.2 = x
  cap : ∀ p ∈ cap, nm[p.1]? = some p.2 ∧ ((relabelS scope sc).names.lookup p.2 = some .cell ∨ (relabelS scope sc).names.lookup p.2 = some .free) ∧ (p.2, NameKind.cell) ∉ scope.names ∧ p.2 ∉ own ∧ (p.2, NameKind.free) ∈ scope.names ∧ sc.names.lookup p.2 ≠ some .local
  own : ∀ x ∈ own, ((relabelS scope sc).names.lookup x = some .local ∧ (x, NameKind.cell) ∉ scope.names) ∨ ((relabelS scope sc).names.lookup x = some .cell ∧ (x, NameKind.cell) ∈ scope.names)

def capV (σ : VS) (p : Nat × Str) : VV := match σ.get p.1 with
  | some d => .val d
  | none => .no
def innerV (own : List Str) (cap : List (Nat × Str)) (σ : VS) : VS := own.map (fun _ => VV.no) ++ cap.map (capV σ)
def capsOk (cap : List (Nat × Str)) (σ : VS) : Bool := cap.all fun p => (σ.get p.1).isSome

theorem inner_get {own : List Str} {cap : List (Nat × Str)} {σ : VS} {i : Nat} {x : Str} {d : Dat} (hx : (own ++ cap.map (·.2))[i]? = some x) (hd : (innerV own cap σ).get i = some d) : ∃ p ∈ cap, p.2 = x ∧ σ.get p.1 = some d := by
  unfold VS.get VS.at innerV at hd
  rw [List.getD_eq_getElem?_getD] at hd
  by_cases hi : i < own.length
  · rw [List.getElem?_append_left (by simpa using hi), List.getElem?_map, List.getElem?_eq_getElem hi] at hd
    cases hd
  · rw [List.getElem?_append_right (by simpa using Nat.le_of_not_lt hi), List.getElem?_map] at hd
    rw [List.getElem?_append_right (Nat.le_of_not_lt hi), List.getElem?_map] at hx
    rw [List.length_map] at hd
    cases hp : cap[i - own.length]? with
    | none => rw [hp] at hx; cases hx
    | some p =>
      rw [hp] at hx hd
      refine ⟨p, List.mem_of_getElem? hp, Option.some.inj hx, ?_⟩
      have hd : (match capV σ p with | .val d => some d | _ => none) = some d := hd
      unfold capV at hd
      cases hq : σ.get p.1 with
      | none => rw [hq] at hd; cases hd
      | some d' => rw [hq] at hd; exact hd
theorem inner_acc {own : List Str} {cap : List (Nat × Str)} {σ : VS} {i : Nat} {ds : List Dat} (hd : (innerV own cap σ).at i = .acc ds) : False := by
  unfold VS.at innerV at hd
  rw [List.getD_eq_getElem?_getD] at hd
  by_cases hi : i < own.length
  · rw [List.getElem?_append_left (by simpa using hi), List.getElem?_map, List.getElem?_eq_getElem hi] at hd
    cases hd
  · rw [List.getElem?_append_right (by simpa using Nat.le_of_not_lt hi), List.getElem?_map, List.length_map] at hd
    cases hp : cap[i - own.length]? with
    | none => rw [hp] at hd; cases hd
    | some p =>
      rw [hp] at hd
      have hd : capV σ p = .acc ds := hd
      unfold capV at hd
      split at hd <;> cases hd

section
variable {sc : Scope} {nm : List Str} {n : Nat} {prog : Program} {w : World} {A : Around} {env : Env} {s₀ s : Shared} {F G : FL} {σ : VS}

theorem caps_cell {scope : Scope} {own : List Str} {cap : List (Nat × Str)} (C : CompOk sc scope nm own cap) (a : At sc nm n A env s F σ) (hc : capsOk cap σ = true) {p : Nat × Str} (hp : p ∈ cap) :
    ∃ c v d, env.cells.lookup p.2 = some c ∧ s.heap.IsCell c (some v) ∧ σ.get p.1 = some d ∧ DatIn F v d := by
  have h1 := List.all_eq_true.mp hc p hp
  obtain ⟨d, hd⟩ := Option.isSome_iff_exists.mp h1
  obtain ⟨v, hv, dd⟩ := a.sees p.1 p.2 d (C.cap p hp).1 hd
  rcases hv with ⟨hk, _⟩ | ⟨_, c, e, hi⟩
  · exact absurd (by unfold Env.kindOf at hk; rw [a.envOk.scope] at hk; exact hk) (C.cap p hp).2.2.2.2.2
  · exact ⟨c, v, d, e, hi, hd, dd⟩

/-- the frame that a comprehension starts with -/
theorem comp_start {scope : Scope} {own : List Str} {cap : List (Nat × Str)} {cl : List (Str × Addr)} {wr : List Addr} {tk : Nat} (C : CompOk sc scope nm own cap) (a : At sc nm n A env s F σ) (hcap : capsOk cap σ = true)
    (hcl : ∀ p ∈ cl, env.cells.lookup p.1 = some p.2 ∧ (p.1, NameKind.free) ∈ scope.names) (hcl' : ∀ x, (x, NameKind.free) ∈ scope.names → ∃ c, cl.lookup x = some c)
    (hr : Rest false s₀ s) (k₀ : ∀ b o, s₀.heap.get? b = some o → s.heap.get? b = some o) (top : Tops s₀.heap) (hwr : ∀ b ∈ wr, ∃ o, s.heap.get? b = some o)
    (hcw : ∀ z c, env.cells.lookup z = some c → (z, NameKind.free) ∈ scope.names → c ∉ wr) (ht : s.toks ≤ tk) :
    Fm false (relabelS scope sc) (own ++ cap.map (·.2)) own n A (compEnvC scope (cellsFrom (s.heap.objs.size + 1 + 1) scope.names cl) (s.heap.objs.size + 1) env) s₀
      (BW (fun b o => s₀.heap.get? b = some o) (s.heap.objs.size :: wr) (pushCells ((s.heap.push (listOf #[] 0)).push { cls := .type "dict", data := .dict #[] }) scope.names))
      { s with heap := pushCells ((s.heap.push (listOf #[] 0)).push { cls := .type "dict", data := .dict #[] }) scope.names, toks := tk } F (innerV own cap σ) ∧
    (∀ z c, (cellsFrom (s.heap.objs.size + 1 + 1) scope.names cl).lookup z = some c → c ∉ s.heap.objs.size :: wr) := by
  generalize hH : (s.heap.push (listOf #[] 0)).push { cls := .type "dict", data := .dict #[] } = H
  have hHs : H.objs.size = s.heap.objs.size + 1 + 1 := by rw [← hH, Heap.size_push, Heap.size_push]
  have up : ∀ b o, s.heap.get? b = some o → (pushCells H scope.names).get? b = some o := fun b o e => pushCells_keeps _ _ _ _ (hH ▸ Heap.get?_push_of_some _ (Heap.get?_push_of_some _ e))
  have fresh : ∀ b, s.heap.objs.size ≤ b → s.heap.get? b = none := fun b hb => by
    cases e : s.heap.get? b with
    | none => rfl
    | some o => exact absurd (Heap.lt_size e) (Nat.not_lt.mpr hb)
  have fresh₀ : ∀ b, s.heap.objs.size ≤ b → s₀.heap.get? b = none := fun b hb => by
    cases e : s₀.heap.get? b with
    | none => rfl
    | some o => have := k₀ b o e; rw [fresh b hb] at this; cases this
  have freshF : ∀ b o, s.heap.objs.size ≤ b → (b, o) ∉ F := fun b o hb hm => by
    have := a.has _ hm
    rw [fresh b hb] at this; cases this
  have hE : (compEnvC scope (cellsFrom (s.heap.objs.size + 1 + 1) scope.names cl) (s.heap.objs.size + 1) env).scope = relabelS scope sc := relabel_eq a.envOk
  have cellIn : ∀ p ∈ cl, p.2 < s.heap.objs.size ∧ ∃ v, s.heap.IsCell p.2 v := fun p hp => by
    obtain ⟨h1, h2⟩ := hcl p hp
    obtain ⟨q, hq, hqe⟩ := C.free _ h2
    obtain ⟨c, v, d, e1, e2, _⟩ := caps_cell C a hcap hq
    rw [hqe, h1] at e1
    cases e1
    exact ⟨e2.lt, _, e2⟩
  have memLook : ∀ z c, (cellsFrom (s.heap.objs.size + 1 + 1) scope.names cl).lookup z = some c → (z, c) ∈ cl ∨ (s.heap.objs.size + 1 + 1 ≤ c ∧ (z, NameKind.cell) ∈ scope.names) := fun z c h => cells_mem _ _ _ _ _ (mem_of_lookup h)
  have cw : ∀ z c, (cellsFrom (s.heap.objs.size + 1 + 1) scope.names cl).lookup z = some c → c ∉ s.heap.objs.size :: wr := by
    intro z c h hm
    rcases memLook z c h with h | ⟨h, _⟩
    · obtain ⟨h1, v, h2⟩ := cellIn _ h
      rcases List.mem_cons.mp hm with e | hm
      · exact Nat.lt_irrefl _ (e ▸ h1)
      · exact hcw z c (hcl _ h).1 (hcl _ h).2 hm
    · rcases List.mem_cons.mp hm with e | hm
      · rw [e] at h
        have : s.heap.objs.size + 1 + 1 ≤ s.heap.objs.size := h
        omega
      · obtain ⟨o, ho⟩ := hwr c hm
        rw [fresh c (by omega)] at ho; cases ho
  have offNew : ∀ b, s.heap.objs.size + 1 ≤ b → Off (BW (fun b o => s₀.heap.get? b = some o) (s.heap.objs.size :: wr) (pushCells H scope.names)) F b := by
    intro b hb
    refine ⟨fun o ho => ?_, fun o => freshF b o (by omega)⟩
    rcases ho with ho | ⟨ho, _⟩
    · rw [fresh₀ b (by omega)] at ho; cases ho
    · rcases List.mem_cons.mp ho with e | ho
      · rw [e] at hb
        have : s.heap.objs.size + 1 ≤ s.heap.objs.size := hb
        omega
      · obtain ⟨o', ho'⟩ := hwr b ho
        rw [fresh b (by omega)] at ho'; cases ho'
  refine ⟨⟨⟨hE, ?_, a.envOk.gl, a.envOk.bi⟩, a.ok, ⟨s₀.heap, top, fun b o e => .inl e⟩, a.has.keeps up, ?_, Nat.le_trans a.tok ht, hr.same _ _, ?_, ?_, ?_, ?_, ?_, ?_, fun i x ds _ hd => (inner_acc hd).elim, fun _ => 0, ?_, ?_⟩, cw⟩
  · exact C.kind
  · intro i x d hx hd
    obtain ⟨p, hp, rfl, hpd⟩ := inner_get hx hd
    obtain ⟨c, v, d', e1, e2, e3, e4⟩ := caps_cell C a hcap hp
    rw [hpd] at e3; cases e3
    obtain ⟨q1, q2, q3, q4, q5, q6⟩ := C.cap p hp
    refine ⟨v, .inr ⟨?_, c, ?_, e2.keeps up⟩, e4⟩
    · unfold Env.kindOf
      rw [hE]
      exact q2
    · show (cellsFrom _ _ cl).lookup p.2 = some c
      rw [cells_kept _ _ _ _ q3]
      obtain ⟨c', hc'⟩ := hcl' p.2 q5
      have := (hcl _ (mem_of_lookup hc')).1
      rw [e1] at this
      cases this
      exact hc'
  · intro b o hb
    rcases hb with hb | ⟨_, hb⟩
    · exact up _ _ (k₀ _ _ hb)
    · exact hb
  · refine ⟨fun _ => none, Heap.Ns.keeps ?_ (pushCells_keeps _ _)⟩
    rw [← hH]
    have := Heap.Ns.new (s.heap.push (listOf #[] 0)) (.type "dict")
    rwa [Heap.size_push] at this
  · exact offNew _ (Nat.le_refl _)
  · intro z c h
    rcases memLook z c h with h' | ⟨h', _⟩
    · obtain ⟨h1, v, h2⟩ := cellIn _ h'
      refine ⟨?_, v, h2.keeps up⟩
      show c ≠ s.heap.objs.size + 1
      intro e
      have h1 : @LT.lt Nat _ c s.heap.objs.size := h1
      rw [e] at h1
      exact absurd h1 (Nat.not_lt.mpr (Nat.le_succ _))
    · refine ⟨?_, ?_⟩
      · show c ≠ s.heap.objs.size + 1
        intro e
        rw [e] at h'
        omega
      · have hm := mem_of_lookup h
        have hm : (z, c) ∈ cellsFrom (s.heap.objs.size + 1 + 1) scope.names cl := hm
        rw [← hHs] at hm
        rcases cells_empty _ _ _ _ _ hm with q | q
        · obtain ⟨_, v, h2⟩ := cellIn _ q
          exact ⟨v, h2.keeps up⟩
        · exact ⟨_, q⟩
  · intro x hx y c h1 h2
    have h1 : (cellsFrom (s.heap.objs.size + 1 + 1) scope.names cl).lookup x = some c := h1
    have h2 : (cellsFrom (s.heap.objs.size + 1 + 1) scope.names cl).lookup y = some c := h2
    have own : s.heap.objs.size + 1 + 1 ≤ c := by
      rcases memLook x c h1 with q | q
      · obtain ⟨p, hp, rfl⟩ := C.free _ (hcl _ q).2
        exact absurd hx (C.cap p hp).2.2.2.1
      · exact q.1
    refine cells_inj scope.names (s.heap.objs.size + 1 + 1) cl (s.heap.objs.size + 1 + 1) (Nat.le_refl _) (fun p hp => Nat.lt_of_lt_of_le (cellIn p hp).1 (Nat.le_succ_of_le (Nat.le_succ _))) ?_ x y c own (mem_of_lookup h1) (mem_of_lookup h2)
    intro x y c hc hx _
    exact absurd (cellIn _ hx).1 (Nat.not_lt.mpr (Nat.le_trans (Nat.le_succ_of_le (Nat.le_succ _)) hc))
  · intro x hx
    rcases C.own x hx with ⟨q, _⟩ | ⟨q, q'⟩
    · refine .inl ?_
      unfold Env.kindOf
      rw [hE]; exact q
    · refine .inr ⟨?_, ?_⟩
      · unfold Env.kindOf
        rw [hE]; exact q
      · obtain ⟨c, h1, h2⟩ := cells_more scope.names (s.heap.objs.size + 1 + 1) (s.heap.objs.size + 1 + 1) cl x (Nat.le_refl _) (.inl q')
        exact ⟨c, h1, offNew c (by omega)⟩
  · intro i x ds hx hd
    exact (inner_acc hd).elim
  · intro i j x y ds es hx hy hd
    exact (inner_acc hd).elim
end
end Mine

end -- S9

section -- S10
namespace Mine
open PySem PySem.W PyProof.Rows
set_option maxRecDepth 100000

section
variable {sc : Scope} {nm : List Str} {n : Nat} {prog : Program} {w : World} {A : Around} {env : Env} {s : Shared} {F : FL} {σ : VS}

theorem comp_core {tgt elt iter : Expr} {ifs : List Expr} {scope : Scope} {pos : Pos} {own : List Str} {cap : List (Nat × Str)} {cl : List (Str × Addr)} {fi : VS → Option (List Dat)} {tg : VS → Dat → Option VS} {ft : VS → Option Bool} {fe : VS → Option Dat}
    {ds out : List Dat} {RR : Value → Addr → Result → Shared → Prop}
    (C : CompOk sc scope nm own cap) (hi : CI sc nm n iter fi) (ht : CA (own ++ cap.map (·.2)) own tgt tg) (hf : CTs (relabelS scope sc) (own ++ cap.map (·.2)) n ifs ft) (he : CE (relabelS scope sc) (own ++ cap.map (·.2)) n elt fe)
    (htgt : (∃ es k p, tgt = .Tuple es k p) ∨ (∃ x p, tgt = .Name x p))
    (a : At sc nm n A env s F σ) (hcap : capsOk cap σ = true) (hcl : ∀ p ∈ cl, env.cells.lookup p.1 = some p.2 ∧ (p.1, NameKind.free) ∈ scope.names) (hcl' : ∀ x, (x, NameKind.free) ∈ scope.names → ∃ c, cl.lookup x = some c)
    (hds : fi σ = some ds) (hlen : ds.length ≤ 1000000) (ho : compF tg ft fe ds (innerV own cap σ) = some out)
    (hRR : ∀ D C h' tk G, (∃ m, h'.Ns C m) → s.heap.get? C = none → (∀ o, (C, o) ∉ G) → D ≠ C → Keeps s { s with heap := h', toks := tk } → New s { s with heap := h', toks := tk } G → DatIn (G ++ F) (.ref D) (.list out) → 1 ≤ tk →
      RR (.ref D) C (.ok .next) { s with heap := h', toks := tk }) :
    wpAny (model prog w) A (eval iter env) (fun x s₁ => wpAny (model prog w) A (pyIter x) (fun it s₂ => wpAny (model prog w) A (newList []) (fun acc s₃ =>
      wpAny (model prog w) A (newFunctionEnv scope env.globals cl [] env.qual none .none (some env)) (fun cenv s₄ =>
        codeAny (model prog w) A (.compStart (.ListComp elt [⟨tgt, iter, ifs, 0⟩] scope pos) 0 it acc { cenv with scope := relabel scope env }) (RR acc cenv.locals) s₄) (fun _ _ => False) s₃) (fun _ _ => False) s₂) (fun _ _ => False) s₁) (fun _ _ => False) s := by
  refine hi prog w A env s F σ ds tgt _ _ a hds htgt fun it s₂ G wr St k g t S st fr off => ?_
  have a₂ := a.keeps k g t
  obtain ⟨h₂, tk₂, rfl, kp⟩ := id k
  dsimp only at a₂ st t ⊢
  have hDn : s.heap.get? h₂.objs.size = none := not_there k (size_none h₂)
  have hlive : ∀ b ∈ wr, ∃ o, h₂.get? b = some o := S.live st
  have hD : h₂.objs.size ∉ wr := fun hm => by
    obtain ⟨o, ho⟩ := hlive _ hm
    rw [size_none] at ho; cases ho
  refine wpAny_newObj_type ?_ (by show 0 ≤ sizeLine; exact Nat.zero_le _)
  refine wp_compEnv ?_
  have hsz : (h₂.push (listOf #[] 0)).objs.size = h₂.objs.size + 1 := Heap.size_push ..
  obtain ⟨fm, cw⟩ := comp_start (s₀ := s) (wr := wr) (tk := tk₂) C a₂ hcap hcl hcl' ⟨h₂, tk₂, s.gens, rfl, fun _ => rfl, fun h => h⟩ kp a.tops hlive (fun z c hz hf hm => by
    obtain ⟨p, hp, rfl⟩ := C.free _ hf
    obtain ⟨c', v, d, e1, ⟨o, ho, _⟩, _⟩ := caps_cell C a hcap hp
    rw [hz] at e1
    cases e1
    rw [fr c hm] at ho
    cases ho) (Nat.le_refl _)
  · dsimp only at fm cw
    show codeAny (model prog w) A (.compStart _ 0 it (.ref h₂.objs.size) (compEnvC scope (cellsFrom ((h₂.push (listOf #[] 0)).objs.size + 1) scope.names cl) (h₂.push (listOf #[] 0)).objs.size env)) (RR (.ref h₂.objs.size) (h₂.push (listOf #[] 0)).objs.size) _
    rw [hsz]
    have up : ∀ b o, h₂.get? b = some o → (pushCells ((h₂.push (listOf #[] 0)).push { cls := .type "dict", data := .dict #[] }) scope.names).get? b = some o := fun b o e => pushCells_keeps _ _ _ _ (Heap.get?_push_of_some _ (Heap.get?_push_of_some _ e))
    have st' := S.frame (G := []) st (h' := pushCells ((h₂.push (listOf #[] 0)).push { cls := .type "dict", data := .dict #[] }) scope.names) fun b _ o e => up b o e
    have hwB : ∀ b ∈ h₂.objs.size :: wr, ∀ o, ¬ s.heap.get? b = some o := by
      intro b hb o e
      rcases List.mem_cons.mp hb with rfl | hb
      · rw [hDn] at e; cases e
      · rw [fr b hb] at e; cases e
    have loop : codeAny (model prog w) A (.compLoop (.ListComp elt [⟨tgt, iter, ifs, 0⟩] scope pos) 0 it (.ref h₂.objs.size) (compEnvC scope (cellsFrom (h₂.objs.size + 1 + 1) scope.names cl) (h₂.objs.size + 1) env)) (RR (.ref h₂.objs.size) (h₂.objs.size + 1))
        { s with heap := pushCells ((h₂.push (listOf #[] 0)).push { cls := .type "dict", data := .dict #[] }) scope.names, toks := tk₂ } := by
      refine comp_turns (s₀ := s) (B := fun b o => s.heap.get? b = some o) (F := F) (G := G) (out := out) S hD ht hf he hwB ⟨s.heap, a.tops, fun _ _ e => e⟩ cw ?_ (ds := ds) (es := []) ⟨fm, fun p hp o e => (by rw [(g p hp).2] at e; cases e), st', ?_, [], 0, ?_, .nil⟩ (by simpa using hlen) (by rw [ho]; rfl)
      · intro s' G' σ' x h' tk kk eD tt
        obtain ⟨ys, ky, e1, d1⟩ := x.acc
        have lv : Live (h₂.objs.size :: wr) s'.heap := by
          intro b hb
          rcases List.mem_cons.mp hb with rfl | hb
          · exact ⟨_, e1⟩
          · exact S.live x.st b hb
        have hC : h₂.objs.size + 1 ∉ h₂.objs.size :: wr := x.fm.offL.notin lv
        have hDC : h₂.objs.size ≠ h₂.objs.size + 1 := fun q => hC (q ▸ List.mem_cons_self)
        obtain ⟨m, hm⟩ := x.fm.ns
        have xf := x.fm
        have hCn : s.heap.get? (h₂.objs.size + 1) = none := by
          cases e : s.heap.get? (h₂.objs.size + 1) with
          | none => rfl
          | some o => exact absurd (.inl e) (xf.offL.1 o)
        obtain ⟨hh, tk', gg, rfl, hg, _⟩ := xf.rest
        have hg := hg rfl
        subst hg
        refine hRR h₂.objs.size (h₂.objs.size + 1) h' tk ((h₂.objs.size, listOf ys.toArray ky) :: G') ⟨m, ?_⟩ hCn ?_ hDC ⟨h', tk, rfl, ?_⟩ ?_ (.list List.mem_cons_self (d1.mono fun _ q => List.mem_cons_of_mem _ q)) ?_
        · obtain ⟨o, es, ep, q, r⟩ := hm
          exact ⟨o, es, ep, kk _ _ hC q, r⟩
        · intro o hm
          rcases List.mem_cons.mp hm with q | q
          · exact hDC (Prod.mk.inj q).1.symm
          · exact xf.offL.2 o (List.mem_append_left _ q)
        · intro i o e
          exact kk i o (fun q => hwB i q o e) (xf.keep i o (.inl e))
        · intro p hp
          rcases List.mem_cons.mp hp with q | q
          · rw [q]
            exact ⟨by rw [← eD]; exact e1, hDn⟩
          · refine ⟨kk _ _ (fun z => x.off _ z p.2 (List.mem_append_left _ q)) (xf.has p (List.mem_append_left _ q)), ?_⟩
            cases e : s.heap.get? p.1 with
            | none => rfl
            | some o => exact absurd e (x.new p q o)
        · exact Nat.le_trans xf.tok tt
      · intro b hb o hm
        rcases List.mem_cons.mp hb with rfl | hb
        · have := a₂.has _ hm
          rw [size_none] at this; cases this
        · exact off b hb o hm
      · exact pushCells_keeps _ _ _ _ (Heap.get?_push_of_some _ (Heap.get?_push_size _ rfl))
    exact codeAny_compStart_list loop (S.self st' loop)
end
end Mine

end -- S10

section -- S11
namespace Mine
open PySem PySem.W PyProof.Rows
set_option maxRecDepth 100000

section
variable {sc : Scope} {nm : List Str} {n : Nat}
theorem CE.comp {tgt elt iter : Expr} {ifs : List Expr} {scope : Scope} {pos : Pos} (own : List Str) (cap : List (Nat × Str)) {fi : VS → Option (List Dat)} {tg : VS → Dat → Option VS} {ft : VS → Option Bool} {fe : VS → Option Dat}
    (C : CompOk sc scope nm own cap) (hi : CI sc nm n iter fi) (ht : CA (own ++ cap.map (·.2)) own tgt tg) (hf : CTs (relabelS scope sc) (own ++ cap.map (·.2)) n ifs ft) (he : CE (relabelS scope sc) (own ++ cap.map (·.2)) n elt fe)
    (htgt : (∃ es k p, tgt = .Tuple es k p) ∨ (∃ x p, tgt = .Name x p)) (hs : ∀ env x, foldedSetIterable iter env x = pure x) :
    CE sc nm n (.ListComp elt [⟨tgt, iter, ifs, 0⟩] scope pos) (fun σ => (fi σ).bind fun ds => if ds.length ≤ 1000000 ∧ capsOk cap σ = true then (compF tg ft fe ds (innerV own cap σ)).map .list else none) := by
  intro prog w A env s F σ d a hd
  obtain ⟨ds, hds, hd⟩ := Option.bind_eq_some_iff.mp hd
  split at hd
  · rename_i hh
    obtain ⟨out, ho, rfl⟩ := Option.map_eq_some_iff.mp hd
    obtain ⟨cl, hclos, hcl, hcl'⟩ := closureFor_some (scope := scope) (env := env) fun x hx => by
      obtain ⟨p, hp, rfl⟩ := C.free _ hx
      obtain ⟨c, _, _, e, _⟩ := caps_cell C a hh.2 hp
      exact ⟨c, e⟩
    rw [eval_ListComp]
    refine wpAny_comprehension_free (use := none) rfl (hs env) hclos C.kind C.names ?_
    refine comp_core (RR := fun acc C => compPost (model prog w) A (fun _ _ => False) none (Ends s F (.list out)) acc C) C hi ht hf he htgt a hh.2 hcl hcl' hds hh.1 ho ?_
    intro D C h' tk G hns hC hCG hDC k g dd _
    obtain ⟨m, hm⟩ := hns
    refine ⟨m, hm, fun h'' hs'' => ⟨⟨h'', tk, rfl, fun i o e => hs''.extBut i o (fun q => by rw [q, hC] at e; cases e) (keeps_get k i o e)⟩, G, fun p hp => ⟨hs''.extBut _ _ (fun q => hCG p.2 (q ▸ hp)) (g p hp).1, (g p hp).2⟩, dd⟩⟩
  · cases hd

variable {gs : Bool} {mu : List Str} {A : Around} {env : Env} {s₀ s : Shared} {B : BP} {F : FL} {σ : VS}
/-- what nobody relies on may change -/
theorem Fm.drop {C : Addr} {h' : Heap} {oC : Obj} (y : Fm gs sc nm mu n A env s₀ (BW B [C] s.heap) s F σ) (hC : s.heap.get? C = some oC) (hF : ∀ o, (C, o) ∉ F) (hB : ∀ o, ¬ B C o) (tb : ∃ h₀, Tops h₀ ∧ ∀ b o, h₀.get? b = some o → B b o) (hc : ∀ z c, env.cells.lookup z = some c → c ≠ C)
    (hs : Heap.SameBut C s.heap h') : Fm gs sc nm mu n A env s₀ B { s with heap := h' } F σ := by
  refine (y.turn (G := []) (tk := s.toks) (h' := h') ?_ ?_ tb ?_ ?_ (fun _ q => nomatch q) ?_ (Nat.le_refl _)).weak tb
  · intro b hb; cases List.mem_singleton.mp hb; exact hF
  · intro b hb; cases List.mem_singleton.mp hb; exact hB
  · intro b hb; cases List.mem_singleton.mp hb; exact ⟨_, hC⟩
  · intro z c e hm; exact hc z c e (List.mem_singleton.mp hm)
  · intro b o hb e; exact hs.extBut b o (fun q => hb (List.mem_singleton.mpr q)) e

theorem CX.assignComp (i : Nat) {y : Str} {py spos : Pos} {tgt elt iter : Expr} {ifs : List Expr} {scope : Scope} {pos : Pos} (own : List Str) (cap : List (Nat × Str)) {fi : VS → Option (List Dat)} {tg : VS → Dat → Option VS} {ft : VS → Option Bool} {fe : VS → Option Dat}
    (C : CompOk sc scope nm own cap) (hi : CI sc nm n iter fi) (ht : CA (own ++ cap.map (·.2)) own tgt tg) (hf : CTs (relabelS scope sc) (own ++ cap.map (·.2)) n ifs ft) (he : CE (relabelS scope sc) (own ++ cap.map (·.2)) n elt fe)
    (htgt : (∃ es k p, tgt = .Tuple es k p) ∨ (∃ x p, tgt = .Name x p)) (hs : ∀ env x, foldedSetIterable iter env x = pure x) (hy : nm[i]? = some y) (hm : y ∈ mu) (hnd : nm.Nodup)
    (hsw : ∀ env, EnvOk sc env → swapsWith (.ListComp elt [⟨tgt, iter, ifs, 0⟩] scope pos) (some (.Name y py)) spos.line env = pure true) :
    CX gs sc nm mu n (.Assign [.Name y py] (.ListComp elt [⟨tgt, iter, ifs, 0⟩] scope pos) spos) (fun σ => (fi σ).bind fun ds => if ds.length ≤ 1000000 ∧ capsOk cap σ = true then (compF tg ft fe ds (innerV own cap σ)).map fun l => .next (σ.set i (.val (.list l))) else none) := by
  intro prog w A env s₀ B s F σ o fm hd
  obtain ⟨ds, hds, hd⟩ := Option.bind_eq_some_iff.mp hd
  split at hd
  · rename_i hh
    obtain ⟨out, ho, rfl⟩ := Option.map_eq_some_iff.mp hd
    have a := fm.at
    obtain ⟨cl, hclos, hcl, hcl'⟩ := closureFor_some (scope := scope) (env := env) fun x hx => by
      obtain ⟨p, hp, rfl⟩ := C.free _ hx
      obtain ⟨c, _, _, e, _⟩ := caps_cell C a hh.2 hp
      exact ⟨c, e⟩
    rw [exec_Assign_Name_used _ _ _ _ (hsw env fm.envOk)]
    refine wpAny_bind (wpAny_standAt (wpAny_bind ?_))
    show wpAny _ A (do let _ ← PySem.comprehension (.ListComp elt [⟨tgt, iter, ifs, 0⟩] scope pos) scope env _ (newList []) false (eval iter env) (some (PySem.assign (Expr.Name y py) env)); pure () : Sem Unit) _ _ s
    refine wpAny_bind (wpAny_mono (wpAny_comprehension_free (use := some (PySem.assign (Expr.Name y py) env)) (Q := fun _ s' => SEnd gs sc nm mu n A env s₀ B F (.next (σ.set i (.val (.list out)))) .next s') rfl (hs env) hclos C.kind C.names ?_) (fun _ s' hq => wpAny_pure (wpAny_pure hq)) fun _ _ e => e)
    refine comp_core (RR := fun acc C => compPost (model prog w) A (fun _ _ => False) (some (PySem.assign (Expr.Name y py) env)) (fun _ s' => SEnd gs sc nm mu n A env s₀ B F (.next (σ.set i (.val (.list out)))) .next s') acc C) C hi ht hf he htgt a hh.2 hcl hcl' hds hh.1 ho ?_
    intro D C h' tk G hns hC hCG hDC k g dd t1
    obtain ⟨m, hm'⟩ := hns
    have nb := NewB.of_new fm.keep g
    have live : ∀ {b : Addr} {o : Obj}, s.heap.get? b = some o → b ≠ C := fun {b} {o} e q => by rw [q, hC] at e; cases e
    have hcell : ∀ z c, env.cells.lookup z = some c → c ≠ C := fun z c e => by
      obtain ⟨_, v, o, ho, _⟩ := fm.cells z c e
      exact live ho
    have y₁ := (fm.keeps1 k g t1).strong (wr := [C]) ?_ ?_ ?_
    · show wpAny _ A (PySem.assign (Expr.Name y py) env (.ref D)) _ _ _
      refine wpAny_assign_Name (y₁.store hy hm hnd (q := .val (.list out)) dd trivial fun s₂ y₂ => ?_)
      obtain ⟨oC, hoC⟩ : ∃ o, h'.get? C = some o := by obtain ⟨o, _, _, e, _⟩ := hm'; exact ⟨o, e⟩
      have hoC₂ : s₂.heap.get? C = some oC := y₂.keep C oC (.inr ⟨List.mem_singleton.mpr rfl, hoC⟩)
      refine ⟨m, ?_, fun h'' hs'' => ⟨rfl, G, nb, ?_⟩⟩
      · obtain ⟨o, es, ep, e, r⟩ := hm'
        rw [hoC] at e; cases e
        exact ⟨oC, es, ep, hoC₂, r⟩
      · have lv : Live [C] h' := fun b hb => by cases List.mem_singleton.mp hb; exact ⟨_, hoC⟩
        rw [← BW.eq lv y₂.keep] at y₂
        refine y₂.drop hoC₂ ?_ ?_ fm.tb hcell hs''
        · intro o hm
          rcases List.mem_append.mp hm with q | q
          · exact hCG o q
          · have := fm.has _ q
            rw [hC] at this; cases this
        · intro o hb
          have := fm.keep _ _ hb
          rw [hC] at this; cases this
    · intro hmem
      obtain ⟨m', o, _, _, e, _⟩ := fm.ns
      exact live e (List.mem_singleton.mp hmem)
    · intro z c e hmem
      exact hcell z c e (List.mem_singleton.mp hmem)
    · intro j x es hx hd l hl hmem
      obtain ⟨al, a1, _⟩ := fm.accs
      obtain ⟨vs, kk, b1, b2, _⟩ := a1 j x es hx hd
      have e : al j = l := Value.ref.inj ((b1.keeps (keeps_get k)).one hl)
      rw [e] at b2
      exact live b2 (List.mem_singleton.mp hmem)
  · cases hd
end
end Mine

end -- S11

section -- S12
namespace Mine
open PySem PySem.W PyProof.Rows
set_option maxRecDepth 100000

theorem bindL_not {kindOf : Str → Option NameKind} {x : Str} : ∀ (bs : List (Str × Value)) (m : Str → Option Value), (∀ p ∈ bs, p.1 ≠ x) → bindL kindOf bs m x = m x
  | [], _, _ => rfl
  | (y, v) :: r, m, h => by
    unfold bindL
    rw [bindL_not r _ fun p hp => h p (List.mem_cons_of_mem _ hp)]
    split
    · exact if_neg fun q => h (y, v) List.mem_cons_self q.symm
    · rfl
theorem bindL_at {kindOf : Str → Option NameKind} {x : Str} {v : Value} : ∀ (bs : List (Str × Value)) (m : Str → Option Value), (bs.map (·.1)).Nodup → (∀ p ∈ bs, kindOf p.1 = some .local) → (x, v) ∈ bs → bindL kindOf bs m x = some v
  | (y, u) :: r, m, hn, hk, h => by
    have hn' : y ∉ r.map (·.1) ∧ (r.map (·.1)).Nodup := List.nodup_cons.mp hn
    unfold bindL
    rcases List.mem_cons.mp h with q | q
    · cases q
      rw [if_pos (hk _ List.mem_cons_self), bindL_not r _ fun p hp (e : p.1 = x) => hn'.1 (by rw [← e]; exact List.mem_map_of_mem (f := (·.1)) hp)]
      exact if_pos rfl
    · exact bindL_at r _ hn'.2 (fun p hp => hk p (List.mem_cons_of_mem _ hp)) q

/-- a def, as a function of its arguments -/
def FnC (a : Addr) (n : Nat) (f : List Dat → Option Dat) : Prop :=
  ∀ (prog : Program) (w : World) (A : Around) (s : Shared) (F : FL) (vs : List Value) (ds : List Dat) (d : Dat), AOk n A → Tops s.heap → Has s.heap F → 1 ≤ s.toks → DatAll F vs ds → f ds = some d →
    wpAny (model prog w) A (call (.ref a) vs) (Ends s F d) (fun _ _ => False) s

/-- the variables at a call -/
def startV (k : Nat) (ds : List Dat) : VS := ds.map .val ++ List.replicate k .no
theorem start_get {ps ls : List Str} {ds : List Dat} {i : Nat} {x : Str} {d : Dat} (hl : ds.length = ps.length) (hx : (ps ++ ls)[i]? = some x) (hd : (startV ls.length ds).get i = some d) : ps[i]? = some x ∧ ds[i]? = some d := by
  unfold VS.get VS.at startV at hd
  rw [List.getD_eq_getElem?_getD] at hd
  by_cases hi : i < ds.length
  · rw [List.getElem?_append_left (by simpa using hi), List.getElem?_map, List.getElem?_eq_getElem hi] at hd
    rw [List.getElem?_append_left (by omega)] at hx
    exact ⟨hx, by rw [List.getElem?_eq_getElem hi]; cases hd; rfl⟩
  · rw [List.getElem?_append_right (by simpa using Nat.le_of_not_lt hi), List.getElem?_replicate] at hd
    exfalso
    by_cases hq : i - (List.map VV.val ds).length < ls.length
    · rw [if_pos hq] at hd; cases hd
    · rw [if_neg hq] at hd; cases hd
theorem start_acc {k : Nat} {ds es : List Dat} {i : Nat} (hd : (startV k ds).at i = .acc es) : False := by
  unfold VS.at startV at hd
  rw [List.getD_eq_getElem?_getD] at hd
  by_cases hi : i < ds.length
  · rw [List.getElem?_append_left (by simpa using hi), List.getElem?_map, List.getElem?_eq_getElem hi] at hd
    cases hd
  · rw [List.getElem?_append_right (by simpa using Nat.le_of_not_lt hi), List.getElem?_replicate] at hd
    split at hd <;> cases hd

/-- what can be read off a def's text -/
structure DefOk (i : Nat) (ps ls mu : List Str) : Prop where
  kind : (scopeAt i).kind = .function
  co : (scopeAt i).isCoroutine = false
  gen : (scopeAt i).isGenerator = false
  bind : ∀ name pm c doc vals, vals.length = ps.length → bindArgs (Calls.docDef name (paramsAt i) (bodyAt i) (scopeAt i) pm c doc) ⟨vals, []⟩ = pure (ps.zip vals)
  par : ∀ x ∈ ps, (scopeAt i).names.lookup x = some .local
  nd : ps.Nodup
  st : ∀ x ∈ mu, (scopeAt i).names.lookup x = some .local ∨ ((scopeAt i).names.lookup x = some .cell ∧ (x, NameKind.cell) ∈ (scopeAt i).names)

section
variable {prog : Program} {w : World} {A : Around} {s : Shared} {F : FL}
theorem AOk.deeper {n : Nat} {env : Env} (x : AOk (n + 1) A) : AOk n (A.deeper env) := by
  obtain ⟨a, b, c⟩ := x
  refine ⟨a, ?_, ?_⟩
  · show A.depth + 1 + n ≤ 400
    omega
  · show A.units + 3 + 10 * n ≤ 1000
    omega

theorem def_start {i : Nat} {ps ls mu : List Str} (D : DefOk i ps ls mu) {n : Nat} {name : Str} {pm doc : Value} {a c : Addr} {vs : List Value} {ds : List Dat} (ok : AOk (n + 1) A) (T : Tops s.heap) (hF : Has s.heap F) (hv : DatAll F vs ds) (hl : ds.length = ps.length)
    {env : Env} (henv : env = callEnvC (Calls.docDef name (paramsAt i) (bodyAt i) (scopeAt i) pm (.ref c) doc) s.heap.objs.size a) {s₁ : Shared} (t1 : 1 ≤ s₁.toks)
    (X : InCallC s env.locals (bindL env.kindOf (ps.zip vs) fun _ => none) env.cells (bindC env.kindOf (ps.zip vs) fun _ => none) s₁) :
    Fm false (scopeAt i) (ps ++ ls) mu n (A.deeper env) env s (fun b o => s.heap.get? b = some o) s₁ F (startV ls.length ds) := by
  subst henv
  obtain ⟨h₁, tk, rfl, kp⟩ := X.done
  have fresh : ∀ b, s.heap.objs.size ≤ b → s.heap.get? b = none := fun b hb => by
    cases e : s.heap.get? b with
    | none => rfl
    | some o => exact absurd (Heap.lt_size e) (Nat.not_lt.mpr hb)
  have off : ∀ b, s.heap.objs.size ≤ b → Off (fun b o => s.heap.get? b = some o) F b := by
    intro b hb
    refine ⟨fun o e => ?_, fun o hm => ?_⟩
    · have e : s.heap.get? b = some o := e
      rw [fresh b hb] at e; cases e
    · have := hF _ hm
      rw [fresh b hb] at this; cases this
  have hlen : vs.length = ps.length := hv.length.trans hl
  refine ⟨⟨rfl, D.kind, rfl, rfl⟩, ok.deeper, ⟨s.heap, T, fun _ _ e => e⟩, hF.keeps kp, ?_, t1, ⟨h₁, tk, s.gens, rfl, fun _ => rfl, fun h => h⟩, kp, ⟨_, X.toInCall.ns⟩, off _ (Nat.le_refl _), ?_, ?_, ?_, fun j x es _ hd => (start_acc hd).elim, fun _ => 0, ?_, ?_⟩
  · intro j x d hx hd
    obtain ⟨h1, h2⟩ := start_get hl hx hd
    obtain ⟨v, hv', dd⟩ := dats_at hv h2
    refine ⟨v, .inl ⟨D.par x (List.mem_of_getElem? h1), _, X.toInCall.ns, ?_⟩, dd⟩
    refine bindL_at _ _ ?_ ?_ ?_
    · have : (ps.zip vs).map (·.1) = ps := by rw [List.map_fst_zip]; omega
      rw [this]; exact D.nd
    · intro p hp
      exact D.par p.1 (List.of_mem_zip hp).1
    · refine List.mem_of_getElem? (i := j) ?_
      rw [List.getElem?_zip_eq_some]
      exact ⟨h1, hv'⟩
  · intro z c' e
    exact ⟨fun q => absurd (q ▸ X.above z c' (mem_of_lookup e)) (Nat.lt_irrefl _), _, X.cell z c' e⟩
  · intro x _ y c' h1 h2
    exact name_of_addr X.apart (mem_of_lookup h2) (mem_of_lookup h1)
  · intro x hx
    rcases D.st x hx with q | ⟨q, q'⟩
    · exact .inl q
    · obtain ⟨c', e1, e2⟩ := cells_more (scopeAt i).names (s.heap.objs.size + 1) (s.heap.objs.size + 1) [] x (Nat.le_refl _) (.inl q')
      exact .inr ⟨q, c', e1, off c' (Nat.le_of_succ_le e2)⟩
  · intro j x es _ hd
    exact (start_acc hd).elim
  · intro j k x y es _ _ _ hd
    exact (start_acc hd).elim

def retF (fb : VS → Option Out) (k : Nat) (np : Nat) (ds : List Dat) : Option Dat := if ds.length = np then (match fb (startV k ds) with | some (.ret d) => some d | _ => none) else none

theorem codeAny_def {i : Nat} {ps ls mu : List Str} (D : DefOk i ps ls mu) {n : Nat} {name : Str} {pm doc : Value} {a c : Addr} {o : Obj} {vs : List Value} {ds : List Dat} (ok : AOk (n + 1) A) (T : Tops s.heap) (hF : Has s.heap F) (ht : 1 ≤ s.toks) (hv : DatAll F vs ds) (hl : ds.length = ps.length)
    (ho : s.heap.get? a = some o) (hdata : o.data = .func (Calls.docDef name (paramsAt i) (bodyAt i) (scopeAt i) pm (.ref c) doc)) (hcd : s.heap.CodeRec (.ref c) name) {R : Result → Shared → Prop}
    (h : ∀ env s₁, Fm false (scopeAt i) (ps ++ ls) mu n (A.deeper env) env s (fun b o => s.heap.get? b = some o) s₁ F (startV ls.length ds) → s.heap.objs.size ≤ env.locals →
      wpAny (model prog w) (A.deeper env) (execs (bodyAt i) env) (fun f s' => R (.ok (.ret (match f with | .ret v => v | _ => .none))) s') (fun _ _ => False) s₁) :
    codeAny (model prog w) A (.call (.ref a) ⟨vs, []⟩) R s := by
  have hlen : vs.length = ps.length := hv.length.trans hl
  have hroom : A.depth < recursionLimit := by
    have := ok.2.1
    show A.depth < 1000
    omega
  refine codeAny_call_function hroom ho hdata D.co D.gen (body := bodyAt i) rfl hcd ?_
  rw [D.bind name pm (.ref c) doc vs hlen]
  refine wpAny_pure ?_
  have hkind : ∀ x ∈ ps.zip vs, (scopeAt i).names.lookup x.1 = some .local ∨ ((scopeAt i).names.lookup x.1 = some .cell ∧ ((cellsFrom (s.heap.objs.size + 1) (scopeAt i).names []).lookup x.1).isSome = true) := fun x hx => .inl (D.par x.1 (List.of_mem_zip hx).1)
  refine wpAny_mono (wpAny_toks (wpAny_newFunctionEnv_cells (Q := fun env s₁ => env = callEnvC (Calls.docDef name (paramsAt i) (bodyAt i) (scopeAt i) pm (.ref c) doc) s.heap.objs.size a ∧ InCallC s env.locals (bindL env.kindOf (ps.zip vs) fun _ => none) env.cells (bindC env.kindOf (ps.zip vs) fun _ => none) s₁) D.kind hkind fun env he s' x => ⟨he, x⟩)) (fun env s₁ z => ?_) fun _ _ z => z.2
  obtain ⟨tt, rfl, X⟩ := z
  refine ⟨T.lim.keeps X.toInCall.keep, codeAny_func ?_⟩
  exact wpAny_mono (h _ s₁ (def_start D ok T hF hv hl rfl (Nat.le_trans ht tt) X) (Nat.le_refl _)) (fun _ _ z => z) fun _ _ z => z.elim

theorem FnC.of {i : Nat} {ps ls mu : List Str} (D : DefOk i ps ls mu) {n : Nat} {name : Str} {a c : Addr} (hT : ∀ h, Tops h → FnAt h a c i name) {fb : VS → Option Out} (hb : CS false (scopeAt i) (ps ++ ls) mu n (bodyAt i) fb) :
    FnC a (n + 1) (retF fb ls.length ps.length) := by
  intro prog w A s F vs ds d ok T hF ht hv hd
  unfold retF at hd
  split at hd
  · rename_i hl
    obtain ⟨⟨o, pm, doc, ho, hdata⟩, hcd⟩ := hT _ T
    refine wpAny_call (codeAny_def D ok T hF ht hv hl ho hdata hcd fun env s₁ fm _ => ?_)
    cases hr : fb (startV ls.length ds) with
    | none => rw [hr] at hd; cases hd
    | some out =>
      rw [hr] at hd
      cases out with
      | next σ => cases hd
      | ret d' =>
        cases hd
        refine wpAny_mono (hb prog w _ env s _ s₁ F _ _ fm hr) (fun fl s' z => ?_) fun _ _ z => z
        obtain ⟨v, G, rfl, nb, hh, dd, kk, hrest, _⟩ := z
        obtain ⟨h', tk', g, rfl, hg, _⟩ := hrest
        cases hg rfl
        refine ⟨⟨h', tk', rfl, kk⟩, G, fun p hp => ⟨hh p (List.mem_append_left _ hp), ?_⟩, dd⟩
        cases e : s.heap.get? p.1 with
        | none => rfl
        | some o => exact absurd e (nb p hp o)
  · cases hd
end

theorem CE.call {sc : Scope} {nm : List Str} {n : Nat} {x : Str} {p pos : Pos} {args : List Expr} {a c i : Nat} {name : Str} {f : List Dat → Option Dat} {g : VS → Option (List Dat)} (hF : FnC a n f) (hT : ∀ h, Tops h → FnAt h a c i name) (hm : (x, Value.ref a) ∈ glNames)
    (hx : sc.names.lookup x = some .globalImplicit) (hd' : (x == ("__debug__" : Str)) = false) (hp : Plain args) (ha : CL sc nm n args g) : CE sc nm n (.Call (.Name x p) args [] pos) (fun σ => (g σ).bind f) := by
  intro prog w A env s F σ d a' hd
  obtain ⟨ds, hds, hd⟩ := Option.bind_eq_some_iff.mp hd
  refine Call_Name (x := x) (p := p) (pos := pos) rfl (gl_name a'.tops hm a'.envOk.fn (a'.envOk.kindOf hx) a'.envOk.gl ?_ hd')
  obtain ⟨⟨o, pm, doc, ho, hdata⟩, _⟩ := hT _ a'.tops
  refine Calls.callWith_function (o := o) (fd := Calls.docDef name (paramsAt i) (bodyAt i) (scopeAt i) pm (.ref c) doc) (evalArgs_trees hp (ha.then a' hds fun vs s₁ G₁ k₁ g₁ a₁ d₁ => ⟨⟨keeps_get k₁ _ _ ho, hdata⟩, ?_⟩))
  refine wpAny_mono (hF prog w A s₁ _ vs ds d a₁.ok a₁.tops a₁.has a₁.tok d₁ hd) (fun v s₂ z => z.after k₁ g₁) fun _ _ z => z
end Mine

end -- S12

section -- Z1
namespace Mine
open PySem PySem.W PyProof.Rows
set_option maxRecDepth 100000

structure ZAp (z TI TO i1 i2 : Addr) (fp1 fp2 : List Addr) : Prop where
  TIz : TI ≠ z
  TOz : TO ≠ z
  TITO : TI ≠ TO
  i1z : i1 ≠ z
  i2z : i2 ≠ z
  TIi1 : TI ≠ i1
  TIi2 : TI ≠ i2
  TOi1 : TO ≠ i1
  TOi2 : TO ≠ i2
  z1 : z ∉ fp1
  z2 : z ∉ fp2
  t1 : TO ∉ fp1
  t2 : TO ∉ fp2
  a1 : i1 ∉ fp2
  a2 : i2 ∉ fp1

section
variable {prog : Program} {w : World} {A : Around} {E : Value → Shared → Prop} {s : Shared}
variable {z TI TO i1 i2 : Addr} {fp1 fp2 : List Addr} {n1 n2 : Nat} {P1 P2 : Nat → Value → Prop} {St1 St2 : Nat → Heap → Prop} {k1 k2 : Nat} {a b : Value}

theorem st_but {it : Addr} {fp : List Addr} {n : Nat} {P : Nat → Value → Prop} {St : Nat → Heap → Prop} (D : Draws prog w A it fp n P St) {i : Nat} {h h' : Heap} {x : Addr} (st : St i h) (hs : Heap.ExtBut x h h') (hx : x ∉ fp) : St i h' :=
  D.frame i h h' st fun b hb o e => hs b o (fun q => hx (q ▸ hb)) e

/-- a pair out of two iterators: my own turn of the library's rule for two lists -/
theorem zipD_item {Q : Value → Shared → Prop} (D1 : Draws prog w A i1 fp1 n1 P1 St1) (D2 : Draws prog w A i2 fp2 n2 P2 St2) (D : ZAp z TI TO i1 i2 fp1 fp2)
    (hz : IsZip s.heap z TI TO .none) (hTI : IsPair s.heap TI (.ref i1) (.ref i2)) (hTO : IsPair s.heap TO a b) (h1 : St1 k1 s.heap) (h2 : St2 k2 s.heap) (hk1 : k1 < n1) (hk2 : k2 < n2)
    (hQ : ∀ h' tk x y, P1 k1 x → P2 k2 y → IsZip h' z TI TO (rawInt s.heap.objs.size) → IsPair h' TO x y → St1 (k1 + 1) h' → St2 (k2 + 1) h' → IsPair h' s.heap.objs.size x y →
      (∀ c o, c ≠ z → c ≠ TO → c ≠ i1 → c ≠ i2 → s.heap.get? c = some o → h'.get? c = some o) → Q (.ref s.heap.objs.size) { s with heap := h', toks := tk }) :
    wpAny (model prog w) A (Builtin.«zip.__next__» ⟨[.ref z], []⟩) (fun fin s' => ∃ v, fin = .done (.ret v) ∧ Q v s') E s := by
  show wpAny _ _ (field (.ref z) 2 >>= _) _ _ _
  refine wpAny_bind (wpAny_field hz rfl (x := .bool false) rfl ?_)
  show wpAny _ _ (field (.ref z) 3 >>= _) _ _ _
  refine wpAny_bind (wpAny_field hz rfl (x := .ref TI) rfl ?_)
  refine wpAny_bind (wpAny_seqItems hTI rfl ?_)
  show wpAny _ _ (Builtin.SmallTypes.ownedTupleIsFree (.ref z) >>= _) _ _ _
  refine wpAny_bind ?_
  unfold Builtin.SmallTypes.ownedTupleIsFree
  refine wpAny_bind (wpAny_field hz rfl (x := .none) rfl (wpAny_pure ?_))
  simp only [if_true]
  refine wpAny_bind (wpAny_rule ?_)
  refine wpAny_bind (wpAny_field hz rfl (x := .ref TO) rfl ?_)
  refine wpAny_bind (wpAny_setField_rec hz (by simp) fun h₁ hz₁ hs₁ => ?_)
  replace hz₁ : IsZip h₁ z TI TO .ellipsis := hz₁
  refine wpAny_bind ?_
  simp only [List.zipIdx_cons, List.zipIdx_nil, List.forIn_cons, List.forIn_nil]
  refine wpAny_bind (wpAny_bind (wpAny_onRaise ?_))
  show wpAny _ _ (Builtin.SmallTypes.nextOf (.ref i1) >>= _) _ _ _
  refine wpAny_bind (D1.item k1 _ _ _ hk1 (st_but D1 h1 hs₁.extBut D.z1) fun x h₂ tk₂ px h1₂ hs₂ => wpAny_pure ?_)
  dsimp only at hs₂
  have hTO₂ : IsPair h₂ TO a b := hs₂.extBut _ _ D.TOi1 (hs₁.extBut _ _ D.TOz hTO)
  refine wpAny_bind (wpAny_seqItems hTO₂ rfl ?_)
  refine wpAny_bind (wpAny_updateSeq_pair hTO₂ fun h₃ hTO₃ hs₃ => ?_)
  replace hTO₃ : IsPair h₃ TO x b := hTO₃
  refine wpAny_bind (wpAny_letGo (wpAny_pure ?_))
  refine wpAny_bind (wpAny_bind (wpAny_onRaise ?_))
  show wpAny _ _ (Builtin.SmallTypes.nextOf (.ref i2) >>= _) _ _ _
  refine wpAny_bind (D2.item k2 _ _ _ hk2 (st_but D2 (st_but D2 (st_but D2 h2 hs₁.extBut D.z2) hs₂.extBut D.a1) hs₃.extBut D.t2) fun y h₄ tk₄ py h2₄ hs₄ => wpAny_pure ?_)
  dsimp only at hs₄
  have hTO₄ : IsPair h₄ TO x b := hs₄.extBut _ _ D.TOi2 hTO₃
  refine wpAny_bind (wpAny_seqItems hTO₄ rfl ?_)
  refine wpAny_bind (wpAny_updateSeq_pair hTO₄ fun h₅ hTO₅ hs₅ => ?_)
  replace hTO₅ : IsPair h₅ TO x y := hTO₅
  refine wpAny_bind (wpAny_letGo (wpAny_pure (wpAny_pure ?_)))
  refine wpAny_bind (wpAny_seqItems hTO₅ rfl ?_)
  refine wpAny_bind (wpAny_newTuple ?_)
  have hsz : h₅.objs.size = s.heap.objs.size := by rw [hs₅.1, hs₄.1, hs₃.1, hs₂.1, hs₁.1]
  have hz₅ : IsZip h₅ z TI TO .ellipsis := hs₅.extBut _ _ D.TOz.symm (hs₄.extBut _ _ D.i2z.symm (hs₃.extBut _ _ D.TOz.symm (hs₂.extBut _ _ D.i1z.symm hz₁)))
  have hk₅ : ∀ c o, c ≠ z → c ≠ TO → c ≠ i1 → c ≠ i2 → s.heap.get? c = some o → h₅.get? c = some o := fun c o c1 c2 c3 c4 e =>
    hs₅.extBut _ _ c2 (hs₄.extBut _ _ c4 (hs₃.extBut _ _ c2 (hs₂.extBut _ _ c3 (hs₁.extBut _ _ c1 e))))
  have h1₅ := st_but D1 (st_but D1 (st_but D1 h1₂ hs₃.extBut D.t1) hs₄.extBut D.a2) hs₅.extBut D.t1
  have h2₅ := st_but D2 h2₄ hs₅.extBut D.t2
  have hzlt : z < h₅.objs.size := Heap.lt_size hz₅
  show wpAny _ _ (Builtin.SmallTypes.ownedTupleHandOut (.ref z) (.ref h₅.objs.size) >>= _) _ _ _
  refine wpAny_bind ?_
  unfold Builtin.SmallTypes.ownedTupleHandOut
  have hz₆ : IsZip (h₅.push { cls := .type "tuple", data := .seq #[x, y] }) z TI TO .ellipsis := Heap.get?_push_of_some _ hz₅
  refine wpAny_bind (wpAny_setField_rec hz₆ (by simp) fun h₇ hz₇ hs₇ => ?_)
  replace hz₇ : IsZip h₇ z TI TO (rawInt h₅.objs.size) := hz₇
  refine wpAny_setField_rec hz₇ (by simp) fun h₈ hz₈ hs₈ => ?_
  replace hz₈ : IsZip h₈ z TI TO (rawInt h₅.objs.size) := hz₈
  have up : ∀ c o, c ≠ z → h₅.get? c = some o → h₈.get? c = some o := fun c o c1 e => hs₈.extBut _ _ c1 (hs₇.extBut _ _ c1 (Heap.get?_push_of_some _ e))
  have hT₈ : IsPair h₈ h₅.objs.size x y := hs₈.extBut _ _ (Nat.ne_of_gt hzlt) (hs₇.extBut _ _ (Nat.ne_of_gt hzlt) (Heap.get?_push_size _ rfl))
  rw [hsz] at hz₈ hT₈
  refine wpAny_pure ⟨_, rfl, ?_⟩
  show Q (.ref h₅.objs.size) _
  rw [hsz]
  exact hQ h₈ _ x y px py hz₈ (up _ _ D.TOz hTO₅) (D1.frame _ _ _ h1₅ fun c hc o e => up c o (fun q => D.z1 (q ▸ hc)) e) (D2.frame _ _ _ h2₅ fun c hc o e => up c o (fun q => D.z2 (q ▸ hc)) e) hT₈ fun c o c1 c2 c3 c4 e => up c o c1 (hk₅ c o c1 c2 c3 c4 e)

theorem zipD_end {Q : Fin → Shared → Prop} (D1 : Draws prog w A i1 fp1 n1 P1 St1) (D2 : Draws prog w A i2 fp2 n2 P2 St2) (D : ZAp z TI TO i1 i2 fp1 fp2)
    (hz : IsZip s.heap z TI TO .none) (hTI : IsPair s.heap TI (.ref i1) (.ref i2)) (hTO : IsPair s.heap TO a b) (h1 : St1 k1 s.heap) (h2 : St2 k2 s.heap) (hend : k1 = n1 ∨ (k1 < n1 ∧ k2 = n2))
    (hE : ∀ h' tk e, (∀ c o, c ≠ z → c ≠ TO → c ≠ i1 → c ≠ i2 → s.heap.get? c = some o → h'.get? c = some o) → (∃ o, h'.get? e = some o ∧ o.cls = .type "StopIteration") → E (.ref e) { s with heap := h', toks := tk }) :
    wpAny (model prog w) A (Builtin.«zip.__next__» ⟨[.ref z], []⟩) Q E s := by
  show wpAny _ _ (field (.ref z) 2 >>= _) _ _ _
  refine wpAny_bind (wpAny_field hz rfl (x := .bool false) rfl ?_)
  show wpAny _ _ (field (.ref z) 3 >>= _) _ _ _
  refine wpAny_bind (wpAny_field hz rfl (x := .ref TI) rfl ?_)
  refine wpAny_bind (wpAny_seqItems hTI rfl ?_)
  show wpAny _ _ (Builtin.SmallTypes.ownedTupleIsFree (.ref z) >>= _) _ _ _
  refine wpAny_bind ?_
  unfold Builtin.SmallTypes.ownedTupleIsFree
  refine wpAny_bind (wpAny_field hz rfl (x := .none) rfl (wpAny_pure ?_))
  simp only [if_true]
  refine wpAny_bind (wpAny_rule ?_)
  refine wpAny_bind (wpAny_field hz rfl (x := .ref TO) rfl ?_)
  refine wpAny_bind (wpAny_setField_rec hz (by simp) fun h₁ hz₁ hs₁ => ?_)
  replace hz₁ : IsZip h₁ z TI TO .ellipsis := hz₁
  refine wpAny_bind ?_
  simp only [List.zipIdx_cons, List.zipIdx_nil, List.forIn_cons, List.forIn_nil]
  refine wpAny_bind (wpAny_bind (wpAny_onRaise ?_))
  show wpAny _ _ (Builtin.SmallTypes.nextOf (.ref i1) >>= _) _ _ _
  rcases hend with rfl | ⟨hk1, rfl⟩
  · refine wpAny_bind (D1.done _ _ _ (st_but D1 h1 hs₁.extBut D.z1) fun h₂ e hs₂ he => ?_)
    dsimp only at hs₂
    obtain ⟨oe, hoe, hce⟩ := he
    have hz₂ : IsZip h₂ z TI TO .ellipsis := hs₂ _ _ D.i1z.symm hz₁
    have hez : e ≠ z := fun x => by subst x; rw [hz₂] at hoe; cases hoe; simp at hce
    refine wpAny_setField_rec hz₂ (by simp) fun h₃ _ hs₃ => hE h₃ _ e (fun c o c1 _ c3 _ x => hs₃.extBut _ _ c1 (hs₂ _ _ c3 (hs₁.extBut _ _ c1 x))) ⟨oe, hs₃.extBut _ _ hez hoe, hce⟩
  · refine wpAny_bind (D1.item k1 _ _ _ hk1 (st_but D1 h1 hs₁.extBut D.z1) fun x h₂ tk₂ px h1₂ hs₂ => wpAny_pure ?_)
    dsimp only at hs₂
    have hTO₂ : IsPair h₂ TO a b := hs₂.extBut _ _ D.TOi1 (hs₁.extBut _ _ D.TOz hTO)
    refine wpAny_bind (wpAny_seqItems hTO₂ rfl ?_)
    refine wpAny_bind (wpAny_updateSeq_pair hTO₂ fun h₃ hTO₃ hs₃ => ?_)
    refine wpAny_bind (wpAny_letGo (wpAny_pure ?_))
    refine wpAny_bind (wpAny_bind (wpAny_onRaise ?_))
    show wpAny _ _ (Builtin.SmallTypes.nextOf (.ref i2) >>= _) _ _ _
    refine wpAny_bind (D2.done _ _ _ (st_but D2 (st_but D2 (st_but D2 h2 hs₁.extBut D.z2) hs₂.extBut D.a1) hs₃.extBut D.t2) fun h₄ e hs₄ he => ?_)
    dsimp only at hs₄
    obtain ⟨oe, hoe, hce⟩ := he
    have hz₄ : IsZip h₄ z TI TO .ellipsis := hs₄ _ _ D.i2z.symm (hs₃.extBut _ _ D.TOz.symm (hs₂.extBut _ _ D.i1z.symm hz₁))
    have hez : e ≠ z := fun x => by subst x; rw [hz₄] at hoe; cases hoe; simp at hce
    refine wpAny_setField_rec hz₄ (by simp) fun h₅ _ hs₅ => hE h₅ _ e (fun c o c1 c2 c3 c4 x => hs₅.extBut _ _ c1 (hs₄ _ _ c4 (hs₃.extBut _ _ c2 (hs₂.extBut _ _ c3 (hs₁.extBut _ _ c1 x))))) ⟨oe, hs₅.extBut _ _ hez hoe, hce⟩
end

section
variable {prog : Program} {w : World} {A : Around} {E : Value → Shared → Prop} {s : Shared}
variable {z TI TO i1 i2 : Addr} {fp1 fp2 : List Addr} {n1 n2 : Nat} {P1 P2 : Nat → Value → Prop} {St1 St2 : Nat → Heap → Prop} {k1 k2 : Nat} {a b : Value}
theorem pyNext_zipD_item {Q : Option Value → Shared → Prop} (D1 : Draws prog w A.in1 i1 fp1 n1 P1 St1) (D2 : Draws prog w A.in1 i2 fp2 n2 P2 St2) (D : ZAp z TI TO i1 i2 fp1 fp2)
    (hz : IsZip s.heap z TI TO .none) (hTI : IsPair s.heap TI (.ref i1) (.ref i2)) (hTO : IsPair s.heap TO a b) (h1 : St1 k1 s.heap) (h2 : St2 k2 s.heap) (hk1 : k1 < n1) (hk2 : k2 < n2)
    (hQ : ∀ h' tk x y, P1 k1 x → P2 k2 y → IsZip h' z TI TO (rawInt s.heap.objs.size) → IsPair h' TO x y → St1 (k1 + 1) h' → St2 (k2 + 1) h' → IsPair h' s.heap.objs.size x y →
      (∀ c o, c ≠ z → c ≠ TO → c ≠ i1 → c ≠ i2 → s.heap.get? c = some o → h'.get? c = some o) → Q (some (.ref s.heap.objs.size)) { s with heap := h', toks := tk }) :
    wpAny (model prog w) A (pyNext (.ref z)) Q E s := by
  have hT : s.TypeIs (.ref z) "zip" := ⟨_, hz, rfl⟩
  unfold pyNext
  exact wpAny_bind (wpAny_attempt (wpAny_callSpecial?_slot (name := Str.ofString "__next__") hT PySem.F.slot_zip_next
    (wpAny_call_entry PySem.F.slot_zip_next hT PySem.F.entry_zip_next
      (zipD_item D1 D2 D hz hTI hTO h1 h2 hk1 hk2 fun h' tk x y a1 a2 a3 a4 a5 a6 a7 a8 => wpAny_pure (hQ h' tk x y a1 a2 a3 a4 a5 a6 a7 a8)) (PySem.F.args_zip_next_1 _))))
theorem pyNext_zipD_end {Q : Option Value → Shared → Prop} (D1 : Draws prog w A.in1 i1 fp1 n1 P1 St1) (D2 : Draws prog w A.in1 i2 fp2 n2 P2 St2) (D : ZAp z TI TO i1 i2 fp1 fp2)
    (hz : IsZip s.heap z TI TO .none) (hTI : IsPair s.heap TI (.ref i1) (.ref i2)) (hTO : IsPair s.heap TO a b) (h1 : St1 k1 s.heap) (h2 : St2 k2 s.heap) (hend : k1 = n1 ∨ (k1 < n1 ∧ k2 = n2))
    (hQ : ∀ h' tk, (∀ c o, c ≠ z → c ≠ TO → c ≠ i1 → c ≠ i2 → s.heap.get? c = some o → h'.get? c = some o) → Q none { s with heap := h', toks := tk }) : wpAny (model prog w) A (pyNext (.ref z)) Q E s := by
  have hT : s.TypeIs (.ref z) "zip" := ⟨_, hz, rfl⟩
  unfold pyNext
  refine wpAny_bind (wpAny_attempt (wpAny_callSpecial?_slot (name := Str.ofString "__next__") hT PySem.F.slot_zip_next
    (wpAny_call_entry PySem.F.slot_zip_next hT PySem.F.entry_zip_next (zipD_end D1 D2 D hz hTI hTO h1 h2 hend fun h' tk e hk he => ?_) (PySem.F.args_zip_next_1 _))))
  obtain ⟨o, ho, hc⟩ := he
  refine wpAny_bind (wpAny_isInstance (T := "StopIteration") (b := true) ⟨o, ho, hc⟩ isSubtype_stop ?_)
  exact wpAny_pure (hQ _ _ hk)
end
end Mine

end -- Z1

section -- Z2
namespace Mine
open PySem PySem.W PyProof.Rows
open Sem (wp)
set_option maxRecDepth 100000

abbrev zH1 (h : Heap) (x : Str) (t : Tok) : Heap := h.push { cls := .type "str_ascii_iterator", data := .fields #[.str x t, .int 0 0] }
abbrev zH2 (h : Heap) (x : Str) (t : Tok) (l2 : Addr) : Heap := (zH1 h x t).push { cls := .type "list_iterator", data := .fields #[.ref l2, .int 0 0] }
abbrev zH3 (h : Heap) (x : Str) (t : Tok) (l2 : Addr) : Heap := (zH2 h x t l2).push { cls := .type "tuple", data := .seq #[.ref h.objs.size, .ref (zH1 h x t).objs.size] }
abbrev zH4 (h : Heap) (x : Str) (t : Tok) (l2 : Addr) : Heap := (zH3 h x t l2).push { cls := .type "tuple", data := .seq #[.none, .none] }
abbrev zH5 (h : Heap) (x : Str) (t : Tok) (l2 : Addr) : Heap := (zH4 h x t l2).push { cls := .type "zip", data := .fields #[.none, .bool false, .bool false, .ref (zH2 h x t l2).objs.size, .ref (zH3 h x t l2).objs.size] }

theorem meets_zip_sl (x : Str) (t : Tok) (l2 : Addr) (ys : Array Value) (hx : x.cps.all (· < 128) = true) :
    Meets (Builtin.«zip.__new__» ⟨[.type "zip", .str x t, .ref l2], []⟩) (fun _ R s => s.heap.IsList l2 ys ∧
      R (.ok (.ret (.ref (zH4 s.heap x t l2).objs.size))) { s with heap := zH5 s.heap x t l2 }) :=
  .of_wp fun prog w A R s h => by
    obtain ⟨hp, g, d, tk, os⟩ := s; obtain ⟨hl2, h⟩ := h
    have hsub := sub_zip
    have hL2 : Heap.IsList (Shared.heap ⟨hp.push { cls := .type "str_ascii_iterator", data := .fields #[.str x t, .int 0 0] }, g, d, tk, os⟩) l2 ys := Heap.IsList.push hl2 _
    iterate 13 wp_step
    unfold Builtin.SmallTypes.iterAll
    simp only [List.forIn_cons, List.forIn_nil]
    refine wpAny_bind (wpAny_bind (wpAny_bind (wpAny_holding (wpAny_pyIter_ascii hx ?_))))
    refine wpAny_pure ?_
    refine wpAny_bind (wpAny_bind (wpAny_holding (wpAny_pyIter_list hL2 ?_)))
    refine wpAny_pure ?_
    refine wpAny_pure ?_
    refine wpAny_pure ?_
    refine wpAny_bind (wpAny_newTuple ?_ (by show 2 ≤ sizeLine; rw [sizeLine_eq]; decide))
    refine wpAny_bind (wpAny_newTuple ?_ (by show 2 ≤ sizeLine; rw [sizeLine_eq]; decide))
    refine wpAny_bind ?_
    show wpAny _ _ (newObj (.type "zip") (.fields #[.none, .bool false, .bool false, .ref _, .ref _])) _ _ _
    refine wpAny_newObj_type ?_ (by show 5 ≤ sizeLine + 2; rw [sizeLine_eq]; decide)
    exact wpAny_pure ⟨_, rfl, h⟩

section
variable {prog : Program} {w : World} {A : Around} {E : Value → Shared → Prop} {s : Shared}
theorem call_zip_sl {x : Str} {t : Tok} {l2 : Addr} {ys : Array Value} {Q : Value → Shared → Prop} (hx : x.cps.all (· < 128) = true) (hl2 : s.heap.IsList l2 ys)
    (h : ∀ h', IsZip h' (s.heap.objs.size + 4) (s.heap.objs.size + 2) (s.heap.objs.size + 3) .none → IsPair h' (s.heap.objs.size + 2) (.ref s.heap.objs.size) (.ref (s.heap.objs.size + 1)) →
      IsPair h' (s.heap.objs.size + 3) .none .none → h'.IsStrIter s.heap.objs.size "str_ascii_iterator" x t 0 → h'.IsListIter (s.heap.objs.size + 1) l2 0 →
      (∀ c o, s.heap.get? c = some o → h'.get? c = some o) → Q (.ref (s.heap.objs.size + 4)) { s with heap := h' }) :
    wpAny (model prog w) A (call (.type "zip") [.str x t, .ref l2]) Q E s := by
  refine callType_new PySem.F.called_zip (by decide) (PySem.F.typeCall_zip_2 _ _) (PySem.F.newCall_zip_2 _ _) (fun obj => PySem.F.args_object_init_3 obj _ _) PySem.F.entry_zip_new
    (meets_zip_sl x t l2 ys hx) ⟨hl2, ?_⟩
  have z1 : (zH1 s.heap x t).objs.size = s.heap.objs.size + 1 := Heap.size_push ..
  have z2 : (zH2 s.heap x t l2).objs.size = s.heap.objs.size + 2 := by rw [Heap.size_push, z1]
  have z3 : (zH3 s.heap x t l2).objs.size = s.heap.objs.size + 3 := by rw [Heap.size_push, z2]
  have z4 : (zH4 s.heap x t l2).objs.size = s.heap.objs.size + 4 := by rw [Heap.size_push, z3]
  have g5 : (zH5 s.heap x t l2).get? (zH4 s.heap x t l2).objs.size = some _ := Heap.get?_push_size _ rfl
  have g4 : (zH5 s.heap x t l2).get? (zH3 s.heap x t l2).objs.size = some _ := Heap.get?_push_of_some _ (Heap.get?_push_size _ rfl)
  have g3 : (zH5 s.heap x t l2).get? (zH2 s.heap x t l2).objs.size = some _ := Heap.get?_push_of_some _ (Heap.get?_push_of_some _ (Heap.get?_push_size _ rfl))
  have g2 : (zH5 s.heap x t l2).get? (zH1 s.heap x t).objs.size = some _ := Heap.get?_push_of_some _ (Heap.get?_push_of_some _ (Heap.get?_push_of_some _ (Heap.get?_push_size _ rfl)))
  have g1 : (zH5 s.heap x t l2).get? s.heap.objs.size = some _ := Heap.get?_push_of_some _ (Heap.get?_push_of_some _ (Heap.get?_push_of_some _ (Heap.get?_push_of_some _ (Heap.get?_push_size _ rfl))))
  show _ ∧ _
  rw [z2, z3, z4] at g5
  rw [z1, z2] at g3
  rw [z3] at g4
  rw [z1] at g2
  rw [z4]
  exact ⟨⟨_, g5, rfl⟩, h _ g5 g3 g4 ⟨_, g1, rfl, rfl⟩ ⟨_, g2, rfl, rfl⟩ fun c o x =>
    Heap.get?_push_of_some _ (Heap.get?_push_of_some _ (Heap.get?_push_of_some _ (Heap.get?_push_of_some _ (Heap.get?_push_of_some _ x))))⟩
end
end Mine

end -- Z2

section -- Z3
namespace Mine
open PySem PySem.W PyProof.Rows
set_option maxRecDepth 100000

def zipL : List Nat → List Dat → List Dat
  | c :: l, d :: ds => .tuple [.str ⟨#[c]⟩, d] :: zipL l ds
  | _, _ => []
def zipSt (z TI TO i1 i2 l2 : Addr) (x : Str) (t : Tok) (ds : List Dat) (F : FL) (h : Heap) : Prop := ∃ (i : Nat) (vs : List Value) (k : Nat) (es : List Dat),
  IsZip h z TI TO .none ∧ IsPair h TI (.ref i1) (.ref i2) ∧ (∃ a b, IsPair h TO a b) ∧ h.IsStrIter i1 "str_ascii_iterator" x t i ∧ h.IsListIter i2 l2 i ∧ (l2, listOf vs.toArray k) ∈ F ∧ DatAll F (vs.drop i) es ∧ ds = zipL (x.cps.toList.drop i) es ∧ i ≤ x.cps.size ∧ i ≤ vs.length

section
variable {prog : Program} {w : World} {A : Around} {E : Value → Shared → Prop} {s : Shared}
theorem Src.zip (hA : A.handled = none) {tgt : Expr} (htgt : ∃ es k p, tgt = .Tuple es k p) {z TI TO i1 i2 l2 : Addr} {x : Str} {t : Tok} (D : ZAp z TI TO i1 i2 [i1] [i2, l2]) (h12 : l2 ≠ i2) :
    Src prog w A tgt (.ref z) [z, TI, TO, i1, i2] (zipSt z TI TO i1 i2 l2 x t) where
  frame := by
    rintro ds F G h h' ⟨i, vs, k, es, hz, hTI, ⟨a, b, hTO⟩, h1, h2, hm, hd, e, hi, hi'⟩ hk
    exact ⟨i, vs, k, es, hk z (by simp) _ hz, hk TI (by simp) _ hTI, ⟨a, b, hk TO (by simp) _ hTO⟩, let ⟨o, ho, r⟩ := h1; ⟨o, hk i1 (by simp) o ho, r⟩, h2.at fun o e => hk i2 (by simp) o e, List.mem_append_right _ hm, dats_more hd, e, hi, hi'⟩
  live := by
    rintro ds F h ⟨i, vs, k, es, hz, hTI, ⟨a, b, hTO⟩, ⟨o1, ho1, _⟩, ⟨o2, ho2, _⟩, _⟩ b hb
    simp only [List.mem_cons, List.not_mem_nil, or_false] at hb
    rcases hb with rfl | rfl | rfl | rfl | rfl
    · exact ⟨_, hz⟩
    · exact ⟨_, hTI⟩
    · exact ⟨_, hTO⟩
    · exact ⟨_, ho1⟩
    · exact ⟨_, ho2⟩
  item := by
    rintro d ds F s Q E ⟨i, vs, k, es, hz, hTI, ⟨a, b, hTO⟩, h1, h2, hm, hd, e, hi, hi'⟩ hF hoff h
    generalize hr : vs.drop i = r at hd
    cases hx : x.cps.toList.drop i with
    | nil => rw [hx] at e; cases e
    | cons c l =>
      cases hd with
      | nil => rw [hx] at e; cases e
      | cons q1 q2 =>
        rename_i v r d' es'
        rw [hx] at e
        obtain ⟨e1, e2⟩ := drop_cons' hr
        obtain ⟨f1, f2⟩ := drop_cons' hx
        have hlt : i < x.cps.size := by
          have := (List.getElem?_eq_some_iff.mp f1).1
          simpa using this
        have hlt' : i < vs.toArray.size := by
          have := (List.getElem?_eq_some_iff.mp e1).1
          simpa using this
        have hl := is_list (hF _ hm)
        have e : d :: ds = .tuple [.str ⟨#[c]⟩, d'] :: zipL l es' := e
        obtain ⟨rfl, rfl⟩ := List.cons.inj e
        refine wpAny_mono (wpAny_toks (pyNext_zipD_item (Q := fun r s₁ => ∃ h' tk x' y', r = some (.ref s.heap.objs.size) ∧ s₁ = { s with heap := h', toks := tk } ∧ (∃ c u, x.cps[i]? = some c ∧ x' = .str ⟨#[c]⟩ u) ∧ vs.toArray[i]? = some y' ∧ IsZip h' z TI TO (rawInt s.heap.objs.size) ∧ IsPair h' TO x' y' ∧ h'.IsStrIter i1 "str_ascii_iterator" x t (i + 1) ∧ (h'.IsListIter i2 l2 (i + 1) ∧ h'.IsList l2 vs.toArray) ∧ IsPair h' s.heap.objs.size x' y' ∧
            (∀ c o, c ≠ z → c ≠ TO → c ≠ i1 → c ≠ i2 → s.heap.get? c = some o → h'.get? c = some o))
          (Draws.strAscii (A := A.in1) hA i1 x t) (Draws.list (A := A.in1) hA i2 l2 h12 vs.toArray) D hz hTI hTO h1 ⟨h2, hl⟩ hlt hlt' fun h' tk x' y' p1 p2 a1 a2 a3 a4 a5 a6 => ⟨h', tk, x', y', rfl, rfl, p1, p2, a1, a2, a3, a4, a5, a6⟩)) (fun r s₁ q => ?_) fun _ _ q => q.2
        obtain ⟨tt, h', tk, x', y', rfl, rfl, ⟨c', u, p1, rfl⟩, p2, a1, a2, a3, a4, a5, a6⟩ := q
        have hc' : c' = c := by
          have : x.cps.toList[i]? = some c' := by simpa using p1
          rw [f1] at this
          exact (Option.some.inj this).symm
        subst hc'
        have hv' : y' = v := by
          have : vs[i]? = some y' := by simpa using p2
          rw [e1] at this
          exact (Option.some.inj this).symm
        subst hv'
        refine ⟨_, rfl, ?_⟩
        obtain ⟨el, kk, pp, rfl⟩ := htgt
        refine wpAny_letOwnedTupleGo_zip a1 fun h'' hz'' hs'' => ?_
        have hTz : s.heap.objs.size ≠ z := fun q => by
          have := Heap.lt_size hz
          rw [← q] at this
          exact Nat.lt_irrefl _ this
        refine h (.ref s.heap.objs.size) h'' tk [(s.heap.objs.size, { cls := .type "tuple", data := .seq [Value.str ⟨#[c']⟩ u, y'].toArray })] ⟨i + 1, vs, k, es', hz'', hs''.extBut _ _ D.TIz (a6 _ _ D.TIz D.TITO D.TIi1 D.TIi2 hTI), ⟨_, _, hs''.extBut _ _ D.TOz a2⟩, ?_, a4.1.at fun o e => hs''.extBut _ _ D.i2z e, List.mem_append_right _ hm, e2 ▸ dats_more q2, by rw [f2], hlt, (List.getElem?_eq_some_iff.mp e1).1⟩ ?_ ?_ ?_ tt
        · obtain ⟨o, ho, r⟩ := a3
          exact ⟨o, hs''.extBut _ _ D.i1z ho, r⟩
        · intro p hp
          cases List.mem_singleton.mp hp
          exact ⟨hs''.extBut _ _ hTz a5, size_none _⟩
        · exact .tuple List.mem_cons_self (.cons (.str _ _) (.cons (q1.mono fun _ q => List.mem_cons_of_mem _ q) .nil))
        · intro b o hb e
          simp only [List.mem_cons, List.not_mem_nil, or_false, not_or] at hb
          exact hs''.extBut b o hb.1 (a6 b o hb.1 hb.2.2.1 hb.2.2.2.1 hb.2.2.2.2 e)
  done := by
    rintro F s Q E ⟨i, vs, k, es, hz, hTI, ⟨a, b, hTO⟩, h1, h2, hm, hd, e, hi, hi'⟩ hF h
    have hl := is_list (hF _ hm)
    have hend : i = x.cps.size ∨ (i < x.cps.size ∧ i = vs.toArray.size) := by
      rcases Nat.lt_or_ge i x.cps.size with q | q
      · refine .inr ⟨q, ?_⟩
        rcases Nat.lt_or_ge i vs.length with q' | q'
        · exfalso
          generalize hr : vs.drop i = r at hd
          have hx : ∃ c l, x.cps.toList.drop i = c :: l := by
            have : i < x.cps.toList.length := by simpa using q
            exact ⟨_, _, List.drop_eq_getElem_cons this⟩
          obtain ⟨c, l, hx⟩ := hx
          rw [hx] at e
          cases hd with
          | nil => have : vs.length ≤ i := by simpa using hr
                   omega
          | cons q1 q2 => cases e
        · rw [List.size_toArray]; omega
      · exact .inl (by omega)
    refine wpAny_mono (wpAny_toks (pyNext_zipD_end (Q := fun r s₁ => r = none ∧ ∃ h' tk, s₁ = { s with heap := h', toks := tk } ∧ (∀ c o, c ≠ z → c ≠ TO → c ≠ i1 → c ≠ i2 → s.heap.get? c = some o → h'.get? c = some o))
        (Draws.strAscii (A := A.in1) hA i1 x t) (Draws.list (A := A.in1) hA i2 l2 h12 vs.toArray) D hz hTI hTO h1 ⟨h2, hl⟩ hend fun h' tk a6 => ⟨rfl, h', tk, rfl, a6⟩)) (fun r s₁ q => ?_) fun _ _ q => q.2
    obtain ⟨tt, rfl, h', tk, rfl, a6⟩ := q
    refine ⟨rfl, h h' tk (fun b o hb e => ?_) tt⟩
    simp only [List.mem_cons, List.not_mem_nil, or_false, not_or] at hb
    exact a6 b o hb.1 hb.2.2.1 hb.2.2.2.1 hb.2.2.2.2 e
  self := by
    rintro ds F s Q E ⟨i, vs, k, es, hz, _⟩ h
    exact wpAny_pyIter_zip hz h
end

/-- the expression yields the items, for one target -/
def CIx (sc : Scope) (nm : List Str) (n : Nat) (tgt : Expr) (e : Expr) (f : VS → Option (List Dat)) : Prop :=
  ∀ (prog : Program) (w : World) (A : Around) (env : Env) (s : Shared) (F : FL) (σ : VS) (ds : List Dat) (Q : Value → Shared → Prop) (E : Value → Shared → Prop), At sc nm n A env s F σ → f σ = some ds →
    (∀ it s' G wr St, Keeps s s' → New s s' G → s.toks ≤ s'.toks → Src prog w A tgt it wr St → St ds (G ++ F) s'.heap → (∀ b ∈ wr, s.heap.get? b = none) → (∀ b ∈ wr, ∀ o, (b, o) ∉ G ++ F) → Q it s') →
    wpAny (model prog w) A (PySem.eval e env) (fun x s₁ => wpAny (model prog w) A (pyIter x) Q E s₁) E s
theorem CI.x {sc : Scope} {nm : List Str} {n : Nat} {tgt e : Expr} {f : VS → Option (List Dat)} (h : CI sc nm n e f) (htgt : (∃ es k p, tgt = .Tuple es k p) ∨ (∃ x p, tgt = .Name x p)) : CIx sc nm n tgt e f :=
  fun prog w A env s F σ ds Q E a hd k => h prog w A env s F σ ds tgt Q E a hd htgt k

section
variable {sc : Scope} {nm : List Str} {n : Nat}
def zipD : Dat → Dat → Option (List Dat)
  | .str x, .list ds => if x.cps.toList.all (fun c => Nat.blt c 128) = true then some (zipL x.cps.toList ds) else none
  | _, _ => none
theorem CIx.zip {e1 e2 : Expr} {f g : VS → Option Dat} {p pos : Pos} {tgt : Expr} (htgt : ∃ es k p, tgt = .Tuple es k p) (h1 : CE sc nm n e1 f) (h2 : CE sc nm n e2 g) (hp : Plain [e1, e2]) (hx : sc.names.lookup ("zip" : Str) = some .globalImplicit) :
    CIx sc nm n tgt (.Call (.Name "zip" p) [e1, e2] [] pos) (fun σ => (f σ).bind fun a => (g σ).bind fun b => zipD a b) := by
  intro prog w A env s F σ ds Q E a hd h
  obtain ⟨u, hu, hd⟩ := Option.bind_eq_some_iff.mp hd
  obtain ⟨v, hv, hd⟩ := Option.bind_eq_some_iff.mp hd
  refine Call_Name (x := "zip") (p := p) (pos := pos) rfl (bi_name a.tops (v := .type "zip") (.tail _ (.tail _ (.head _))) a.envOk.fn (a.envOk.kindOf hx) a.envOk.gl a.envOk.bi ?_ (by decide))
  refine PyProof.Rows.callWith_type (by rw [hp.all]; rfl) (evalArgs_trees hp ?_)
  rw [hp.all]
  show wpAny _ _ (spliced [(false, PySem.eval e1 env), (false, PySem.eval e2 env)]) _ _ _
  refine Calls.spliced_cons ?_
  refine wpAny_mono (wpAny_toks (h1 prog w A env s F σ u a hu)) (fun v1 s₁ q => ?_) fun _ _ q => q.2.elim
  obtain ⟨t₁, k₁, G₁, g₁, d₁⟩ := q
  have a₁ := a.keeps k₁ g₁ t₁
  refine Calls.spliced_cons ?_
  refine wpAny_mono (wpAny_toks (h2 prog w A env s₁ _ σ v a₁ hv)) (fun v2 s₂ q => ?_) fun _ _ q => q.2.elim
  obtain ⟨t₂, k₂, G₂, g₂, d₂⟩ := q
  have a₂ := a₁.keeps k₂ g₂ t₂
  refine Calls.spliced_nil ?_
  have d₁ := dat_more (G := G₂) d₁
  cases d₁ with
  | str x t =>
    cases d₂ with
    | @list l2 vs kk es hm r =>
      obtain ⟨hall, rfl⟩ := of_ite (c := x.cps.toList.all (fun c => Nat.blt c 128) = true) hd
      have hx : x.cps.all (· < 128) = true := by
        rw [← Array.all_toList]
        rw [List.all_eq_true] at hall ⊢
        intro c hc
        have := hall c hc
        have h2 : c < 128 := Nat.le_of_ble_eq_true this
        exact decide_eq_true h2
      refine call_zip_sl (x := x) (t := t) hx (is_list (a₂.has _ hm)) fun h' hz hTI hTO hi1 hi2 hk => ?_
      have live : ∀ b o, s₂.heap.get? b = some o → b < s₂.heap.objs.size := fun b o e => Heap.lt_size e
      have hl2 : @LT.lt Nat _ l2 s₂.heap.objs.size := live _ _ (a₂.has _ hm)
      have ne : ∀ i : Nat, l2 ≠ s₂.heap.objs.size + i := fun i q => by
        have hl2 := hl2
        rw [q] at hl2
        exact absurd hl2 (Nat.not_lt.mpr (Nat.le_add_right _ _))
      have ij : ∀ i j : Nat, i ≠ j → (s₂.heap.objs.size + i : Nat) ≠ s₂.heap.objs.size + j := fun i j q r => q (Nat.add_left_cancel r)
      have D : ZAp (s₂.heap.objs.size + 4) (s₂.heap.objs.size + 2) (s₂.heap.objs.size + 3) s₂.heap.objs.size (s₂.heap.objs.size + 1) [s₂.heap.objs.size] [s₂.heap.objs.size + 1, l2] := by
        refine ⟨ij 2 4 (by decide), ij 3 4 (by decide), ij 2 3 (by decide), ij 0 4 (by decide), ij 1 4 (by decide), ij 2 0 (by decide), ij 2 1 (by decide), ij 3 0 (by decide), ij 3 1 (by decide), ?_, ?_, ?_, ?_, ?_, ?_⟩
        · intro q; exact ij 4 0 (by decide) (List.mem_singleton.mp q)
        · intro q
          rcases List.mem_cons.mp q with q | q
          · exact ij 4 1 (by decide) q
          · exact ne 4 (List.mem_singleton.mp q).symm
        · intro q; exact ij 3 0 (by decide) (List.mem_singleton.mp q)
        · intro q
          rcases List.mem_cons.mp q with q | q
          · exact ij 3 1 (by decide) q
          · exact ne 3 (List.mem_singleton.mp q).symm
        · intro q
          rcases List.mem_cons.mp q with q | q
          · exact ij 0 1 (by decide) q
          · exact ne 0 (List.mem_singleton.mp q).symm
        · intro q; exact ij 1 0 (by decide) (List.mem_singleton.mp q)
      refine wpAny_pyIter_zip hz ?_
      have fresh : ∀ b ∈ [s₂.heap.objs.size + 4, s₂.heap.objs.size + 2, s₂.heap.objs.size + 3, s₂.heap.objs.size, s₂.heap.objs.size + 1], s₂.heap.get? b = none := by
        intro b hb
        cases e : s₂.heap.get? b with
        | none => rfl
        | some o =>
          have := live b o e
          simp only [List.mem_cons, List.not_mem_nil, or_false] at hb
          exfalso
          rcases hb with rfl | rfl | rfl | rfl | rfl
          · exact absurd this (Nat.not_lt.mpr (Nat.le_add_right _ _))
          · exact absurd this (Nat.not_lt.mpr (Nat.le_add_right _ _))
          · exact absurd this (Nat.not_lt.mpr (Nat.le_add_right _ _))
          · exact Nat.lt_irrefl _ this
          · exact absurd this (Nat.not_lt.mpr (Nat.le_add_right _ _))
      have k₃ : Keeps s₂ { s₂ with heap := h' } := ⟨h', s₂.toks, rfl, hk⟩
      have k₁₂ := keeps_trans k₁ k₂
      refine h _ _ (G₂ ++ G₁) [s₂.heap.objs.size + 4, s₂.heap.objs.size + 2, s₂.heap.objs.size + 3, s₂.heap.objs.size, s₂.heap.objs.size + 1] (zipSt (s₂.heap.objs.size + 4) (s₂.heap.objs.size + 2) (s₂.heap.objs.size + 3) s₂.heap.objs.size (s₂.heap.objs.size + 1) l2 x t) (keeps_trans k₁₂ k₃)
        (fun p hp => ⟨hk _ _ (New.trans k₁ k₂ g₁ g₂ p hp).1, (New.trans k₁ k₂ g₁ g₂ p hp).2⟩) (Nat.le_trans t₁ t₂) (Src.zip a.ok.1 htgt D (ne 1)) ⟨0, vs, kk, es, hz, hTI, ⟨_, _, hTO⟩, hi1, hi2, by rw [List.append_assoc]; exact hm, by rw [List.append_assoc]; exact r, rfl, Nat.zero_le _, Nat.zero_le _⟩ ?_ ?_
      · intro b hb
        exact not_there k₁₂ (fresh b hb)
      · intro b hb o hmem
        rw [List.append_assoc] at hmem
        have := a₂.has _ hmem
        rw [fresh b hb] at this
        cases this
    | _ => cases hd
  | _ => cases d₂ <;> cases hd

variable {gs : Bool} {mu : List Str}
theorem CX.forx {tgt e : Expr} {body : List Stmt} {pos : Pos} {f : VS → Option (List Dat)} {tg : VS → Dat → Option VS} {fb : VS → Option Out} (he : CIx sc nm n tgt e f) (ht : CA nm mu tgt tg) (hb : CS gs sc nm mu n body fb) (hs : ∀ env x, foldedSetIterable e env x = pure x) :
    CX gs sc nm mu n (.For tgt e body [] pos) (fun σ => (f σ).bind fun ds => loopF tg fb ds σ) := by
  intro prog w A env s₀ B s F σ o y ho
  obtain ⟨ds, hd, ho⟩ := Option.bind_eq_some_iff.mp ho
  refine wpAny_For (he prog w A env s F σ ds _ _ y.at hd fun it s' G wr St k g t S st fr off => ?_) (hs env)
  have y' := y.keeps k g t
  have hc : ∀ z c, env.cells.lookup z = some c → c ∉ wr := fun z c e hm => by
    obtain ⟨_, v, o, h', _⟩ := y.cells z c e
    rw [fr c hm] at h'; cases h'
  refine for_turns S ht hb (B := B) (F := F) ?_ y.tb hc (fun fl s' z => z) ⟨y'.strong (wr := wr) ?_ hc ?_, .of_new y.keep g, st, off⟩ ho
  · intro b hb o hB
    have := y.keep b o hB
    rw [fr b hb] at this; cases this
  · intro hm
    obtain ⟨m, o, _, _, h', _⟩ := y.ns
    rw [fr _ hm] at h'; cases h'
  · intro i x ds hx hd l hh hm
    obtain ⟨al, a1, _⟩ := y.accs
    obtain ⟨vs, kk, b1, b2, _⟩ := a1 i x ds hx hd
    have e : al i = l := Value.ref.inj ((b1.keeps (keeps_get k)).one hh)
    rw [e, fr l hm] at b2; cases b2
end
end Mine

end -- Z3

section -- Q1
namespace Mine
open PySem PySem.W PyProof.Rows
set_option maxRecDepth 100000

/-- '..' put for a dot at a line's head -/
def sub1L : Bool → List Nat → List Nat
  | _, [] => []
  | b, c :: l => bif Nat.beq c 46 then (bif b then 46 :: 46 :: sub1L false l else 46 :: sub1L false l) else c :: sub1L (Nat.beq c 10) l
/-- every line's end as '\r\n' -/
def sub2L : Bool → List Nat → List Nat
  | _, [] => []
  | b, c :: l => bif Nat.beq c 13 then 13 :: 10 :: sub2L true l else bif Nat.beq c 10 then (bif b then sub2L false l else 13 :: 10 :: sub2L false l) else c :: sub2L false l

theorem beq_nat (a b : Nat) : (a == b) = Nat.beq a b := by
  cases h : Nat.beq a b with
  | true => rw [Nat.eq_of_beq_eq_true h]; simp
  | false => exact beq_eq_false_iff_ne.mpr (Nat.ne_of_beq_eq_false h)
theorem arr_at (a : Array Nat) (i : Nat) : a.getD i 0 = a.toList.getD i 0 := by
  rw [Array.getD_eq_getD_getElem?, List.getD_eq_getElem?_getD, Array.getElem?_toList]
theorem ext_drop (a : Array Nat) (p : Nat) : (a.extract p a.size).toList = a.toList.drop p := by
  rw [Array.toList_extract, List.extract_eq_take_drop, List.take_of_length_le]
  simp
theorem drop_size (a : Array Nat) : a.toList.drop a.size = [] := List.drop_eq_nil_of_le (by simp)
theorem ext_cons (a : Array Nat) (p s : Nat) (h : p < s) (hs : s ≤ a.size) : (a.extract p s).toList = a.getD p 0 :: (a.extract (p + 1) s).toList := by
  rw [Array.toList_extract, Array.toList_extract, List.extract_eq_take_drop, List.extract_eq_take_drop, drop_cons (by simp; omega), arr_at]
  have : s - p = (s - (p + 1)) + 1 := by omega
  rw [this, List.take_succ_cons]
theorem ext_self (a : Array Nat) (p : Nat) : (a.extract p p).toList = [] := by
  rw [Array.toList_extract, List.extract_eq_take_drop]; simp

def fl1 (a : Array Nat) (j : Nat) : Bool := j == 0 || a.getD (j - 1) 0 == 10
theorem sub1_step (a : Array Nat) (p : Nat) (hp : p < a.size) (h : (fl1 a p && a.getD p 0 == 46) = false) : sub1L (fl1 a p) (a.toList.drop p) = a.getD p 0 :: sub1L (fl1 a (p + 1)) (a.toList.drop (p + 1)) := by
  rw [drop_cons (by simpa using hp), sub1L, ← arr_at, ← beq_nat]
  have e : fl1 a (p + 1) = Nat.beq (a.getD p 0) 10 := by
    unfold fl1
    rw [← beq_nat]
    show ((p + 1 == 0) || (a.getD (p + 1 - 1) 0 == 10)) = _
    rw [Nat.add_sub_cancel]
    have : ((p + 1) == 0) = false := by simp
    rw [this]; rfl
  rw [e]
  cases h46 : (a.getD p 0 == 46) with
  | true =>
    rw [h46, Bool.and_true] at h
    rw [h]
    have := eq_of_beq h46
    rw [this]; rfl
  | false => rfl
theorem sub1_run (a : Array Nat) : ∀ (m p s : Nat), s = p + m → s ≤ a.size → (∀ j, p ≤ j → j < s → (fl1 a j && a.getD j 0 == 46) = false) → sub1L (fl1 a p) (a.toList.drop p) = (a.extract p s).toList ++ sub1L (fl1 a s) (a.toList.drop s)
  | 0, p, s, hs, _, _ => by
    have : s = p := by omega
    subst this
    rw [ext_self]; rfl
  | m + 1, p, s, hs, hle, h => by
    rw [sub1_step a p (by omega) (h p (Nat.le_refl _) (by omega)), sub1_run a m (p + 1) s (by omega) hle fun j h1 h2 => h j (by omega) h2, ext_cons a p s (by omega) hle]
    rfl
theorem subL_one (a : Array Nat) : ∀ (n p : Nat), a.size ≤ p + n → p ≤ a.size → subL fd1 [46, 46] a n p = sub1L (fl1 a p) (a.toList.drop p)
  | 0, p, hn, hp => by
    have : p = a.size := by omega
    subst this
    unfold subL
    rw [ext_drop, drop_size]
    rfl
  | n + 1, p, hn, hp => by
    unfold subL fd1
    cases e : find1 a (a.size - p) p with
    | none =>
      have h := find1_none a _ _ e
      show (a.extract p a.size).toList = _
      rw [sub1_run a (a.size - p) p a.size (by omega) (Nat.le_refl _) fun j h1 h2 => h j h1 (by omega), drop_size]
      simp [sub1L]
    | some s =>
      obtain ⟨h1, h2, h3, h4⟩ := find1_some a _ _ _ e
      show (a.extract p s).toList ++ ([46, 46] ++ subL fd1 [46, 46] a n (s + 1)) = _
      rw [subL_one a n (s + 1) (by omega) (by omega), sub1_run a (s - p) p s (by omega) (by omega) h4]
      congr 1
      have h3 : (fl1 a s && a.getD s 0 == 46) = true := h3
      rw [Bool.and_eq_true] at h3
      rw [h3.1, drop_cons (show s < a.toList.length by simp; omega), sub1L, ← arr_at, ← beq_nat, h3.2]
      have : fl1 a (s + 1) = false := by
        unfold fl1
        rw [Nat.add_sub_cancel, eq_of_beq h3.2]
        simp
      rw [this]; rfl

theorem sub2_true (l : List Nat) (h : l.getD 0 0 ≠ 10) : sub2L true l = sub2L false l := by
  cases l with
  | nil => rfl
  | cons c l =>
    rw [sub2L, sub2L]
    have : Nat.beq c 10 = false := by
      rw [← beq_nat]
      exact beq_eq_false_iff_ne.mpr h
    rw [this]
    rfl
theorem sub2_step (a : Array Nat) (p : Nat) (hp : p < a.size) (h : nl (a.getD p 0) = false) : sub2L false (a.toList.drop p) = a.getD p 0 :: sub2L false (a.toList.drop (p + 1)) := by
  rw [drop_cons (by simpa using hp), sub2L, ← arr_at, ← beq_nat, ← beq_nat]
  unfold nl at h
  rw [Bool.or_eq_false_iff] at h
  rw [h.1, h.2]
  rfl
theorem sub2_run (a : Array Nat) : ∀ (m p s : Nat), s = p + m → s ≤ a.size → (∀ j, p ≤ j → j < s → nl (a.getD j 0) = false) → sub2L false (a.toList.drop p) = (a.extract p s).toList ++ sub2L false (a.toList.drop s)
  | 0, p, s, hs, _, _ => by
    have : s = p := by omega
    subst this
    rw [ext_self]; rfl
  | m + 1, p, s, hs, hle, h => by
    rw [sub2_step a p (by omega) (h p (Nat.le_refl _) (by omega)), sub2_run a m (p + 1) s (by omega) hle fun j h1 h2 => h j (by omega) h2, ext_cons a p s (by omega) hle]
    rfl
theorem end2_le (a : Array Nat) (s : Nat) (h : s < a.size) : end2 a s ≤ a.size ∧ s < end2 a s := by
  unfold end2
  cases q : (a.getD s 0 == 13 && decide (s + 1 < a.size) && a.getD (s + 1) 0 == 10) with
  | true =>
    rw [if_pos rfl]
    simp only [Bool.and_eq_true, decide_eq_true_eq] at q
    omega
  | false =>
    rw [if_neg (by decide)]
    omega
theorem subL_two (a : Array Nat) : ∀ (n p : Nat), a.size ≤ p + n → p ≤ a.size → subL fd2 [13, 10] a n p = sub2L false (a.toList.drop p)
  | 0, p, hn, hp => by
    have : p = a.size := by omega
    subst this
    unfold subL
    rw [ext_drop, drop_size]
    rfl
  | n + 1, p, hn, hp => by
    unfold subL fd2
    cases e : find2 a (a.size - p) p with
    | none =>
      have h := find2_none a _ _ e
      show (a.extract p a.size).toList = _
      rw [sub2_run a (a.size - p) p a.size (by omega) (Nat.le_refl _) fun j h1 h2 => h j h1 (by omega), drop_size]
      simp [sub2L]
    | some s =>
      obtain ⟨h1, h2, h3, h4⟩ := find2_some a _ _ _ e
      have hs : s < a.size := by omega
      obtain ⟨g1, g2⟩ := end2_le a s hs
      show (a.extract p s).toList ++ ([13, 10] ++ subL fd2 [13, 10] a n (end2 a s)) = _
      rw [subL_two a n (end2 a s) (by omega) g1, sub2_run a (s - p) p s (by omega) (by omega) h4]
      congr 1
      rw [drop_cons (show s < a.toList.length by simpa using hs), sub2L, ← arr_at, ← beq_nat, ← beq_nat]
      unfold end2
      cases h13 : (a.getD s 0 == 13) with
      | true =>
        show _ = 13 :: 10 :: sub2L true (a.toList.drop (s + 1))
        by_cases q : s + 1 < a.size
        · rw [decide_eq_true q]
          cases h10 : (a.getD (s + 1) 0 == 10) with
          | true =>
            show 13 :: 10 :: sub2L false (a.toList.drop (s + 2)) = _
            rw [drop_cons (show s + 1 < a.toList.length by simpa using q), sub2L, ← arr_at, eq_of_beq h10]
            rfl
          | false =>
            show 13 :: 10 :: sub2L false (a.toList.drop (s + 1)) = _
            rw [sub2_true]
            intro w
            rw [drop_cons (show s + 1 < a.toList.length by simpa using q), List.getD_cons_zero, ← arr_at] at w
            rw [w] at h10
            cases h10
        · rw [decide_eq_false q]
          show 13 :: 10 :: sub2L false (a.toList.drop (s + 1)) = _
          rw [sub2_true]
          intro w
          rw [List.drop_eq_nil_of_le (by simp; omega)] at w
          cases w
      | false =>
        have h10 : (a.getD s 0 == 10) = true := by
          unfold nl at h3
          rw [h13, Bool.or_false] at h3
          exact h3
        rw [h10]
        rfl

def psubD (R : List Nat) (S : List Nat → List Nat) : Dat → Dat → Option Dat
  | .str r, .str x => bif eqL r.cps.toList R then (if x.cps.toList.length ≤ 100000 ∧ (S x.cps.toList).length ≤ 1000000 then some (.str ⟨(S x.cps.toList).toArray⟩) else none) else none
  | _, _ => none
section
variable {sc : Scope} {nm : List Str} {n : Nat}
theorem CE.glstr {x : Str} {p : Pos} {y : Str} {t : Tok} (hm : (x, Value.str y t) ∈ glNames) (hx : sc.names.lookup x = some .globalImplicit) (hd' : (x == ("__debug__" : Str)) = false) : CE sc nm n (.Name x p) (fun _ => some (.str y)) := by
  intro prog w A env s F σ d a hd
  cases hd
  exact gl_name a.tops hm a.envOk.fn (a.envOk.kindOf hx) a.envOk.gl (ends_val0 (.str _ _)) hd'
theorem CE.psub {P : Addr} {code : Array Nat} {fd : Array Nat → Nat → Option (Nat × Nat)} {R : List Nat} {S : List Nat → List Nat} {x : Str} {p apos pos : Pos} {e1 e2 : Expr} {f g : VS → Option Dat}
    (hfd : Finds code fd) (hP : ∀ h, Tops h → IsPat h P code) (hS : ∀ a : Array Nat, subL fd R a a.size 0 = S a.toList) (hR : R.contains 92 = false) (hm : (x, Value.ref P) ∈ glNames) (hx : sc.names.lookup x = some .globalImplicit) (hd' : (x == ("__debug__" : Str)) = false)
    (h1 : CE sc nm n e1 f) (h2 : CE sc nm n e2 g) (hp : Plain [e1, e2]) (hb : ∀ env, attributeBase (.Name x p) "sub" env (eval (.Name x p) env) = eval (.Name x p) env) (hline : (apos.endLine == pos.line) = true) :
    CE sc nm n (.Call (.Attribute (.Name x p) "sub" apos) [e1, e2] [] pos) (fun σ => (f σ).bind fun a => (g σ).bind fun b => psubD R S a b) := by
  intro prog w A env s F σ d a hd
  obtain ⟨u, hu, hd⟩ := Option.bind_eq_some_iff.mp hd
  obtain ⟨v, hv, hd⟩ := Option.bind_eq_some_iff.mp hd
  rw [arm_eval_Call, hb]
  refine wpAny_bind (gl_name a.tops hm a.envOk.fn (a.envOk.kindOf hx) a.envOk.gl ?_ hd')
  refine wpAny_bind (wpAny_standAt ?_)
  have hform : methodCallForm ([e1, e2].length + ([] : List Keyword).length) (backTo pos (starEach [e1, e2] env)) (backToKw pos (keywordEach [] env)) = true := by
    rw [hp.all]; rfl
  have hpos : methodCallPos true (.Name x p) env apos pos = pure pos := by unfold methodCallPos; simp [hline]
  unfold methodCall
  rw [hform]
  refine wpAny_bind (wpAny_holding (getMethod_sub (hP _ a.tops) ?_))
  refine wpAny_bind (wpAny_of_eq hpos ?_)
  refine Calls.callWith_builtin (by rw [hp.all]; rfl) (evalArgs_trees hp ?_)
  rw [hp.all]
  show wpAny _ _ (spliced [(false, PySem.eval e1 env), (false, PySem.eval e2 env)]) _ _ _
  refine Calls.spliced_cons ?_
  refine h1.then a hu fun v1 s₁ G₁ k₁ g₁ a₁ d₁ => Calls.spliced_cons (h2.then a₁ hv fun v2 s₂ G₂ k₂ g₂ a₂ d₂ => Calls.spliced_nil ?_)
  cases d₁ with
  | str r tr =>
    cases d₂ with
    | str y ty =>
      have hd : (bif eqL r.cps.toList R then (if y.cps.toList.length ≤ 100000 ∧ (S y.cps.toList).length ≤ 1000000 then some (Dat.str ⟨(S y.cps.toList).toArray⟩) else none) else none) = some d := hd
      cases hq : eqL r.cps.toList R with
      | false => rw [hq] at hd; cases hd
      | true =>
        rw [hq] at hd
        obtain ⟨hh, rfl⟩ := of_ite (c := y.cps.toList.length ≤ 100000 ∧ (S y.cps.toList).length ≤ 1000000) hd
        rw [eqL_eq] at hq
        have hq := eq_of_beq hq
        refine call_sub hfd (hP _ a₂.tops) ?_ ?_ ?_ fun t' s' k => ?_
        · rw [← Array.contains_toList, hq]; exact hR
        · have := hh.1
          rw [Array.length_toList] at this
          omega
        · rw [hq, hS]; have := hh.2; omega
        · rw [hq, hS]
          exact Ends.after k₁ g₁ (Ends.after k₂ g₂ ⟨k, [], .nil _ _, .str _ _⟩)
    | _ => cases hd
  | _ => cases d₂ <;> cases hd
end
theorem sub_one_eq (a : Array Nat) : subL fd1 [46, 46] a a.size 0 = sub1L true a.toList := by
  rw [subL_one a a.size 0 (by omega) (Nat.zero_le _)]; rfl
theorem sub_two_eq (a : Array Nat) : subL fd2 [13, 10] a a.size 0 = sub2L false a.toList := by
  rw [subL_two a a.size 0 (by omega) (Nat.zero_le _)]; rfl
end Mine

end -- Q1

section -- Q2
namespace Mine
open PySem PySem.W PyProof.Rows
set_option maxRecDepth 100000

def flatD : Dat → Bool
  | .none => true
  | .bool _ => true
  | .int _ => true
  | .str _ => true
  | _ => false
def flatVV : VV → Bool
  | .no => true
  | .val d => flatD d
  | .acc _ => false
def flatV (r : Nat) (σ : VS) : Bool := (σ.take r).all flatVV && (match σ.at r with | .acc ds => ds.all flatD | _ => false) && (σ.drop (r + 1)).all flatVV
theorem flat_dat {F F' : FL} {v : Value} {d : Dat} (h : flatD d = true) (x : DatIn F v d) : DatIn F' v d := by
  cases x with
  | none => exact .none
  | bool b => exact .bool b
  | int i t => exact .int i t
  | str x t => exact .str x t
  | bytes b t => cases h
  | tuple _ _ => cases h
  | list _ _ => cases h
theorem flat_dats {F F' : FL} : ∀ {vs : List Value} {ds : List Dat}, ds.all flatD = true → DatAll F vs ds → DatAll F' vs ds
  | _, [], _, h => by cases h; exact .nil
  | _, d :: ds, h, x => by
    cases x with
    | cons a b =>
      rw [List.all_cons, Bool.and_eq_true] at h
      exact .cons (flat_dat h.1 a) (flat_dats h.2 b)
theorem flat_at {r : Nat} {σ : VS} (h : flatV r σ = true) (i : Nat) : (i ≠ r → flatVV (σ.at i) = true) ∧ ∃ ds, σ.at r = .acc ds ∧ ds.all flatD = true := by
  unfold flatV at h
  simp only [Bool.and_eq_true, List.all_eq_true] at h
  obtain ⟨⟨h1, h2⟩, h3⟩ := h
  constructor
  · intro hi
    unfold VS.at
    rw [List.getD_eq_getElem?_getD]
    cases e : σ[i]? with
    | none => rfl
    | some v =>
      refine if hlt : i < r then h1 v ?_ else h3 v ?_
      · refine List.mem_of_getElem? (i := i) ?_
        rw [List.getElem?_take_of_lt hlt, e]
      · refine List.mem_of_getElem? (i := i - (r + 1)) ?_
        rw [List.getElem?_drop]
        have : r + 1 + (i - (r + 1)) = i := by omega
        rw [this, e]
  · split at h2
    · rename_i ds e
      exact ⟨ds, e, h2⟩
    · cases h2

/-- a loop over what a generator yields -/
def loopG (r : Nat) (tg : VS → Dat → Option VS) (fb : VS → Option Out) : List (Nat × List Nat) → VS → Option Out
  | [], σ => some (.next σ)
  | z :: zs, σ => match tg σ (.tuple [.int z.1, .str ⟨z.2.toArray⟩]) with
    | none => none
    | some σ₁ => match fb σ₁ with
      | some (.next σ₂) => if flatV r σ₂ = true then loopG r tg fb zs σ₂ else none
      | _ => none

/-- what stood above N ahead of the turn -/
def BN (B : BP) (N : Nat) (h : Heap) : BP := fun b o => B b o ∨ (N ≤ b ∧ h.get? b = some o)

/-- the consumer's state ahead of a turn -/
structure GLoop (prog : Program) (w : World) (sc : Scope) (nm mu : List Str) (n : Nat) (A : Around) (env : Env) (sb : Shared) (B : BP) (F : FL) (N g : Nat) (ex : Nat → Nat × List Nat) (zs : List (Nat × List Nat)) (s : Shared) (σ : VS) : Prop where
  fm : Fm false sc nm mu n A env s B s F σ
  loc : env.locals < N
  cel : ∀ z c, env.cells.lookup z = some c → c < N
  acc : ∀ i x ds l, nm[i]? = some x → σ.at i = .acc ds → Holds env s.heap x (.ref l) → l < N
  fl : ∀ p ∈ F, p.1 < N
  bl : ∀ b o, B b o → b < N
  gen : s.heap.IsGen (N + 1) g
  ready : ∃ gs, s.gens[g]? = some gs ∧ ∀ s'' : Shared, HighKept N s.heap s''.heap → Tops s''.heap → gs.Goes (model prog w) A.in1 (gR N) (gY N ex) zs.length (.send .none) (s''.setGen g .running)
  ag : Ag ex zs
  same : ∃ h tk gg, s = { sb with heap := h, toks := tk, gens := gg } ∧ gg.size = g + 1 ∧ ∀ k, k < g → gg[k]? = sb.gens[k]?

section
variable {sc : Scope} {nm mu : List Str} {n : Nat} {prog : Program} {w : World} {A : Around} {env : Env} {sb s s₁ : Shared} {B : BP} {F : FL} {σ : VS} {N g : Nat} {ex : Nat → Nat × List Nat} {zs : List (Nat × List Nat)}

theorem ns_get {h h' : Heap} {a : Addr} {m : Str → Option Value} (x : h.Ns a m) (k : ∀ o, h.get? a = some o → h'.get? a = some o) : h'.Ns a m := by
  obtain ⟨o, es, ep, e, r⟩ := x
  exact ⟨o, es, ep, k _ e, r⟩

/-- the generator has run: all that the consumer holds lies below -/
theorem GLoop.high (x : GLoop prog w sc nm mu n A env sb B F N g ex zs s σ) {h₁ : Heap} {tk : Nat} {gg : Array GenState} {T : Addr} {o : Obj} (k : ∀ b o, b < N → s.heap.get? b = some o → h₁.get? b = some o) (ht : s.toks ≤ tk) (hT : h₁.get? T = some o) {vs : Array Value} (ho : o = { cls := .type "tuple", data := .seq vs }) :
    Fm false sc nm mu n A env { s with heap := h₁, toks := tk, gens := gg } (BN B N h₁) { s with heap := h₁, toks := tk, gens := gg } ([(T, o)] ++ F) σ := by
  have y := x.fm
  have hol : ∀ {z : Str} {v : Value}, Holds env s.heap z v → Holds env h₁ z v := by
    intro z v q
    rcases q with ⟨e, m, hm, q⟩ | ⟨e, c, q, ob, hob, hd⟩
    · exact .inl ⟨e, m, ns_get hm fun ob e => k _ _ x.loc e, q⟩
    · exact .inr ⟨e, c, q, ob, k _ _ (x.cel z c q) hob, hd⟩
  have off : ∀ {a : Addr}, a < N → Off B F a → a ≠ T → Off (BN B N h₁) ([(T, o)] ++ F) a := by
    intro a ha fa hne
    refine ⟨fun ob hb => ?_, fun ob hm => ?_⟩
    · rcases hb with hb | ⟨hb, _⟩
      · exact fa.1 ob hb
      · exact absurd ha (Nat.not_lt.mpr hb)
    · rcases List.mem_cons.mp hm with e | e
      · exact hne (Prod.mk.inj e).1
      · exact fa.2 ob e
  obtain ⟨m, hm⟩ := y.ns
  have hm₁ := ns_get (h' := h₁) hm fun ob e => k _ _ x.loc e
  have neT : ∀ {a : Addr} {ob : Obj}, h₁.get? a = some ob → ob.data ≠ o.data ∨ ob.cls ≠ o.cls → a ≠ T := by
    rintro a ob e q rfl
    rw [hT] at e; cases e
    rcases q with q | q <;> exact q rfl
  have hLT : env.locals ≠ T := by
    obtain ⟨ob, es, ep, e, hd, _⟩ := hm₁
    refine neT e (.inl ?_)
    rw [hd, ho]; intro q; cases q
  obtain ⟨h₀, t, tt⟩ := y.tb
  obtain ⟨al, a1, a2⟩ := y.accs
  refine ⟨y.envOk, y.ok, ⟨h₀, t, fun b ob e => .inl (tt b ob e)⟩, ?_, ?_, Nat.le_trans y.tok ht, Rest.refl _ _, ?_, ⟨m, hm₁⟩, off x.loc y.offL hLT, ?_, y.apart, ?_, ?_, al, ?_, a2⟩
  · intro p hp
    rcases List.mem_cons.mp hp with e | e
    · rw [e]; exact hT
    · exact k _ _ (x.fl p e) (y.has p e)
  · intro i z d hz hd
    obtain ⟨v, h1, h2⟩ := y.sees i z d hz hd
    exact ⟨v, hol h1, dat_more h2⟩
  · intro b ob hb
    rcases hb with hb | ⟨_, hb⟩
    · exact k _ _ (x.bl b ob hb) (y.keep b ob hb)
    · exact hb
  · intro z c e
    obtain ⟨h1, v, ob, h2, h3⟩ := y.cells z c e
    exact ⟨h1, v, ob, k _ _ (x.cel z c e) h2, h3⟩
  · intro z hz
    rcases y.st z hz with h | ⟨h, c, e, f⟩
    · exact .inl h
    · obtain ⟨_, v, ob, h2, h3⟩ := y.cells z c e
      refine .inr ⟨h, c, e, off (x.cel z c e) f (neT (k _ _ (x.cel z c e) h2) (.inl ?_))⟩
      rw [h3, ho]; intro q; cases q
  · intro i z ds hz hd _
    obtain ⟨vs', kk, b1, _⟩ := a1 i z ds hz hd
    exact ⟨al i, hol b1, hol b1⟩
  · intro i z ds hz hd
    obtain ⟨vs', kk, b1, b2, b3, b4, b5, b6⟩ := a1 i z ds hz hd
    have hlt := x.acc i z ds _ hz hd b1
    have b2' := k _ _ hlt b2
    refine ⟨vs', kk, hol b1, b2', dats_more b3, off hlt b4 (neT b2' (.inr ?_)), b5, b6⟩
    rw [ho]; intro q
    have q : Value.type "list" = Value.type "tuple" := q
    injection q with q
    exact absurd q (by decide)

/-- a turn's end -/
theorem GLoop.back {r : Nat} {xr : Str} {σ₂ : VS} {h₁ : Heap} {s₃ : Shared} {G : FL} {gs' : GenState} (x : GLoop prog w sc nm mu n A env sb B F N g ex zs s σ) (hr : nm[r]? = some xr) (hrm : xr ∉ mu) (hσ : flatV r σ = true) (hσ₂ : flatV r σ₂ = true)
    (k : ∀ b o, b < N → s.heap.get? b = some o → h₁.get? b = some o) (hs₁ : s₁.heap = h₁) (hgs : s₁.gens[g]? = some gs')
    (same : ∃ h tk gg, s₁ = { sb with heap := h, toks := tk, gens := gg } ∧ gg.size = g + 1 ∧ ∀ k, k < g → gg[k]? = sb.gens[k]?)
    (y : Fm false sc nm mu n A env s₁ (BN B N h₁) s₃ (G ++ F) σ₂) (hgen : h₁.IsGen (N + 1) g) {zs' : List (Nat × List Nat)} (ag : Ag ex zs')
    (go : ∀ s'' : Shared, HighKept N h₁ s''.heap → gs'.Goes (model prog w) A.in1 (gR N) (gY N ex) zs'.length (.send .none) (s''.setGen g .running)) :
    GLoop prog w sc nm mu n A env sb B F N g ex zs' s₃ σ₂ := by
  subst hs₁
  obtain ⟨h₀, t, tt⟩ := x.fm.tb
  have kp : ∀ b o, N ≤ b → s₁.heap.get? b = some o → s₃.heap.get? b = some o := fun b o hb e => y.keep b o (.inr ⟨hb, e⟩)
  obtain ⟨al, a1, a2⟩ := y.accs
  obtain ⟨dr, hdr, hdrf⟩ := (flat_at hσ₂ 0).2
  obtain ⟨dr₀, hdr₀, _⟩ := (flat_at hσ 0).2
  have only : ∀ i x ds, nm[i]? = some x → σ₂.at i = .acc ds → i = r := by
    intro i z ds hz hd
    apply Classical.byContradiction
    intro hi
    have := (flat_at hσ₂ i).1 hi
    rw [hd] at this; cases this
  -- the list that is filled is the one that was
  have alr : al r < N ∧ ∀ l, Holds env s₃.heap xr (.ref l) → l = al r := by
    obtain ⟨vs, kk, b1, _⟩ := a1 r xr dr hr hdr
    refine ⟨?_, fun l hl => (Value.ref.inj (b1.one hl)).symm⟩
    obtain ⟨l, e1, e2⟩ := y.lim r xr dr hr hdr hrm
    have e3 : al r = l := Value.ref.inj (b1.one e2)
    rw [e3]
    obtain ⟨al₀, a1₀, _⟩ := x.fm.accs
    obtain ⟨vs₀, kk₀, c1, _⟩ := a1₀ r xr dr₀ hr hdr₀
    have c1' : Holds env s₁.heap xr (.ref (al₀ r)) := by
      rcases c1 with ⟨e, m, hm, q⟩ | ⟨e, c, q, ob, hob, hd⟩
      · exact .inl ⟨e, m, ns_get hm fun ob e => k _ _ x.loc e, q⟩
      · exact .inr ⟨e, c, q, ob, k _ _ (x.cel xr c q) hob, hd⟩
    rw [← Value.ref.inj (c1'.one e1)]
    exact x.acc r xr dr₀ _ hr hdr₀ c1
  have weak : ∀ {a : Addr}, Off (BN B N s₁.heap) (G ++ F) a → Off B F a := fun {a} h => ⟨fun o hb => h.1 o (.inl hb), fun o hm => h.2 o (List.mem_append_right _ hm)⟩
  obtain ⟨h', tk', gg', rfl, hg, _⟩ := y.rest
  cases hg rfl
  refine ⟨⟨y.envOk, y.ok, ⟨h₀, t, tt⟩, fun p hp => y.has p (List.mem_append_right _ hp), ?_, y.tok, Rest.refl _ _, fun b o hb => y.keep b o (.inl hb), y.ns, weak y.offL, y.cells, y.apart, ?_, ?_, al, ?_, a2⟩, x.loc, x.cel, ?_, x.fl, x.bl, ?_, ⟨gs', hgs, ?_⟩, ag, ?_⟩
  · intro i z d hz hd
    obtain ⟨v, h1, h2⟩ := y.sees i z d hz hd
    refine ⟨v, h1, flat_dat ?_ h2⟩
    by_cases hi : i = r
    · subst hi
      unfold VS.get at hd
      rw [hdr] at hd; cases hd
    · have := (flat_at hσ₂ i).1 hi
      unfold VS.get at hd
      split at hd
      · rename_i d' e
        cases hd
        rw [e] at this; exact this
      · cases hd
  · intro z hz
    rcases y.st z hz with h | ⟨h, c, e, f⟩
    · exact .inl h
    · exact .inr ⟨h, c, e, weak f⟩
  · intro i z ds hz hd _
    obtain ⟨vs, kk, b1, _⟩ := a1 i z ds hz hd
    exact ⟨_, b1, b1⟩
  · intro i z ds hz hd
    obtain ⟨vs, kk, b1, b2, b3, b4, b5⟩ := a1 i z ds hz hd
    refine ⟨vs, kk, b1, b2, flat_dats ?_ b3, weak b4, b5⟩
    have := only i z ds hz hd
    subst this
    rw [hdr] at hd; cases hd
    exact hdrf
  · intro i z ds l hz hd hl
    have := only i z ds hz hd
    subst this
    rw [hr] at hz; cases hz
    rw [alr.2 l hl]; exact alr.1
  · obtain ⟨o, a, b, e, r⟩ := hgen
    exact ⟨o, a, b, kp _ _ (Nat.le_succ _) e, r⟩
  · intro s'' hk _
    exact go s'' fun b o hb e => hk b o hb (kp b o hb e)
  · obtain ⟨h, tk, gg, e, r⟩ := same
    rw [e]
    exact ⟨_, _, _, rfl, r⟩
end
end Mine

end -- Q2

section -- Q3
namespace Mine
open PySem PySem.W PyProof.Rows
set_option maxRecDepth 100000

section
variable {sc : Scope} {nm mu : List Str} {n : Nat} {prog : Program} {w : World} {A : Around} {env : Env} {sb s : Shared} {B : BP} {F : FL} {σ : VS} {N g : Nat} {ex : Nat → Nat × List Nat}

theorem gens_set {gg : Array GenState} {x y : GenState} (hs : gg.size = g + 1) {ss : Shared} (hh : ss.gens = gg) : ((ss.setGen g x).setGen g y).gens.size = g + 1 ∧ (∀ k, k < g → ((ss.setGen g x).setGen g y).gens[k]? = gg[k]?) ∧ ((ss.setGen g x).setGen g y).gens[g]? = some y := by
  subst hh
  have a := GenOnly.setGen ss g x
  have b := GenOnly.setGen (ss.setGen g x) g y
  refine ⟨b.1.trans (a.1.trans hs), fun k hk => (b.2 k (Nat.ne_of_lt hk)).trans (a.2 k (Nat.ne_of_lt hk)), ?_⟩
  have : ∃ u, ss.gens[g]? = some u := by
    rw [Array.getElem?_eq_getElem (by omega)]; exact ⟨_, rfl⟩
  obtain ⟨u, hu⟩ := this
  exact setGen_self (setGen_self hu)

theorem gen_turns {tgt : Expr} {body : List Stmt} {tg : VS → Dat → Option VS} {fb : VS → Option Out} {R : Result → Shared → Prop} {r : Nat} {xr : Str} {out : VS} {zs : List (Nat × List Nat)}
    (ht : CA nm mu tgt tg) (hb : CS false sc nm mu n body fb) (hr : nm[r]? = some xr) (hrm : xr ∉ mu) (hok : AOk n A)
    (hR : ∀ s, GLoop prog w sc nm mu n A env sb B F N g ex [] s out → flatV r out = true → ∀ h' tk gg, (∀ b o, b < N → s.heap.get? b = some o → h'.get? b = some o) → s.toks ≤ tk → gg.size = g + 1 → (∀ k, k < g → gg[k]? = sb.gens[k]?) → gg[g]? = some GenState.finished →
      R (.ok .next) { sb with heap := h', toks := tk, gens := gg })
    (x : GLoop prog w sc nm mu n A env sb B F N g ex zs s σ) (hσ : flatV r σ = true) (ho : loopG r tg fb zs σ = some (.next out)) :
    codeAny (model prog w) A (.forLoop tgt (.ref (N + 1)) body [] env) R s := by
  refine codeAny_forLoop_any (fun k s' => ∃ zs σ, GLoop prog w sc nm mu n A env sb B F N g ex zs s' σ ∧ flatV r σ = true ∧ loopG r tg fb zs σ = some (.next out) ∧ k = zs.length) ?_ zs.length ⟨zs, σ, x, hσ, ho, rfl⟩
  rintro k s ⟨zs, σ, x, hσ, ho, rfl⟩
  obtain ⟨gs, hgs, hgo⟩ := x.ready
  have T := x.fm.at.tops
  have go := hgo s (fun _ _ _ e => e) T
  have hroom : A.depth < recursionLimit := by
    have := hok.2.1
    show A.depth < 1000
    omega
  obtain ⟨h₀, tk₀, gg₀, hs, hgz, hgk⟩ := x.same
  have hsg : s.gens = gg₀ := by rw [hs]
  refine wpAny_with_toks (Nat.le_refl _) ?_
  cases zs with
  | nil =>
    have e : σ = out := by
      have : some (Out.next σ) = some (Out.next out) := ho
      cases this; rfl
    subst e
    refine wpAny_pyNext_gen (P := gP N) (Y := gY N ex) (n := 0) hok.1 T.lim hroom x.gen hgs go (fun v s₁ gs' y => ?_) (fun s₁ p h' hk => ?_)
    · exact (y.2.2.2 s₁ (fun _ _ _ e => e)).elim
    · intro tt
      obtain ⟨_, ⟨h₁, tk₁, rfl⟩, gk⟩ := p
      refine wpAny_execs_nil ?_
      obtain ⟨q1, q2, q3⟩ := gens_set (x := .running) (y := .finished) hgz hsg
      have := hR s x hσ h' tk₁ ((s.setGen g .running).setGen g .finished).gens (fun b o hb e => hk b o (gk b o (.inl hb) e)) tt q1 (fun k hk => (q2 k hk).trans (hgk k hk)) q3
      rw [hs] at this ⊢
      exact this
  | cons z zs =>
    have ho : (match tg σ (.tuple [.int z.1, .str ⟨z.2.toArray⟩]) with
      | none => none
      | some σ₁ => match fb σ₁ with
        | some (.next σ₂) => if flatV r σ₂ = true then loopG r tg fb zs σ₂ else none
        | _ => none) = some (.next out) := ho
    split at ho
    · cases ho
    · rename_i σ₁ hσ₁
      split at ho
      · rename_i σ₂ hf
        split at ho
        · rename_i hσ₂
          refine wpAny_pyNext_gen (P := gP N) (Y := gY N ex) (n := zs.length + 1) hok.1 T.lim hroom x.gen hgs go (fun v s₁ gs' y => ?_) (fun s₁ p h' hk => ?_)
          · intro tt
            obtain ⟨⟨h₁, tk₁, rfl⟩, gk, ⟨T', t1, t2, rfl, hT'⟩, kap⟩ := y
            have gk : GKept N s.heap h₁ := gk
            have hT' : h₁.get? T' = some { cls := .type "tuple", data := .seq #[.int (ex zs.length).1 t1, .str ⟨(ex zs.length).2.toArray⟩ t2] } := hT'
            rw [x.ag.1] at hT'
            have hgen₁ : h₁.IsGen (N + 1) g := by
              obtain ⟨o, a, b, e, rr⟩ := x.gen
              exact ⟨o, a, b, gk _ _ (.inr rfl) e, rr⟩
            obtain ⟨o, nmm, qn, e1, e2, _⟩ := id hgen₁
            have klow : ∀ b o, b < N → s.heap.get? b = some o → h₁.get? b = some o := fun b o hb e => gk b o (.inl hb) e
            obtain ⟨q1, q2, q3⟩ := gens_set (x := .running) (y := gs') hgz hsg
            have tt : s.toks ≤ tk₁ := tt
            refine lotg_quiet e1 e2 (by decide) ?_
            have y₁ := x.high (tk := tk₁) (gg := ((s.setGen g .running).setGen g gs').gens) (T := T') klow tt hT' rfl
            have dd : DatIn ([(T', ({ cls := .type "tuple", data := .seq [Value.int z.1 t1, Value.str ⟨z.2.toArray⟩ t2].toArray } : Obj))] ++ F) (.ref T') (.tuple [.int z.1, .str ⟨z.2.toArray⟩]) := .tuple List.mem_cons_self (.cons (.int _ _) (.cons (.str _ _) .nil))
            refine ht y₁ dd hσ₁ fun s₂ y₂ => ?_
            refine wpAny_mono (hb prog w A env _ _ s₂ _ σ₁ (.next σ₂) y₂ hf) (fun f s₃ z' => ?_) fun _ _ z => z.elim
            obtain ⟨rfl, G, nb, y₃⟩ := z'
            have e3 : G ++ ([(T', ({ cls := .type "tuple", data := .seq [Value.int z.1 t1, Value.str ⟨z.2.toArray⟩ t2].toArray } : Obj))] ++ F) = (G ++ [(T', ({ cls := .type "tuple", data := .seq [Value.int z.1 t1, Value.str ⟨z.2.toArray⟩ t2].toArray } : Obj))]) ++ F := by simp
            have y₃' : Fm false sc nm mu n A env { s with heap := h₁, toks := tk₁, gens := ((s.setGen g .running).setGen g gs').gens } (BN B N h₁) s₃ ((G ++ [(T', ({ cls := .type "tuple", data := .seq [Value.int z.1 t1, Value.str ⟨z.2.toArray⟩ t2].toArray } : Obj))]) ++ F) σ₂ := e3 ▸ y₃
            refine ⟨zs.length, Nat.lt_succ_self _, zs, σ₂, x.back (s₁ := { s with heap := h₁, toks := tk₁, gens := ((s.setGen g .running).setGen g gs').gens }) hr hrm hσ hσ₂ klow rfl q3 ⟨h₁, tk₁, _, by rw [hs], q1, fun k hk => (q2 k hk).trans (hgk k hk)⟩ y₃' hgen₁ x.ag.2 ?_, hσ₂, ho, rfl⟩
            intro s'' hk
            exact kap (s''.setGen g .running) hk
          · exact absurd p.1 (Nat.succ_ne_zero _)
        · cases ho
      · cases ho
end
end Mine

end -- Q3

section -- Q4
namespace Mine
open PySem PySem.W PyProof.Rows
set_option maxRecDepth 100000

def exOf (l : List (Nat × List Nat)) (k : Nat) : Nat × List Nat := l.getD (l.length - 1 - k) (0, [])
theorem ag_of (l : List (Nat × List Nat)) : ∀ (zs pre : List (Nat × List Nat)), l = pre ++ zs → Ag (exOf l) zs
  | [], _, _ => trivial
  | z :: zs, pre, h => by
    refine ⟨?_, ag_of l zs (pre ++ [z]) (by rw [h]; simp)⟩
    unfold exOf
    rw [h]
    have : (pre ++ z :: zs).length - 1 - zs.length = pre.length := by simp
    rw [this, List.getD_eq_getElem?_getD, List.getElem?_append_right (Nat.le_refl _)]
    simp

section
variable {gs : Bool} {sc : Scope} {nm mu mu' : List Str} {n : Nat} {prog : Program} {w : World} {A : Around} {env : Env} {s₀ sb s : Shared} {B : BP} {F : FL} {σ : VS} {N g : Nat} {ex : Nat → Nat × List Nat}
theorem Fm.again (y : Fm gs sc nm mu n A env s₀ B s F σ) (hm : ∀ x ∈ mu', x ∈ mu) (gg : Array GenState) : Fm false sc nm mu' n A env { s with gens := gg } B { s with gens := gg } F σ := by
  obtain ⟨al, a1, a2⟩ := y.accs
  refine ⟨y.envOk, y.ok, y.tb, y.has, y.sees, y.tok, Rest.refl _ _, y.keep, y.ns, y.offL, y.cells, fun x hx => y.apart x (hm x hx), fun x hx => y.st x (hm x hx), ?_, al, a1, a2⟩
  intro i z ds hz hd _
  obtain ⟨vs, kk, b1, _⟩ := a1 i z ds hz hd
  exact ⟨_, b1, b1⟩

theorem GLoop.fin {r : Nat} {xr : Str} {out σ' : VS} {s₁ : Shared} (x : GLoop prog w sc nm mu' n A env sb B F N g ex [] s out) (hr : nm[r]? = some xr) (hrm : xr ∈ mu) (hf : flatV r out = true) (y : Fm gs sc nm mu n A env s₀ B s₁ F σ')
    {h' : Heap} {tk : Nat} {gg : Array GenState} (k : ∀ b o, b < N → s.heap.get? b = some o → h'.get? b = some o) (ht : s.toks ≤ tk) (rest : Rest true s₀ { sb with heap := h', toks := tk, gens := gg }) :
    Fm true sc nm mu n A env s₀ B { sb with heap := h', toks := tk, gens := gg } F out := by
  have f := x.fm
  have hol : ∀ {z : Str} {v : Value}, Holds env s.heap z v → Holds env h' z v := by
    intro z v q
    rcases q with ⟨e, m, hm, q⟩ | ⟨e, c, q, ob, hob, hd⟩
    · exact .inl ⟨e, m, ns_get hm fun ob e => k _ _ x.loc e, q⟩
    · exact .inr ⟨e, c, q, ob, k _ _ (x.cel z c q) hob, hd⟩
  obtain ⟨m, hm⟩ := f.ns
  obtain ⟨al, a1, a2⟩ := f.accs
  refine ⟨f.envOk, f.ok, f.tb, fun p hp => k _ _ (x.fl p hp) (f.has p hp), ?_, Nat.le_trans f.tok ht, rest, fun b o hb => k _ _ (x.bl b o hb) (f.keep b o hb), ⟨m, ns_get hm fun ob e => k _ _ x.loc e⟩, f.offL, ?_, y.apart, y.st, ?_, al, ?_, a2⟩
  · intro i z d hz hd
    obtain ⟨v, h1, h2⟩ := f.sees i z d hz hd
    exact ⟨v, hol h1, h2⟩
  · intro z c e
    obtain ⟨h1, v, ob, h2, h3⟩ := f.cells z c e
    exact ⟨h1, v, ob, k _ _ (x.cel z c e) h2, h3⟩
  · intro i z ds hz hd hn
    exfalso
    have hi : i = r := by
      apply Classical.byContradiction
      intro hi
      have := (flat_at hf i).1 hi
      rw [hd] at this; cases this
    subst hi
    rw [hr] at hz; cases hz
    exact hn hrm
  · intro i z ds hz hd
    obtain ⟨vs, kk, b1, b2, b3, b4, b5⟩ := a1 i z ds hz hd
    exact ⟨vs, kk, hol b1, k _ _ (x.acc i z ds _ hz hd b1) b2, b3, b4, b5⟩

theorem gens_push {gg : Array GenState} {x : GenState} : (gg.push x).size = gg.size + 1 ∧ (∀ k, k < gg.size → (gg.push x)[k]? = gg[k]?) ∧ (gg.push x)[gg.size]? = some x :=
  ⟨Array.size_push .., fun k hk => by rw [Array.getElem?_push]; rw [if_neg (Nat.ne_of_lt hk)], by simp⟩
theorem bare_of {gg g₀ : Array GenState} (hs : gg.size = g₀.size + 1) (hk : ∀ k, k < g₀.size → gg[k]? = g₀[k]?) (hg : gg[g₀.size]? = some GenState.finished) (h : AllBare g₀) : AllBare gg := by
  intro y hy
  obtain ⟨i, hi, rfl⟩ := Array.mem_iff_getElem.mp hy
  rcases Nat.lt_or_ge i g₀.size with q | q
  · have := hk i q
    rw [Array.getElem?_eq_getElem hi, Array.getElem?_eq_getElem q] at this
    rw [Option.some.inj this]
    exact h _ (Array.getElem_mem q)
  · have e : i = g₀.size := by omega
    subst e
    rw [Array.getElem?_eq_getElem hi] at hg
    rw [Option.some.inj hg]; rfl

/-- the generator's def -/
structure GenOk : Prop where
  co : (scopeAt 4).isCoroutine = false
  gen : (scopeAt 4).isGenerator = true
  kind : (scopeAt 4).kind = .function
  cell : ∀ x ∈ (scopeAt 4).names, x.2 ≠ .cell
  par : (scopeAt 4).names.lookup ("addr" : Str) = some NameKind.local
  bind : ∀ pm c doc v, bindArgs (Calls.docDef "_iter_escaped_chars" (paramsAt 4) (bodyAt 4) (scopeAt 4) pm c doc) ⟨[v], []⟩ = pure [(("addr" : Str), v)]

theorem CX.forGen {tgt e : Expr} {body : List Stmt} {p cpos pos : Pos} {fe : VS → Option Dat} {tg : VS → Dat → Option VS} {fb : VS → Option Out} (r : Nat) {xr : Str} (O : GenOk) (hx : sc.names.lookup ("_iter_escaped_chars" : Str) = some .globalImplicit) (he : CE sc nm n e fe) (hp : Plain [e])
    (ht : CA nm mu' tgt tg) (hb : CS false sc nm mu' n body fb) (hsub : ∀ x ∈ mu', x ∈ mu) (hr : nm[r]? = some xr) (hrm : xr ∉ mu') (hrm' : xr ∈ mu) (hs : ∀ env x, foldedSetIterable (.Call (.Name "_iter_escaped_chars" p) [e] [] cpos) env x = pure x) :
    CX true sc nm mu n (.For tgt (.Call (.Name "_iter_escaped_chars" p) [e] [] cpos) body [] pos) (fun σ => (fe σ).bind fun d => match d with
      | .str x => if x.cps.toList.all (fun c => Nat.blt c 128) = true ∧ flatV r σ = true then loopG r tg fb (esc 0 false x.cps.toList) σ else none
      | _ => none) := by
  intro prog w A env s₀ B s F σ o fm ho
  obtain ⟨d, hd, ho⟩ := Option.bind_eq_some_iff.mp ho
  have T := fm.at.tops
  have hroom : A.depth < recursionLimit := by
    have := fm.ok.2.1
    show A.depth < 1000
    omega
  refine wpAny_For (Call_Name (x := "_iter_escaped_chars") (p := p) (pos := cpos) rfl (gl_name T (v := .ref 45) (.tail _ (.head _)) fm.envOk.fn (fm.envOk.kindOf hx) fm.envOk.gl ?_ (by decide))) (hs env)
  obtain ⟨⟨of, pm, doc, hof, hdf⟩, hcd⟩ := T.iter
  refine Calls.callWith_function (o := of) (fd := Calls.docDef "_iter_escaped_chars" (paramsAt 4) (bodyAt 4) (scopeAt 4) pm (.ref 44) doc) (evalArgs_trees hp (args_cons (fm.eval he hd fun v s₁ G kk g nb y₁ dd => args_nil ⟨⟨keeps_get kk _ _ hof, hdf⟩, ?_⟩) (hp env)))
  have T₁ := y₁.at.tops
  split at ho
  · rename_i x
    split at ho
    · rename_i hh
      cases dd with
      | str _ tx =>
        refine wpAny_call (codeAny_call_generator (body := bodyAt 4) hroom (keeps_get kk _ _ hof) hdf O.co O.gen rfl (hcd.keeps (keeps_get kk)) ?_)
        rw [List.nil_append, O.bind]
        refine wpAny_pure ?_
        refine wpAny_newFunctionEnv (scope := scopeAt 4) O.cell (fun q hq => by rw [List.mem_singleton.mp hq]; exact O.par) (fun h₁ hns hsb => ?_) O.kind
        have hsz : h₁.objs.size = s₁.heap.objs.size + 1 := by rw [hsb.1, Heap.size_push]
        have up : ∀ b o, s₁.heap.get? b = some o → h₁.get? b = some o := fun b o e => hsb.extBut b o (Nat.ne_of_lt (Heap.lt_size e)) (Heap.get?_push_of_some _ e)
        refine ⟨T₁.lim.keeps up, ?_⟩
        show wpAny _ _ (pyIter (.ref h₁.objs.size)) _ _ { s₁ with heap := h₁.push ({ cls := .type "generator", data := .fields #[.int s₁.gens.size 0, .str "_iter_escaped_chars" (s₁.toks + 1), .str "_iter_escaped_chars" (s₁.toks + 1 + 1)] } : Obj), gens := s₁.gens.push (.fresh (gC s₁.heap.objs.size)), toks := s₁.toks + 1 + 1 + 1 }
        generalize hgo : ({ cls := .type "generator", data := .fields #[.int s₁.gens.size 0, .str "_iter_escaped_chars" (s₁.toks + 1), .str "_iter_escaped_chars" (s₁.toks + 1 + 1)] } : Obj) = go
        have hgen : (h₁.push go).IsGen h₁.objs.size s₁.gens.size := by
          rw [← hgo]
          exact ⟨_, _, _, Heap.get?_push_size _ rfl, rfl, rfl, rfl⟩
        have up₂ : ∀ b o, s₁.heap.get? b = some o → (h₁.push go).get? b = some o := fun b o e => Heap.get?_push_of_some _ (up b o e)
        have y₂ := y₁.keeps1 (G := []) (s' := { s₁ with heap := h₁.push go, toks := s₁.toks + 1 + 1 + 1 }) ⟨_, _, rfl, up₂⟩ (.nil _ _) (by show 1 ≤ s₁.toks + 1 + 1 + 1; omega)
        have ysub := y₂.again hsub (s₁.gens.push (.fresh (gC s₁.heap.objs.size)))
        obtain ⟨m₁, hm₁⟩ := y₁.ns
        have hns₂ : (h₁.push go).Ns s₁.heap.objs.size (fun y => if y = ("addr" : Str) then some (Value.str x tx) else none) := by
          obtain ⟨oo, es, ep, e1, e2, e3, e4⟩ := hns
          refine ⟨oo, es, ep, Heap.get?_push_of_some _ e1, e2, e3, fun z => ?_⟩
          rw [e4 z]
          show List.lookup z [(("addr" : Str), Value.str x tx)] = if z = ("addr" : Str) then some (Value.str x tx) else none
          rw [List.lookup_cons]
          cases hz : z == ("addr" : Str) with
          | true => rw [if_pos (eq_of_beq hz)]
          | false => rw [if_neg (beq_eq_false_iff_ne.mp hz)]; rfl
        have h82 : 82 ≤ s₁.heap.objs.size := by
          obtain ⟨⟨o, _, _, e, _⟩, _⟩ := T₁.due
          exact Heap.lt_size e
        have hall : x.cps.all (· < 128) = true := by
          rw [← Array.all_toList]
          have := hh.1
          rw [List.all_eq_true] at this ⊢
          intro c hc
          have h2 : c < 128 := Nat.le_of_ble_eq_true (this c hc)
          exact decide_eq_true h2
        obtain ⟨p1, p2, p3⟩ := gens_push (gg := s₁.gens) (x := .fresh (gC s₁.heap.objs.size))
        have y₁' := y₁
        obtain ⟨al, a1, a2⟩ := y₁'.accs
        refine wpAny_pyIter_gen (g := s₁.gens.size) hgen ?_
        rw [hsz] at hgen ⊢
        cases o with
        | ret d' => exact absurd ho (fun q => by
            have : ∀ zs σ, loopG r tg fb zs σ ≠ some (.ret d') := by
              intro zs
              induction zs with
              | nil => intro σ q; cases q
              | cons z zs ih =>
                intro σ q
                unfold loopG at q
                split at q
                · cases q
                · split at q
                  · split at q
                    · exact ih _ q
                    · cases q
                  · cases q
            exact this _ _ q)
        | next out =>
          refine gen_turns (sb := s₁) (B := B) (F := [] ++ (G ++ F)) (N := s₁.heap.objs.size) (g := s₁.gens.size) (ex := exOf (esc 0 false x.cps.toList)) (zs := esc 0 false x.cps.toList) (σ := σ) ht hb hr hrm fm.ok ?_ ⟨ysub, hm₁.lt, ?_, ?_, ?_, ?_, hgen, ⟨_, p3, ?_⟩, ag_of _ _ [] rfl, ⟨_, _, _, rfl, p1, p2⟩⟩ hh.2 ho
          · intro s' X hfl h' tk gg k tt e1 e2 e3
            refine ⟨rfl, G, nb, ?_⟩
            have := X.fin (s₁ := s₁) (tk := tk) (gg := gg) hr hrm' hfl (by simpa using y₁) k tt (y₁.rest.trans ⟨_, _, _, rfl, (fun q => nomatch q), fun q => bare_of e1 e2 e3 q⟩)
            simpa using this
          · intro z c e
            obtain ⟨_, v, hv⟩ := y₁.cells z c e
            exact hv.lt
          · intro i z ds l hz hd' hl
            obtain ⟨vs, kq, b1, b2, _⟩ := a1 i z ds hz hd'
            have : al i = l := Value.ref.inj ((b1.keeps up₂).one hl)
            rw [← this]
            exact Heap.lt_size b2
          · intro q hq
            have hq : q ∈ G ++ F := by simpa using hq
            exact Heap.lt_size (y₁.has q hq)
          · intro b o' hb'
            exact Heap.lt_size (y₁.keep b o' hb')
          · intro s'' hk T''
            refine ⟨rfl, ?_⟩
            have hk : HighKept s₁.heap.objs.size (h₁.push go) s''.heap := hk
            refine seg_gen (L := s₁.heap.objs.size) (s := s''.setGen s₁.gens.size .running) (m := fun y => if y = ("addr" : Str) then some (Value.str x tx) else none) fm.ok.1 T'' hall (ns_get hns₂ fun ob e => hk _ _ (Nat.le_refl _) e) (if_pos rfl) (.inl rfl) ?_ h82 (ag_of _ _ [] rfl)
            obtain ⟨og, _, _, e, _⟩ := hgen
            exact Heap.lt_size (hk _ _ (Nat.le_succ _) e)
    · cases ho
  · cases ho
end
end Mine

end -- Q4

section -- L0
namespace Mine
open PySem PySem.W PyProof.Rows
set_option maxRecDepth 100000

/-- a def that leaves finished generators -/
def FnG (a : Addr) (n : Nat) (f : List Dat → Option Dat) : Prop :=
  ∀ (prog : Program) (w : World) (A : Around) (s : Shared) (F : FL) (vs : List Value) (ds : List Dat) (d : Dat), AOk n A → Tops s.heap → Has s.heap F → 1 ≤ s.toks → DatAll F vs ds → f ds = some d →
    wpAny (model prog w) A (call (.ref a) vs) (fun v s' => Rest true s s' ∧ (∀ b o, s.heap.get? b = some o → s'.heap.get? b = some o) ∧ (∃ G, New s s' G ∧ DatIn (G ++ F) v d) ∧ 1 ≤ s'.toks) (fun _ _ => False) s

section
variable {gs : Bool} {sc : Scope} {nm mu : List Str} {n : Nat} {prog : Program} {w : World} {A : Around} {env : Env} {s₀ s s' : Shared} {B : BP} {F G : FL} {σ : VS}
theorem Rest.yes (x : Rest gs s₀ s) : Rest true s₀ s := by
  obtain ⟨h, tk, g, e, _, b⟩ := x
  exact ⟨h, tk, g, e, (fun q => nomatch q), b⟩
theorem Fm.yes (y : Fm gs sc nm mu n A env s₀ B s F σ) : Fm true sc nm mu n A env s₀ B s F σ :=
  ⟨y.envOk, y.ok, y.tb, y.has, y.sees, y.tok, y.rest.yes, y.keep, y.ns, y.offL, y.cells, y.apart, y.st, y.lim, y.accs⟩
theorem Fm.grow (y : Fm true sc nm mu n A env s₀ B s F σ) (r : Rest true s s') (k : ∀ b o, s.heap.get? b = some o → s'.heap.get? b = some o) (g : New s s' G) (t : 1 ≤ s'.toks) : Fm true sc nm mu n A env s₀ B s' (G ++ F) σ := by
  obtain ⟨h', tk, gg, rfl, _, hb⟩ := id r
  have z := y.keeps1 (s' := { s with heap := h', toks := tk }) (G := G) ⟨h', tk, rfl, k⟩ g t
  exact ⟨z.envOk, z.ok, z.tb, z.has, z.sees, z.tok, y.rest.trans r, z.keep, z.ns, z.offL, z.cells, z.apart, z.st, z.lim, z.accs⟩
end

section
variable {prog : Program} {w : World} {A : Around} {s : Shared} {F : FL}
theorem FnG.of {i : Nat} {ps ls mu : List Str} (D : DefOk i ps ls mu) {n : Nat} {name : Str} {a c : Addr} (hT : ∀ h, Tops h → FnAt h a c i name) {fb : VS → Option Out} (hb : CS true (scopeAt i) (ps ++ ls) mu n (bodyAt i) fb) :
    FnG a (n + 1) (retF fb ls.length ps.length) := by
  intro prog w A s F vs ds d ok T hF ht hv hd
  unfold retF at hd
  split at hd
  · rename_i hl
    obtain ⟨⟨o, pm, doc, ho, hdata⟩, hcd⟩ := hT _ T
    refine wpAny_call (codeAny_def D ok T hF ht hv hl ho hdata hcd fun env s₁ fm _ => ?_)
    cases hr : fb (startV ls.length ds) with
    | none => rw [hr] at hd; cases hd
    | some out =>
      rw [hr] at hd
      cases out with
      | next σ => cases hd
      | ret d' =>
        cases hd
        refine wpAny_mono (hb prog w _ env s _ s₁ F _ _ fm.yes hr) (fun fl s' z => ?_) fun _ _ z => z
        obtain ⟨v, G, rfl, nb, hh, dd, kk, hrest, t1⟩ := z
        refine ⟨hrest, kk, ⟨G, fun p hp => ⟨hh p (List.mem_append_left _ hp), ?_⟩, dd⟩, t1⟩
        cases e : s.heap.get? p.1 with
        | none => rfl
        | some o => exact absurd e (nb p hp o)
  · cases hd

/-- text.split() -/
theorem call_split {x : Str} {t : Tok} {d : Dat} (hR : splitR x [] = some d) : wpAny (model prog w) A (call (.builtin "str.split") [.str x t]) (Ends s F d) (fun _ _ => False) s := by
  obtain ⟨hj, rfl⟩ := of_ite (c := x.cps.toList.length ≤ 1000000) hR
  rw [← str_len] at hj
  have hl : (Builtin.Str.spaceWords x (x.length + 1)).length ≤ sizeLine := by
    have h1 := (StrLaws.sw_weight x).1
    have h2 := StrLaws.len_le_wsum (Builtin.Str.spaceWords x (x.length + 1))
    rw [sizeLine_eq]; omega
  refine call_meets PySem.F.slot_str_split (typeIs_str _ _ _) PySem.F.entry_str_split (PySem.F.args_str_split_1 _) (meets_str_split_space x t (by rw [sizeLine_eq]; omega) hl) ?_
  have hw : Txt.words x = if (Builtin.Str.spaceWords x (x.length + 1) == [(0, x.length)]) = true then [x] else PySem.wordsOf x := rfl
  rw [words_eq] at hw
  have e : ((wl Unicode.isSpace none x.cps.toList).map fun w => Dat.str ⟨w.toArray⟩) = ((wl Unicode.isSpace none x.cps.toList).map fun w => (⟨w.toArray⟩ : Str)).map Dat.str := by rw [List.map_map]; rfl
  rw [e, hw]
  split
  · exact ends_list (.cons (.str _ _) .nil)
  · rw [strsFrom_eq]
    have q := dats_strs (F := F) (numbered s.toks (PySem.wordsOf x))
    rw [show ((numbered s.toks (PySem.wordsOf x)).map fun p => Dat.str p.1) = (PySem.wordsOf x).map Dat.str by have := congrArg (List.map Dat.str) (numbered_texts s.toks (PySem.wordsOf x)); rwa [List.map_map] at this] at q
    exact ends_list q
end

/-- y = f(e).split() -/
theorem CX.assignSplit {sc : Scope} {nm mu : List Str} {n : Nat} (i : Nat) {y fx : Str} {a c j : Nat} {name : Str} {py p cpos apos mpos pos : Pos} {e : Expr} {fe : VS → Option Dat} {f : List Dat → Option Dat} (hF : FnG a n f) (hT : ∀ h, Tops h → FnAt h a c j name) (hm : (fx, Value.ref a) ∈ glNames)
    (hx : sc.names.lookup fx = some .globalImplicit) (hd' : (fx == ("__debug__" : Str)) = false) (hp : Plain [e]) (he : CE sc nm n e fe) (hy : nm[i]? = some y) (hmu : y ∈ mu) (hnd : nm.Nodup)
    (hb : ∀ env, attributeBase (.Call (.Name fx p) [e] [] cpos) "split" env (eval (.Call (.Name fx p) [e] [] cpos) env) = eval (.Call (.Name fx p) [e] [] cpos) env) (hline : (apos.endLine == mpos.line) = true)
    (hs : ∀ env, swapsWith (.Call (.Attribute (.Call (.Name fx p) [e] [] cpos) "split" apos) [] [] mpos) (some (.Name y py)) pos.line env = pure false) :
    CX true sc nm mu n (.Assign [.Name y py] (.Call (.Attribute (.Call (.Name fx p) [e] [] cpos) "split" apos) [] [] mpos) pos)
      (fun σ => (fe σ).bind fun d => (f [d]).bind fun u => match u with | .str x => (splitR x []).map fun l => .next (σ.set i (.val l)) | _ => none) := by
  intro prog w A env s₀ B s F σ o fm ho
  obtain ⟨d, hd, ho⟩ := Option.bind_eq_some_iff.mp ho
  obtain ⟨u, hu, ho⟩ := Option.bind_eq_some_iff.mp ho
  split at ho
  · rename_i x
    obtain ⟨l, hl, rfl⟩ := Option.map_eq_some_iff.mp ho
    refine wpAny_Assign_Name (wpAny_Call_method_lateS (hb env) rfl hline ?_) (hs env)
    refine Call_Name (x := fx) (p := p) (pos := cpos) rfl (gl_name fm.at.tops hm fm.envOk.fn (fm.envOk.kindOf hx) fm.envOk.gl ?_ hd')
    obtain ⟨⟨of, pm, doc, hof, hdata⟩, _⟩ := hT _ fm.at.tops
    refine Calls.callWith_function (o := of) (fd := Calls.docDef name (paramsAt j) (bodyAt j) (scopeAt j) pm (.ref c) doc) (evalArgs_trees hp (args_cons (fm.eval he hd fun v s₁ G₁ k₁ g₁ nb₁ y₁ d₁ => args_nil ⟨⟨keeps_get k₁ _ _ hof, hdata⟩, ?_⟩) (hp env)))
    refine wpAny_mono (hF prog w A s₁ (G₁ ++ F) [v] [d] _ y₁.ok y₁.at.tops y₁.has y₁.tok (.cons d₁ .nil) hu) (fun v₂ s₂ z => ?_) fun _ _ z => z.elim
    obtain ⟨r₂, k₂, ⟨G₂, g₂, d₂⟩, t₂⟩ := z
    have y₂ := y₁.grow r₂ k₂ g₂ t₂
    have nb₂ : NewB B G₂ := fun p hp o hb => by
      have := y₁.keep _ _ hb
      rw [(g₂ p hp).2] at this; cases this
    cases d₂ with
    | str _ t =>
      refine ⟨"str", "str.split", PySem.F.plainAttrs_str, PySem.F.slot_str_split, PySem.F.type_str_split, typeIs_str _ _ _, (fun _ e => nomatch e), ?_⟩
      refine Calls.callWith_builtin rfl (evalArgs_trees (args := []) (fun _ => rfl) (args_nil ?_))
      refine wpAny_mono (wpAny_toks (call_split (F := G₂ ++ (G₁ ++ F)) hl)) (fun v₃ s₃ z => ?_) fun _ _ z => z.2.elim
      obtain ⟨t₃, k₃, G₃, g₃, d₃⟩ := z
      have nb₃ : NewB B G₃ := NewB.of_new y₂.keep g₃
      have y₃ := y₂.keeps k₃ g₃ t₃
      refine y₃.store hy hmu hnd (q := .val l) d₃ trivial fun s₄ y₄ => ⟨rfl, G₃ ++ (G₂ ++ G₁), nb₃.append (nb₂.append nb₁), ?_⟩
      simpa only [List.append_assoc] using y₄
  · cases ho
end Mine

end -- L0

section -- L1
namespace Mine
open PySem PySem.W PyProof.Rows
set_option maxRecDepth 100000
set_option maxHeartbeats 4000000

theorem CompOk.of {sc scope : Scope} {nm own : List Str} {cap : List (Nat × Str)} (h : scope.kind = .function ∧ (∀ x ∈ scope.names, x.2 = NameKind.local → scope.names.lookup x.1 = some NameKind.local) ∧ (∀ x ∈ scope.names, x.2 = NameKind.free → x.1 ∈ cap.map (·.2)) ∧
    (∀ p ∈ cap, nm[p.1]? = some p.2 ∧ ((relabelS scope sc).names.lookup p.2 = some NameKind.cell ∨ (relabelS scope sc).names.lookup p.2 = some NameKind.free) ∧ (p.2, NameKind.cell) ∉ scope.names ∧ p.2 ∉ own ∧ (p.2, NameKind.free) ∈ scope.names ∧ sc.names.lookup p.2 ≠ some NameKind.local) ∧
    (∀ x ∈ own, ((relabelS scope sc).names.lookup x = some NameKind.local ∧ (x, NameKind.cell) ∉ scope.names) ∨ ((relabelS scope sc).names.lookup x = some NameKind.cell ∧ (x, NameKind.cell) ∈ scope.names))) : CompOk sc scope nm own cap := by
  obtain ⟨h1, h2, h3, h4, h5⟩ := h
  refine ⟨h1, h2, fun x hx => ?_, h4, h5⟩
  obtain ⟨p, hp, e⟩ := List.mem_map.mp (h3 _ hx rfl)
  exact ⟨p, hp, e⟩
theorem genOk : GenOk := ⟨rfl, rfl, rfl, by decide +kernel, by decide +kernel, fun _ _ _ _ => rfl⟩
abbrev psSed : List Str := (["msg"] : List Str)
abbrev lsSed : List Str := (["start", "end", "i"] : List Str)
def pSed (n : Nat) : {f : VS → Option Out // CS false (scopeAt 2) (psSed ++ lsSed) lsSed n (bodyAt 2) f} := by
  apply Subtype.mk
  apply CS.cons
  · apply CX.assignPair 1 2
    · apply CE.tuple
      apply CL.cons
      · exact CE.int
      · apply CL.cons
        · apply CE.len
          · exact CE.name 0 rfl (by decide) (by decide)
          · exact fun _ => rfl
          · rfl
        · exact CL.nil
        · exact fun _ => rfl
      · exact fun _ => rfl
    · exact rfl
    · exact rfl
    · exact by decide
    · exact by decide
    · exact by decide
    · exact fun _ => rfl
    · rintro ⟨scope, _⟩ ⟨rfl, _, _, _⟩; rfl
  apply CS.cons
  · apply CX.assign 3
    · apply CE.find
      · exact CE.name 0 rfl (by decide) (by decide)
      · apply CL.cons
        · exact CE.txt [10] (by decide)
        · exact CL.nil
        · exact fun _ => rfl
      · exact fun _ => rfl
      · exact fun _ => rfl
      · exact by decide
      · exact by decide
    · exact rfl
    · exact by decide
    · exact by decide
    · exact fun _ => rfl
  apply CS.cons
  · apply CX.if_
    · apply CT.cmp (ho := cmp_ge)
      · exact CE.name 3 rfl (by decide) (by decide)
      · exact CE.int
      · rfl
    · apply CS.cons
      · apply CX.assign 2
        · exact CE.name 3 rfl (by decide) (by decide)
        · exact rfl
        · exact by decide
        · exact by decide
        · exact fun _ => rfl
      exact CS.nil
    · exact CS.nil
  apply CS.cons
  · apply CX.assign 3
    · apply CE.find
      · exact CE.name 0 rfl (by decide) (by decide)
      · apply CL.cons
        · exact CE.txt [58] (by decide)
        · apply CL.cons
          · exact CE.int
          · apply CL.cons
            · exact CE.name 2 rfl (by decide) (by decide)
            · exact CL.nil
            · exact fun _ => rfl
          · exact fun _ => rfl
        · exact fun _ => rfl
      · exact fun _ => rfl
      · exact fun _ => rfl
      · exact by decide
      · exact by decide
    · exact rfl
    · exact by decide
    · exact by decide
    · exact fun _ => rfl
  apply CS.cons
  · apply CX.if_
    · apply CT.cmp (ho := cmp_ge)
      · exact CE.name 3 rfl (by decide) (by decide)
      · exact CE.int
      · rfl
    · apply CS.cons
      · apply CX.assign 2
        · exact CE.name 3 rfl (by decide) (by decide)
        · exact rfl
        · exact by decide
        · exact by decide
        · exact fun _ => rfl
      exact CS.nil
    · exact CS.nil
  apply CS.cons
  · apply CX.assign 3
    · apply CE.rfind
      · exact CE.name 0 rfl (by decide) (by decide)
      · apply CL.cons
        · exact CE.txt [46] (by decide)
        · apply CL.cons
          · exact CE.int
          · apply CL.cons
            · exact CE.name 2 rfl (by decide) (by decide)
            · exact CL.nil
            · exact fun _ => rfl
          · exact fun _ => rfl
        · exact fun _ => rfl
      · exact fun _ => rfl
      · exact fun _ => rfl
      · exact by decide
      · exact by decide
    · exact rfl
    · exact by decide
    · exact by decide
    · exact fun _ => rfl
  apply CS.cons
  · apply CX.if_
    · apply CT.cmp (ho := cmp_ge)
      · exact CE.name 3 rfl (by decide) (by decide)
      · exact CE.int
      · rfl
    · apply CS.cons
      · apply CX.assign 1
        · apply CE.add
          · exact CE.name 3 rfl (by decide) (by decide)
          · exact CE.int
        · exact rfl
        · exact by decide
        · exact by decide
        · exact fun _ => rfl
      exact CS.nil
    · exact CS.nil
  apply CS.cons
  · apply CX.ret
    apply CE.sliceL
    · exact CE.name 0 rfl (by decide) (by decide)
    · apply CO.yes
      exact CE.name 1 rfl (by decide) (by decide)
    · apply CO.yes
      exact CE.name 2 rfl (by decide) (by decide)
    · exact fun _ _ => rfl
  exact CS.nil
theorem okSed : DefOk 2 psSed lsSed lsSed := ⟨rfl, rfl, rfl, by
  intro name pm c doc vals h
  match vals, h with
  | [v], _ => rfl, by decide +kernel, by decide +kernel, by decide +kernel⟩
theorem fnSed (n : Nat) : FnC 38 (n + 1) (retF (pSed n).1 lsSed.length psSed.length) := FnC.of okSed (fun _ T => T.sed) (pSed n).2
abbrev psQuo : List Str := (["data"] : List Str)
abbrev lsQuo : List Str := ([] : List Str)
def pQuo (n : Nat) : {f : VS → Option Out // CS false (scopeAt 10) (psQuo ++ lsQuo) lsQuo n (bodyAt 10) f} := by
  apply Subtype.mk
  apply CS.cons
  · apply CX.ret
    apply CE.psub finds1 (fun _ T => T.re1) sub_one_eq (by decide) (.tail _ (.tail _ (.tail _ (.head _))))
    · rfl
    · decide
    · exact CE.txt [46, 46] (by decide)
    · apply CE.psub finds2 (fun _ T => T.re2) sub_two_eq (by decide) (.tail _ (.tail _ (.tail _ (.tail _ (.head _)))))
      · rfl
      · decide
      · exact CE.glstr (.tail _ (.tail _ (.tail _ (.tail _ (.tail _ (.head _)))))) (by rfl) (by decide)
      · exact CE.name 0 rfl (by decide) (by decide)
      · exact fun _ => rfl
      · exact fun _ => rfl
      · decide
    · exact fun _ => rfl
    · exact fun _ => rfl
    · decide
  exact CS.nil
theorem okQuo : DefOk 10 psQuo lsQuo lsQuo := ⟨rfl, rfl, rfl, by
  intro name pm c doc vals h
  match vals, h with
  | [v], _ => rfl, by decide +kernel, by decide +kernel, by decide +kernel⟩
theorem fnQuo (n : Nat) : FnC 69 (n + 1) (retF (pQuo n).1 lsQuo.length psQuo.length) := FnC.of okQuo (fun _ T => T.quote) (pQuo n).2
end Mine

end -- L1

section -- L2
namespace Mine
open PySem PySem.W PyProof.Rows
set_option maxRecDepth 100000
set_option maxHeartbeats 4000000

abbrev psSqr : List Str := (["addr"] : List Str)
abbrev lsSqr : List Str := (["start", "open_pos", "result", "pos", "ch"] : List Str)
def pSqrF1 (n : Nat) : {f : VS → Option Out // CS false (scopeAt 5) (psSqr ++ lsSqr) (["start", "open_pos", "pos", "ch"] : List Str) n (forBody (stAt (bodyAt 5) 4)) f} := by
  apply Subtype.mk
  apply CS.cons
  · apply CX.if_
    · apply CT.cmp (ho := cmp_eq)
      · exact CE.name 5 rfl (by decide) (by decide)
      · exact CE.txt [34] (by decide)
      · rfl
    · apply CS.cons
      · apply CX.if_
        · apply CT.cmp (ho := cmp_is)
          · exact CE.name 2 rfl (by decide) (by decide)
          · exact CE.none_
          · rfl
        · apply CS.cons
          · apply CX.assign 2
            · exact CE.name 4 rfl (by decide) (by decide)
            · exact rfl
            · exact by decide
            · exact by decide
            · exact fun _ => rfl
          exact CS.nil
        · apply CS.cons
          · apply CX.if_
            · apply CT.cmp (ho := cmp_ne)
              · exact CE.name 1 rfl (by decide) (by decide)
              · exact CE.name 2 rfl (by decide) (by decide)
              · rfl
            · apply CS.cons
              · apply CX.append 3
                · apply CE.sliceL
                  · exact CE.name 0 rfl (by decide) (by decide)
                  · apply CO.yes
                    exact CE.name 1 rfl (by decide) (by decide)
                  · apply CO.yes
                    exact CE.name 2 rfl (by decide) (by decide)
                  · exact fun _ _ => rfl
                · exact rfl
                · exact by decide
                · exact by decide
                · exact fun _ => rfl
                · exact fun _ => rfl
                · exact by decide
                · exact fun _ => rfl
              exact CS.nil
            · exact CS.nil
          apply CS.cons
          · apply CX.assign 1
            · apply CE.add
              · exact CE.name 4 rfl (by decide) (by decide)
              · exact CE.int
            · exact rfl
            · exact by decide
            · exact by decide
            · exact fun _ => rfl
          apply CS.cons
          · apply CX.assign 2
            · exact CE.none_
            · exact rfl
            · exact by decide
            · exact by decide
            · exact fun _ => rfl
          exact CS.nil
      exact CS.nil
    · exact CS.nil
  exact CS.nil
def pSqr (n : Nat) : {f : VS → Option Out // CS true (scopeAt 5) (psSqr ++ lsSqr) lsSqr n (bodyAt 5) f} := by
  apply Subtype.mk
  apply CS.cons
  · apply CX.if_
    · apply CT.cmp (ho := cmp_notIn)
      · exact CE.txt [34] (by decide)
      · exact CE.name 0 rfl (by decide) (by decide)
      · rfl
    · apply CS.cons
      · apply CX.ret
        exact CE.name 0 rfl (by decide) (by decide)
      exact CS.nil
    · exact CS.nil
  apply CS.cons
  · apply CX.assign 1
    · exact CE.int
    · exact rfl
    · exact by decide
    · exact by decide
    · exact fun _ => rfl
  apply CS.cons
  · apply CX.assign 2
    · exact CE.none_
    · exact rfl
    · exact by decide
    · exact by decide
    · exact fun _ => rfl
  apply CS.cons
  · exact CX.newAcc 3 rfl (by decide) (by decide)
  apply CS.cons
  · apply CX.forGen (mu' := ["start", "open_pos", "pos", "ch"]) 3 genOk
    · rfl
    · exact CE.name 0 rfl (by decide) (by decide)
    · exact fun _ => rfl
    · exact CA.pair 4 5 rfl rfl (by decide) (by decide) (by decide)
    · exact (pSqrF1 n).2
    · exact by decide
    · exact rfl
    · exact by decide
    · exact by decide
    · exact fun _ _ => rfl
  apply CS.cons
  · apply CX.if_
    · apply CT.cmp (ho := cmp_lt)
      · exact CE.name 1 rfl (by decide) (by decide)
      · apply CE.len
        · exact CE.name 0 rfl (by decide) (by decide)
        · exact fun _ => rfl
        · rfl
      · rfl
    · apply CS.cons
      · apply CX.append 3
        · apply CE.sliceL
          · exact CE.name 0 rfl (by decide) (by decide)
          · apply CO.yes
            exact CE.name 1 rfl (by decide) (by decide)
          · exact CO.no
          · exact fun _ _ => rfl
        · exact rfl
        · exact by decide
        · exact by decide
        · exact fun _ => rfl
        · exact fun _ => rfl
        · exact by decide
        · exact fun _ => rfl
      exact CS.nil
    · exact CS.nil
  apply CS.freeze 3
  · rfl
  apply CS.cons
  · apply CX.ret
    apply CE.join
    · exact CE.txt [] (by decide)
    · apply CL.cons
      · exact CE.name 3 rfl (by decide) (by decide)
      · exact CL.nil
      · exact fun _ => rfl
    · exact fun _ => rfl
    · exact fun _ => rfl
    · exact by decide
    · exact by decide
  exact CS.nil
theorem okSqr : DefOk 5 psSqr lsSqr lsSqr := ⟨rfl, rfl, rfl, by
  intro name pm c doc vals h
  match vals, h with
  | [v], _ => rfl, by decide +kernel, by decide +kernel, by decide +kernel⟩
theorem fnSqr (n : Nat) : FnG 52 (n + 1) (retF (pSqr n).1 lsSqr.length psSqr.length) := FnG.of okSqr (fun _ T => T.sqr) (pSqr n).2
end Mine

end -- L2

section -- L3
namespace Mine
open PySem PySem.W PyProof.Rows
set_option maxRecDepth 100000
set_option maxHeartbeats 4000000

abbrev psMail : List Str := (["seed", "steps"] : List Str)
abbrev lsMail : List Str := (["mail", "letter", "step", "grown", "turn"] : List Str)
def pMailF2 (n : Nat) : {f : VS → Option Out // CS false (scopeAt 12) (psMail ++ lsMail) lsMail (n + 1) (forBody (stAt (forBody (stAt (bodyAt 12) 1)) 1)) f} := by
  apply Subtype.mk
  apply CS.cons
  · apply CX.assign 5
    · apply CE.call (a := 69) (c := 68) (i := 10) (name := "quotedata") (fnQuo n)
      · exact fun _ T => T.quote
      · exact .tail _ (.tail _ (.tail _ (.tail _ (.tail _ (.tail _ (.head _))))))
      · rfl
      · decide
      · exact fun _ => rfl
      · apply CL.cons
        · exact CE.name 5 rfl (by decide) (by decide)
        · exact CL.nil
        · exact fun _ => rfl
    · exact rfl
    · exact by decide
    · exact by decide
    · exact fun _ => rfl
  exact CS.nil
def pMailF1 (n : Nat) : {f : VS → Option Out // CS false (scopeAt 12) (psMail ++ lsMail) lsMail (n + 1) (forBody (stAt (bodyAt 12) 1)) f} := by
  apply Subtype.mk
  apply CS.cons
  · apply CX.assign 5
    · apply CE.repl 69
      · decide
      · exact CE.name 2 rfl (by decide) (by decide)
      · exact CE.name 3 rfl (by decide) (by decide)
      · exact fun _ => rfl
      · decide
    · exact rfl
    · exact by decide
    · exact by decide
    · exact fun _ => rfl
  apply CS.cons
  · apply CX.for_
    · apply CI.range
      · exact CE.name 4 rfl (by decide) (by decide)
      · exact fun _ => rfl
      · rfl
    · exact CA.name 6 rfl (by decide) (by decide)
    · exact (pMailF2 n).2
    · exact fun _ _ => rfl
    · exact .inr ⟨_, _, rfl⟩
  apply CS.cons
  · apply CX.assign 2
    · apply CE.add
      · apply CE.add
        · apply CE.add
          · exact CE.name 2 rfl (by decide) (by decide)
          · exact CE.txt [34, 10] (by decide)
        · exact CE.name 5 rfl (by decide) (by decide)
      · exact CE.txt [34, 10] (by decide)
    · exact rfl
    · exact by decide
    · exact by decide
    · exact fun _ => rfl
  exact CS.nil
def pMail (n : Nat) : {f : VS → Option Out // CS false (scopeAt 12) (psMail ++ lsMail) lsMail (n + 1) (bodyAt 12) f} := by
  apply Subtype.mk
  apply CS.cons
  · apply CX.assign 2
    · exact CE.name 0 rfl (by decide) (by decide)
    · exact rfl
    · exact by decide
    · exact by decide
    · exact fun _ => rfl
  apply CS.cons
  · apply CX.forx
    · apply CIx.zip
      · exact ⟨_, _, _, rfl⟩
      · exact CE.txt [97, 98, 99, 100] (by decide)
      · exact CE.name 1 rfl (by decide) (by decide)
      · exact fun _ => rfl
      · rfl
    · exact CA.pair 3 4 rfl rfl (by decide) (by decide) (by decide)
    · exact (pMailF1 n).2
    · exact fun _ _ => rfl
  apply CS.cons
  · apply CX.ret
    exact CE.name 2 rfl (by decide) (by decide)
  exact CS.nil
theorem okMail : DefOk 12 psMail lsMail lsMail := ⟨rfl, rfl, rfl, by
  intro name pm c doc vals h
  match vals, h with
  | [v, u], _ => rfl, by decide +kernel, by decide +kernel, by decide +kernel⟩
theorem fnMail (n : Nat) : FnC 76 (n + 2) (retF (pMail n).1 lsMail.length psMail.length) := FnC.of okMail (fun _ T => T.mail) (pMail n).2
abbrev psDue : List Str := (["first", "steps"] : List Str)
abbrev lsDue : List Str := (["due", "letter", "step"] : List Str)
def pDueF1 (n : Nat) : {f : VS → Option Out // CS false (scopeAt 13) (psDue ++ lsDue) lsDue n (forBody (stAt (bodyAt 13) 1)) f} := by
  apply Subtype.mk
  apply CS.cons
  · apply CX.assign 2
    · apply CE.add
      · exact CE.name 2 rfl (by decide) (by decide)
      · apply CE.comp ["size", "name"] [(4, "step"), (3, "letter")]
        · exact CompOk.of (by decide +kernel)
        · apply CI.seq
          exact CE.name 2 rfl (by decide) (by decide)
        · exact CA.pair 0 1 rfl rfl (by decide) (by decide) (by decide)
        · exact CTs.nil
        · apply CE.tuple
          apply CL.cons
          · apply CE.add
            · exact CE.name 0 rfl (by decide) (by decide)
            · exact CE.name 2 rfl (by decide) (by decide)
          · apply CL.cons
            · apply CE.add
              · apply CE.add
                · exact CE.txt [69] (by decide)
                · exact CE.name 3 rfl (by decide) (by decide)
              · apply CE.sliceL
                · exact CE.name 1 rfl (by decide) (by decide)
                · apply CO.yes
                  exact CE.int
                · exact CO.no
                · exact fun _ _ => rfl
            · exact CL.nil
            · exact fun _ => rfl
          · exact fun _ => rfl
        · exact .inl ⟨_, _, _, rfl⟩
        · exact fun _ _ => rfl
    · exact rfl
    · exact by decide
    · exact by decide
    · exact fun _ => rfl
  exact CS.nil
def pDue (n : Nat) : {f : VS → Option Out // CS false (scopeAt 13) (psDue ++ lsDue) lsDue n (bodyAt 13) f} := by
  apply Subtype.mk
  apply CS.cons
  · apply CX.assign 2
    · apply CE.list
      apply CL.cons
      · apply CE.tuple
        apply CL.cons
        · exact CE.name 0 rfl (by decide) (by decide)
        · apply CL.cons
          · exact CE.txt [69] (by decide)
          · exact CL.nil
          · exact fun _ => rfl
        · exact fun _ => rfl
      · exact CL.nil
      · exact fun _ => rfl
    · exact rfl
    · exact by decide
    · exact by decide
    · exact fun _ => rfl
  apply CS.cons
  · apply CX.forx
    · apply CIx.zip
      · exact ⟨_, _, _, rfl⟩
      · exact CE.txt [97, 98, 99, 100] (by decide)
      · exact CE.name 1 rfl (by decide) (by decide)
      · exact fun _ => rfl
      · rfl
    · exact CA.pair 3 4 rfl rfl (by decide) (by decide) (by decide)
    · exact (pDueF1 n).2
    · exact fun _ _ => rfl
  apply CS.cons
  · apply CX.ret
    exact CE.name 2 rfl (by decide) (by decide)
  exact CS.nil
theorem okDue : DefOk 13 psDue lsDue lsDue := ⟨rfl, rfl, rfl, by
  intro name pm c doc vals h
  match vals, h with
  | [v, u], _ => rfl, by decide +kernel, by decide +kernel, by decide +kernel⟩
theorem fnDue (n : Nat) : FnC 81 (n + 1) (retF (pDue n).1 lsDue.length psDue.length) := FnC.of okDue (fun _ T => T.due) (pDue n).2
end Mine

end -- L3

section -- L4
namespace Mine
open PySem PySem.W PyProof.Rows
set_option maxRecDepth 100000
set_option maxHeartbeats 4000000

abbrev psLaw : List Str := (["script"] : List Str)
abbrev lsLaw : List Str := (["many", "numbers", "first", "steps", "behind", "mail", "due", "shown", "hidden", "sums", "rows", "odd", "read", "row", "name", "size", "apart", "place", "power"] : List Str)
def pLawF2  : {f : VS → Option Out // CS true (scopeAt 14) (psLaw ++ lsLaw) lsLaw 3 (forBody (stAt (forBody (stAt (bodyAt 14) 10)) 1)) f} := by
  apply Subtype.mk
  apply CS.cons
  · apply CX.assign 15
    · apply CE.call (a := 38) (c := 37) (i := 2) (name := "_strip_exception_details") (fnSed 2)
      · exact fun _ T => T.sed
      · exact .head _
      · rfl
      · decide
      · exact fun _ => rfl
      · apply CL.cons
        · apply CE.add
          · exact CE.name 14 rfl (by decide) (by decide)
          · exact CE.txt [10, 46, 70, 58] (by decide)
        · exact CL.nil
        · exact fun _ => rfl
    · exact rfl
    · exact by decide
    · exact by decide
    · exact fun _ => rfl
  apply CS.cons
  · apply CX.assign 16
    · apply CE.sub
      · apply CE.len
        · exact CE.name 14 rfl (by decide) (by decide)
        · exact fun _ => rfl
        · rfl
      · apply CE.len
        · apply CE.lstrip
          · exact CE.name 14 rfl (by decide) (by decide)
          · apply CL.cons
            · exact CE.txt [46] (by decide)
            · exact CL.nil
            · exact fun _ => rfl
          · exact fun _ => rfl
          · exact fun _ => rfl
          · exact by decide
          · exact by decide
        · exact fun _ => rfl
        · rfl
    · exact rfl
    · exact by decide
    · exact by decide
    · exact fun _ => rfl
  apply CS.cons
  · apply CX.if_
    · apply CT.cmp (ho := cmp_ne)
      · exact CE.name 14 rfl (by decide) (by decide)
      · apply CE.add
        · apply CE.add
          · apply CE.mul
            · exact CE.txt [46] (by decide)
            · exact CE.name 16 rfl (by decide) (by decide)
          · exact CE.name 15 rfl (by decide) (by decide)
        · exact CE.name 5 rfl (by decide) (by decide)
      · rfl
    · apply CS.cons
      · apply CX.ret
        exact CE.false_
      exact CS.nil
    · exact CS.nil
  apply CS.cons
  · apply CX.append 13
    · apply CE.tuple
      apply CL.cons
      · exact CE.name 16 rfl (by decide) (by decide)
      · apply CL.cons
        · exact CE.name 15 rfl (by decide) (by decide)
        · exact CL.nil
        · exact fun _ => rfl
      · exact fun _ => rfl
    · exact rfl
    · exact by decide
    · exact by decide
    · exact fun _ => rfl
    · exact fun _ => rfl
    · exact by decide
    · exact fun _ => rfl
  exact CS.nil
def pLawChk  : {f : VS → Option Out // CS true (scopeAt 14) (psLaw ++ lsLaw) lsLaw 3 ((forBody (stAt (bodyAt 14) 10)).drop 2) f} := by
  apply Subtype.mk
  apply CS.freeze 13
  · rfl
  apply CS.cons
  · apply CX.if_
    · apply CT.cmp (ho := cmp_ne)
      · exact CE.name 13 rfl (by decide) (by decide)
      · apply CE.comp ["size", "name"] [(12, "odd")]
        · exact CompOk.of (by decide +kernel)
        · apply CI.seq
          exact CE.name 7 rfl (by decide) (by decide)
        · exact CA.pair 0 1 rfl rfl (by decide) (by decide) (by decide)
        · apply CTs.one
          apply CT.cmp (ho := cmp_eq)
          · apply CE.mod
            · apply CE.sub
              · apply CE.len
                · exact CE.name 1 rfl (by decide) (by decide)
                · exact fun _ => rfl
                · rfl
              · exact CE.int
            · exact CE.int
          · exact CE.name 2 rfl (by decide) (by decide)
          · rfl
        · apply CE.tuple
          apply CL.cons
          · exact CE.name 0 rfl (by decide) (by decide)
          · apply CL.cons
            · exact CE.name 1 rfl (by decide) (by decide)
            · exact CL.nil
            · exact fun _ => rfl
          · exact fun _ => rfl
        · exact .inl ⟨_, _, _, rfl⟩
        · exact fun _ _ => rfl
      · rfl
    · apply CS.cons
      · apply CX.ret
        exact CE.false_
      exact CS.nil
    · exact CS.nil
  apply CS.cons
  · apply CX.append 10
    · apply CE.comp ["power"] [(13, "read")]
      · exact CompOk.of (by decide +kernel)
      · apply CI.range
        · apply CE.add
          · exact CE.name 1 rfl (by decide) (by decide)
          · exact CE.int
        · exact fun _ => rfl
        · rfl
      · exact CA.name 0 rfl (by decide) (by decide)
      · exact CTs.nil
      · apply CE.sum
        · apply CE.comp ["size", "name"] [(0, "power")]
          · exact CompOk.of (by decide +kernel)
          · apply CI.seq
            exact CE.name 1 rfl (by decide) (by decide)
          · exact CA.pair 0 1 rfl rfl (by decide) (by decide) (by decide)
          · exact CTs.nil
          · apply CE.pow
            · exact CE.name 0 rfl (by decide) (by decide)
            · exact CE.name 2 rfl (by decide) (by decide)
          · exact .inl ⟨_, _, _, rfl⟩
          · exact fun _ _ => rfl
        · exact fun _ => rfl
        · rfl
      · exact .inr ⟨_, _, rfl⟩
      · exact fun _ _ => rfl
    · exact rfl
    · exact by decide
    · exact by decide
    · exact fun _ => rfl
    · exact fun _ => rfl
    · exact by decide
    · exact fun _ => rfl
  exact CS.nil
def pLawF1  : {f : VS → Option Out // CS true (scopeAt 14) (psLaw ++ lsLaw) lsLaw 3 (forBody (stAt (bodyAt 14) 10)) f} := by
  apply Subtype.mk
  apply CS.cons
  · exact CX.newAcc 13 rfl (by decide) (by decide)
  apply CS.cons
  · apply CX.for_
    · apply CI.seq
      exact CE.name 11 rfl (by decide) (by decide)
    · exact CA.name 14 rfl (by decide) (by decide)
    · exact (pLawF2).2
    · exact fun _ _ => rfl
    · exact .inr ⟨_, _, rfl⟩
  exact (pLawChk).2
def pLawF3  : {f : VS → Option Out // CS true (scopeAt 14) (psLaw ++ lsLaw) lsLaw 3 (forBody (stAt (bodyAt 14) 12)) f} := by
  apply Subtype.mk
  apply CS.cons
  · apply CX.assign 17
    · apply CE.mul
      · apply CE.mul
        · exact CE.name 17 rfl (by decide) (by decide)
        · apply CE.neg
          apply CE.add
          · exact CE.name 18 rfl (by decide) (by decide)
          · exact CE.int
      · apply CE.item
        · exact CE.name 4 rfl (by decide) (by decide)
        · exact CE.name 18 rfl (by decide) (by decide)
        · exact fun _ _ => rfl
    · exact rfl
    · exact by decide
    · exact by decide
    · exact fun _ => rfl
  exact CS.nil
def pLawF4  : {f : VS → Option Out // CS true (scopeAt 14) (psLaw ++ lsLaw) lsLaw 3 (forBody (stAt (bodyAt 14) 13)) f} := by
  apply Subtype.mk
  apply CS.freeze 10
  · rfl
  apply CS.cons
  · apply CX.if_
    · apply CT.cmp (ho := cmp_ne)
      · apply CE.item
        · apply CE.item
          · exact CE.name 10 rfl (by decide) (by decide)
          · exact CE.int
          · exact fun _ _ => rfl
        · exact CE.name 19 rfl (by decide) (by decide)
        · exact fun _ _ => rfl
      · apply CE.item
        · apply CE.item
          · exact CE.name 10 rfl (by decide) (by decide)
          · exact CE.int
          · exact fun _ _ => rfl
        · exact CE.name 19 rfl (by decide) (by decide)
        · exact fun _ _ => rfl
      · rfl
    · apply CS.cons
      · apply CX.ret
        exact CE.false_
      exact CS.nil
    · exact CS.nil
  exact CS.nil
def pLawEnd  : {f : VS → Option Out // CS true (scopeAt 14) (psLaw ++ lsLaw) lsLaw 3 ((bodyAt 14).drop 11) f} := by
  apply Subtype.mk
  apply CS.cons
  · apply CX.assign 17
    · exact CE.int
    · exact rfl
    · exact by decide
    · exact by decide
    · exact fun _ => rfl
  apply CS.cons
  · apply CX.for_
    · apply CI.range
      · exact CE.name 1 rfl (by decide) (by decide)
      · exact fun _ => rfl
      · rfl
    · exact CA.name 18 rfl (by decide) (by decide)
    · exact (pLawF3).2
    · exact fun _ _ => rfl
    · exact .inr ⟨_, _, rfl⟩
  apply CS.freeze 10
  · rfl
  apply CS.cons
  · apply CX.for_
    · apply CI.range
      · exact CE.name 1 rfl (by decide) (by decide)
      · exact fun _ => rfl
      · rfl
    · exact CA.name 19 rfl (by decide) (by decide)
    · exact (pLawF4).2
    · exact fun _ _ => rfl
    · exact .inr ⟨_, _, rfl⟩
  apply CS.cons
  · apply CX.ret
    apply CE.cmp (ho := cmp_eq)
    · apply CE.sub
      · apply CE.item
        · apply CE.item
          · exact CE.name 10 rfl (by decide) (by decide)
          · exact CE.int
          · exact fun _ _ => rfl
        · exact CE.name 1 rfl (by decide) (by decide)
        · exact fun _ _ => rfl
      · apply CE.item
        · apply CE.item
          · exact CE.name 10 rfl (by decide) (by decide)
          · exact CE.int
          · exact fun _ _ => rfl
        · exact CE.name 1 rfl (by decide) (by decide)
        · exact fun _ _ => rfl
    · exact CE.name 17 rfl (by decide) (by decide)
    · rfl
  exact CS.nil
def pLawTail  : {f : VS → Option Out // CS true (scopeAt 14) (psLaw ++ lsLaw) lsLaw 3 ((bodyAt 14).drop 9) f} := by
  apply Subtype.mk
  apply CS.cons
  · exact CX.newAcc 10 rfl (by decide) (by decide)
  apply CS.cons
  · apply CX.for_
    · apply CI.seq
      apply CE.tuple
      apply CL.cons
      · apply CE.tuple
        apply CL.cons
        · exact CE.name 8 rfl (by decide) (by decide)
        · apply CL.cons
          · exact CE.int
          · exact CL.nil
          · exact fun _ => rfl
        · exact fun _ => rfl
      · apply CL.cons
        · apply CE.tuple
          apply CL.cons
          · exact CE.name 9 rfl (by decide) (by decide)
          · apply CL.cons
            · exact CE.int
            · exact CL.nil
            · exact fun _ => rfl
          · exact fun _ => rfl
        · exact CL.nil
        · exact fun _ => rfl
      · exact fun _ => rfl
    · exact CA.pair 11 12 rfl rfl (by decide) (by decide) (by decide)
    · exact (pLawF1).2
    · exact fun _ _ => rfl
    · exact .inl ⟨_, _, _, rfl⟩
  exact (pLawEnd).2
def pLawMid  : {f : VS → Option Out // CS true (scopeAt 14) (psLaw ++ lsLaw) lsLaw 3 ((bodyAt 14).drop 5) f} := by
  apply Subtype.mk
  apply CS.cons
  · apply CX.assign 6
    · apply CE.call (a := 76) (c := 75) (i := 12) (name := "_law_mail") (fnMail 1)
      · exact fun _ T => T.mail
      · exact .tail _ (.tail _ (.tail _ (.tail _ (.tail _ (.tail _ (.tail _ (.head _)))))))
      · rfl
      · decide
      · exact fun _ => rfl
      · apply CL.cons
        · apply CE.add
          · apply CE.add
            · apply CE.add
              · apply CE.mul
                · exact CE.txt [46] (by decide)
                · exact CE.name 3 rfl (by decide) (by decide)
              · exact CE.txt [69] (by decide)
            · exact CE.name 5 rfl (by decide) (by decide)
          · exact CE.txt [10] (by decide)
        · apply CL.cons
          · exact CE.name 4 rfl (by decide) (by decide)
          · exact CL.nil
          · exact fun _ => rfl
        · exact fun _ => rfl
    · exact rfl
    · exact by decide
    · exact by decide
    · exact fun _ => rfl
  apply CS.cons
  · apply CX.assign 7
    · apply CE.call (a := 81) (c := 80) (i := 13) (name := "_law_due") (fnDue 2)
      · exact fun _ T => T.due
      · exact .tail _ (.tail _ (.tail _ (.tail _ (.tail _ (.tail _ (.tail _ (.tail _ (.head _))))))))
      · rfl
      · decide
      · exact fun _ => rfl
      · apply CL.cons
        · exact CE.name 3 rfl (by decide) (by decide)
        · apply CL.cons
          · exact CE.name 4 rfl (by decide) (by decide)
          · exact CL.nil
          · exact fun _ => rfl
        · exact fun _ => rfl
    · exact rfl
    · exact by decide
    · exact by decide
    · exact fun _ => rfl
  apply CS.cons
  · apply CX.assignSplit 8 (a := 52) (c := 51) (j := 5) (name := "_strip_quoted_realnames") (fnSqr 2)
    · exact fun _ T => T.sqr
    · exact .tail _ (.tail _ (.head _))
    · rfl
    · decide
    · exact fun _ => rfl
    · exact CE.name 6 rfl (by decide) (by decide)
    · exact rfl
    · exact by decide
    · exact by decide
    · exact fun _ => rfl
    · exact by decide
    · exact fun _ => rfl
  apply CS.cons
  · apply CX.assignSplit 9 (a := 52) (c := 51) (j := 5) (name := "_strip_quoted_realnames") (fnSqr 2)
    · exact fun _ T => T.sqr
    · exact .tail _ (.tail _ (.head _))
    · rfl
    · decide
    · exact fun _ => rfl
    · apply CE.add
      · apply CE.add
        · exact CE.txt [34] (by decide)
        · exact CE.name 6 rfl (by decide) (by decide)
      · exact CE.txt [34] (by decide)
    · exact rfl
    · exact by decide
    · exact by decide
    · exact fun _ => rfl
    · exact by decide
    · exact fun _ => rfl
  exact (pLawTail).2
def pLaw  : {f : VS → Option Out // CS true (scopeAt 14) (psLaw ++ lsLaw) lsLaw 3 (bodyAt 14) f} := by
  apply Subtype.mk
  apply CS.cons
  · apply CX.assign 1
    · apply CE.add
      · exact CE.int
      · apply CE.mod
        · apply CE.len
          · exact CE.name 0 rfl (by decide) (by decide)
          · exact fun _ => rfl
          · rfl
        · exact CE.int
    · exact rfl
    · exact by decide
    · exact by decide
    · exact fun _ => rfl
  apply CS.cons
  · apply CX.assign 2
    · apply CE.add
      · apply CE.sliceL
        · exact CE.name 0 rfl (by decide) (by decide)
        · exact CO.no
        · apply CO.yes
          exact CE.int
        · exact fun _ _ => rfl
      · apply CE.sliceT
        · apply CE.list
          apply CL.cons
          · exact CE.int
          · apply CL.cons
            · exact CE.int
            · apply CL.cons
              · exact CE.int
              · apply CL.cons
                · exact CE.int
                · apply CL.cons
                  · exact CE.int
                  · apply CL.cons
                    · exact CE.int
                    · exact CL.nil
                    · exact fun _ => rfl
                  · exact fun _ => rfl
                · exact fun _ => rfl
              · exact fun _ => rfl
            · exact fun _ => rfl
          · exact fun _ => rfl
        · apply CO.yes
          apply CE.len
          · exact CE.name 0 rfl (by decide) (by decide)
          · exact fun _ => rfl
          · rfl
        · exact CO.no
    · exact rfl
    · exact by decide
    · exact by decide
    · exact fun _ => rfl
  apply CS.cons
  · apply CX.assign 3
    · apply CE.add
      · exact CE.int
      · apply CE.mod
        · apply CE.item
          · exact CE.name 2 rfl (by decide) (by decide)
          · exact CE.int
          · exact fun _ _ => rfl
        · exact CE.int
    · exact rfl
    · exact by decide
    · exact by decide
    · exact fun _ => rfl
  apply CS.cons
  · apply CX.assignComp 4 ["number"] [(1, "many")]
    · exact CompOk.of (by decide +kernel)
    · apply CI.seq
      apply CE.sliceL
      · exact CE.name 2 rfl (by decide) (by decide)
      · apply CO.yes
        exact CE.int
      · apply CO.yes
        apply CE.add
        · exact CE.int
        · exact CE.name 1 rfl (by decide) (by decide)
      · exact fun _ _ => rfl
    · exact CA.name 0 rfl (by decide) (by decide)
    · exact CTs.nil
    · apply CE.add
      · exact CE.int
      · apply CE.mod
        · exact CE.name 0 rfl (by decide) (by decide)
        · apply CE.sub
          · exact CE.int
          · exact CE.name 1 rfl (by decide) (by decide)
    · exact .inr ⟨_, _, rfl⟩
    · exact fun _ _ => rfl
    · exact rfl
    · exact by decide
    · exact by decide
    · rintro ⟨scope, _⟩ ⟨rfl, _, _, _⟩; rfl
  apply CS.cons
  · apply CX.assign 5
    · apply CE.item
      · apply CE.tuple
        apply CL.cons
        · exact CE.txt [] (by decide)
        · apply CL.cons
          · exact CE.txt [58, 109, 46, 110] (by decide)
          · apply CL.cons
            · exact CE.txt [58, 92, 34] (by decide)
            · apply CL.cons
              · exact CE.txt [58, 46, 92, 92] (by decide)
              · exact CL.nil
              · exact fun _ => rfl
            · exact fun _ => rfl
          · exact fun _ => rfl
        · exact fun _ => rfl
      · apply CE.mod
        · apply CE.item
          · exact CE.name 2 rfl (by decide) (by decide)
          · exact CE.int
          · exact fun _ _ => rfl
        · exact CE.int
      · exact fun _ _ => rfl
    · exact rfl
    · exact by decide
    · exact by decide
    · exact fun _ => rfl
  exact (pLawMid).2
theorem okLaw : DefOk 14 psLaw lsLaw lsLaw := ⟨rfl, rfl, rfl, by
  intro name pm c doc vals h
  match vals, h with
  | [v], _ => rfl, by decide +kernel, by decide +kernel, by decide +kernel⟩
end Mine

end -- L4

section -- E1
namespace Mine
open PySem PySem.W PyProof.Rows
set_option maxRecDepth 100000

/-- a piece of the mail: a row of dots, E and letters, or a row of one mark; e: whether its end is '\r\n' -/
inductive Seg where
  | row (d : Nat) (l : List Nat) (e : Bool)
  | quo (e : Bool)
def eol : Bool → List Nat
  | true => [13, 10]
  | false => [10]
def dots : Nat → List Nat
  | 0 => []
  | d + 1 => 46 :: dots d
def rowT (B : List Nat) (d : Nat) (l : List Nat) : List Nat := dots d ++ (69 :: (l ++ B))
def segT (B : List Nat) : Seg → List Nat
  | .row d l e => rowT B d l ++ eol e
  | .quo e => 34 :: eol e
def textT (B : List Nat) : List Seg → List Nat
  | [] => []
  | s :: L => segT B s ++ textT B L
theorem text_append (B : List Nat) : ∀ L M : List Seg, textT B (L ++ M) = textT B L ++ textT B M
  | [], _ => rfl
  | s :: L, M => by rw [List.cons_append, textT, textT, text_append B L M, List.append_assoc]

/-- what may stand behind the letters -/
def BOk (B : List Nat) : Prop := B = [] ∨ B = [58, 109, 46, 110] ∨ B = [58, 92, 34] ∨ B = [58, 46, 92, 92]
def letter (c : Nat) : Prop := 97 ≤ c ∧ c ≤ 100
def SOk : Seg → Prop
  | .row d l _ => 1 ≤ d ∧ ∀ c ∈ l, letter c
  | .quo _ => True
def LOk (L : List Seg) : Prop := ∀ s ∈ L, SOk s

theorem dots_mem : ∀ {d : Nat} {c : Nat}, c ∈ dots d → c = 46
  | _ + 1, c, h => by
    rcases List.mem_cons.mp h with h | h
    · exact h
    · exact dots_mem h
theorem row_mem {B : List Nat} {d : Nat} {l : List Nat} {c : Nat} (h : c ∈ rowT B d l) : c = 46 ∨ c = 69 ∨ c ∈ l ∨ c ∈ B := by
  rcases List.mem_append.mp h with h | h
  · exact .inl (dots_mem h)
  · rcases List.mem_cons.mp h with h | h
    · exact .inr (.inl h)
    · rcases List.mem_append.mp h with h | h
      · exact .inr (.inr (.inl h))
      · exact .inr (.inr (.inr h))
theorem B_mem {B : List Nat} (hB : BOk B) {c : Nat} (h : c ∈ B) : c = 58 ∨ c = 109 ∨ c = 46 ∨ c = 110 ∨ c = 92 ∨ c = 34 := by
  rcases hB with rfl | rfl | rfl | rfl <;> simp at h <;> omega
theorem row_ne {B : List Nat} (hB : BOk B) {d : Nat} {l : List Nat} (hl : ∀ c ∈ l, letter c) {c : Nat} (h : c ∈ rowT B d l) : c ≠ 10 ∧ c ≠ 13 := by
  rcases row_mem h with h | h | h | h
  · omega
  · omega
  · have := hl c h; unfold letter at this; omega
  · have := B_mem hB h; omega

-- replace
theorem rep_append (c : Nat) (z : List Nat) : ∀ x y : List Nat, repC c z (x ++ y) = repC c z x ++ repC c z y
  | [], _ => rfl
  | a :: x, y => by
    rw [List.cons_append, repC, repC, rep_append c z x y]
    cases Nat.beq a c <;> simp
theorem beq_ne {a c : Nat} (h : a ≠ c) : Nat.beq a c = false := by
  rw [← beq_nat]; exact beq_eq_false_iff_ne.mpr h
theorem beq_same (c : Nat) : Nat.beq c c = true := by rw [← beq_nat]; simp
theorem rep_no (c : Nat) (z : List Nat) : ∀ x : List Nat, (∀ a ∈ x, a ≠ c) → repC c z x = x
  | [], _ => rfl
  | a :: x, h => by
    rw [repC, beq_ne (h a List.mem_cons_self), rep_no c z x fun b hb => h b (List.mem_cons_of_mem _ hb)]
    rfl
theorem eol_mem {e : Bool} {c : Nat} (h : c ∈ eol e) : c = 10 ∨ c = 13 := by
  cases e <;> simp [eol] at h <;> omega
def ins (c : Nat) : Seg → Seg
  | .row d l e => .row d (c :: l) e
  | .quo e => .quo e
theorem rep_text {B : List Nat} (hB : BOk B) (c : Nat) : ∀ L : List Seg, LOk L → repC 69 [69, c] (textT B L) = textT B (L.map (ins c))
  | [], _ => rfl
  | s :: L, h => by
    rw [textT, rep_append, rep_text hB c L fun s hs => h s (List.mem_cons_of_mem _ hs), List.map_cons, textT]
    congr 1
    have hs := h s List.mem_cons_self
    cases s with
    | quo e =>
      refine rep_no _ _ _ fun a ha => ?_
      rcases List.mem_cons.mp ha with ha | ha
      · omega
      · have := eol_mem ha; omega
    | row d l e =>
      show repC 69 [69, c] ((dots d ++ (69 :: (l ++ B))) ++ eol e) = (dots d ++ (69 :: ((c :: l) ++ B))) ++ eol e
      rw [rep_append, rep_append, rep_no _ _ (eol e) (fun a ha => by have := eol_mem ha; omega), rep_no _ _ (dots d) (fun a ha => by have := dots_mem ha; omega), repC, beq_same, rep_no _ _ (l ++ B)]
      · rfl
      · intro a ha
        rcases List.mem_append.mp ha with ha | ha
        · have := hs.2 a ha; unfold letter at this; omega
        · have := B_mem hB ha; omega

-- the two patterns
theorem sub2_line : ∀ (x : List Nat) (e : Bool) (r : List Nat), (∀ a ∈ x, a ≠ 10 ∧ a ≠ 13) → sub2L false (x ++ (eol e ++ r)) = x ++ (13 :: 10 :: sub2L false r)
  | [], e, r, _ => by cases e <;> rfl
  | a :: x, e, r, h => by
    have ha := h a List.mem_cons_self
    rw [List.cons_append, sub2L, beq_ne ha.2, beq_ne ha.1, sub2_line x e r fun b hb => h b (List.mem_cons_of_mem _ hb)]
    rfl
theorem sub1_line : ∀ (x : List Nat) (r : List Nat), (∀ a ∈ x, a ≠ 10) → sub1L false (x ++ (10 :: r)) = x ++ (10 :: sub1L true r)
  | [], _, _ => rfl
  | a :: x, r, h => by
    have ha := h a List.mem_cons_self
    rw [List.cons_append, sub1L, beq_ne ha, sub1_line x r fun b hb => h b (List.mem_cons_of_mem _ hb)]
    cases hq : Nat.beq a 46 with
    | true => rw [Nat.eq_of_beq_eq_true hq]; rfl
    | false => rfl
def q1 : Seg → Seg
  | .row d l _ => .row (d + 1) l true
  | .quo _ => .quo true
theorem sub2_text {B : List Nat} (hB : BOk B) : ∀ L : List Seg, LOk L → ∀ r, sub2L false (textT B L ++ r) = textT B (L.map fun s => match s with | .row d l _ => .row d l true | .quo _ => .quo true) ++ sub2L false r
  | [], _, _ => rfl
  | s :: L, h, r => by
    have hs := h s List.mem_cons_self
    have ih := sub2_text hB L (fun s hs => h s (List.mem_cons_of_mem _ hs)) r
    cases s with
    | quo e =>
      show sub2L false (([34] ++ eol e ++ textT B L) ++ r) = _
      rw [List.append_assoc, List.append_assoc, sub2_line [34] e _ (by intro a ha; cases List.mem_singleton.mp ha; decide), ih]
      rfl
    | row d l e =>
      show sub2L false ((rowT B d l ++ eol e ++ textT B L) ++ r) = _
      rw [List.append_assoc, List.append_assoc, sub2_line _ e _ (fun a ha => row_ne hB hs.2 ha), ih]
      show _ = (rowT B d l ++ [13, 10] ++ textT B _) ++ sub2L false r
      simp
theorem sub1_text {B : List Nat} (hB : BOk B) : ∀ L : List Seg, LOk L → sub1L true (textT B (L.map fun s => match s with | .row d l _ => .row d l true | .quo _ => .quo true)) = textT B (L.map q1)
  | [], _ => rfl
  | s :: L, h => by
    have hs := h s List.mem_cons_self
    have ih := sub1_text hB L fun s hs => h s (List.mem_cons_of_mem _ hs)
    cases s with
    | quo e =>
      show 34 :: sub1L false ([13] ++ (10 :: textT B _)) = _
      rw [sub1_line [13] _ (by intro a ha; cases List.mem_singleton.mp ha; decide), ih]
      rfl
    | row d l e =>
      obtain ⟨k, rfl⟩ : ∃ k, d = k + 1 := ⟨d - 1, by have := hs.1; omega⟩
      have e1 : rowT B (k + 1) l ++ [13, 10] ++ textT B (L.map fun s => match s with | .row d l _ => .row d l true | .quo _ => .quo true) = 46 :: ((rowT B k l ++ [13]) ++ (10 :: textT B (L.map fun s => match s with | .row d l _ => .row d l true | .quo _ => .quo true))) := by
        show (46 :: dots k ++ _) ++ _ ++ _ = _
        unfold rowT
        simp
      show sub1L true (rowT B (k + 1) l ++ [13, 10] ++ textT B _) = _
      rw [e1, sub1L, sub1_line _ _ (fun a ha => by
        rcases List.mem_append.mp ha with ha | ha
        · exact (row_ne hB hs.2 ha).1
        · cases List.mem_singleton.mp ha; decide), ih]
      show 46 :: 46 :: _ = (46 :: 46 :: dots k ++ _) ++ _ ++ _
      unfold rowT
      simp [eol]
theorem quo_text {B : List Nat} (hB : BOk B) (L : List Seg) (h : LOk L) : sub1L true (sub2L false (textT B L)) = textT B (L.map q1) := by
  have := sub2_text hB L h []
  rw [List.append_nil] at this
  rw [this]
  show sub1L true (textT B _ ++ []) = _
  rw [List.append_nil, sub1_text hB L h]
end Mine

end -- E1

section -- E2
namespace Mine
open PySem PySem.W PyProof.Rows
set_option maxRecDepth 100000

/-- the signs outside marks; b: behind a backslash, ins: inside marks -/
def outC : Bool → Bool → List Nat → List Nat
  | _, _, [] => []
  | true, ins, c :: r => bif ins then outC false ins r else c :: outC false ins r
  | false, ins, c :: r => bif Nat.beq c 92 then (bif ins then outC true ins r else c :: outC true ins r) else bif Nat.beq c 34 then outC false (!ins) r else (bif ins then outC false ins r else c :: outC false ins r)
def endC : Bool → Bool → List Nat → Bool
  | _, ins, [] => ins
  | true, ins, _ :: r => endC false ins r
  | false, ins, c :: r => bif Nat.beq c 92 then endC true ins r else bif Nat.beq c 34 then endC false (!ins) r else endC false ins r

def sl (x : List Nat) (a b : Nat) : List Nat := (x.take b).drop a
theorem sl_self (x : List Nat) (a : Nat) : sl x a a = [] := List.drop_eq_nil_of_le (by simp; omega)
theorem sl_more {x : List Nat} {a i c : Nat} {r : List Nat} (ha : a ≤ i) (h : x.drop i = c :: r) : sl x a (i + 1) = sl x a i ++ [c] := by
  have hl : i < x.length := by
    have := congrArg List.length h
    simp at this; omega
  unfold sl
  rw [List.take_add_one, List.drop_append_of_le_length (by simp; omega)]
  congr 1
  have := (drop_cons' h).1
  rw [this]; rfl

abbrev QSt := Nat × Option Nat × List (List Nat)
def qst (x : List Nat) (st : QSt) (z : Nat × List Nat) : QSt :=
  bif eqL z.2 [34] then (match st.2.1 with
    | none => (st.1, some z.1, st.2.2)
    | some q => (z.1 + 1, none, bif Nat.beq st.1 q then st.2.2 else st.2.2 ++ [sl x st.1 q]))
  else st
def QInv (x : List Nat) (i : Nat) (st : QSt) (ins : Bool) (o : List Nat) : Prop := match st.2.1 with
  | none => ins = false ∧ st.1 ≤ i ∧ st.2.2.flatten ++ sl x st.1 i = o
  | some q => ins = true ∧ st.1 ≤ q ∧ q ≤ i ∧ st.2.2.flatten ++ sl x st.1 q = o
theorem q_more {x : List Nat} {i c : Nat} {st : QSt} {ins : Bool} {o r : List Nat} (h : QInv x i st ins o) (hx : x.drop i = c :: r) : QInv x (i + 1) st ins (bif ins then o else o ++ [c]) := by
  obtain ⟨s, op, ds⟩ := st
  cases op with
  | none =>
    obtain ⟨rfl, h1, h2⟩ := h
    refine ⟨rfl, Nat.le_succ_of_le h1, ?_⟩
    show ds.flatten ++ sl x s (i + 1) = o ++ [c]
    rw [sl_more h1 hx, ← List.append_assoc]
    have h2 : ds.flatten ++ sl x s i = o := h2
    rw [h2]
  | some q =>
    obtain ⟨rfl, h1, h2, h3⟩ := h
    exact ⟨rfl, h1, Nat.le_succ_of_le h2, h3⟩
theorem q_fold (x : List Nat) : ∀ (r : List Nat) (i : Nat) (b ins : Bool) (st : QSt) (o : List Nat), x.drop i = r → i + r.length = x.length → QInv x i st ins o →
    QInv x x.length ((esc i b r).foldl (qst x) st) (endC b ins r) (o ++ outC b ins r)
  | [], i, b, ins, st, o, hx, hl, h => by
    have e : i = x.length := by simpa using hl
    subst e
    cases b with
    | false => simpa [esc, outC, endC] using h
    | true => simpa [esc, outC, endC, qst, eqL, Nat.beq] using h
  | c :: r, i, b, ins, st, o, hx, hl, h => by
    have hx' := (drop_cons' hx).2
    have hl' : i + 1 + r.length = x.length := by simp at hl; omega
    have hm := q_more h hx
    cases b with
    | true =>
      have e : qst x st (i, [92, c]) = st := by
        have : eqL [92, c] [34] = false := rfl
        unfold qst
        show (bif eqL [92, c] [34] then _ else st) = st
        rw [this]; rfl
      rw [esc, List.foldl_cons, e, endC, outC]
      have := q_fold x r (i + 1) false ins st _ hx' hl' hm
      cases ins <;> simpa using this
    | false =>
      rw [esc, endC, outC, beq_nat]
      cases h92 : Nat.beq c 92 with
      | true =>
        have := q_fold x r (i + 1) true ins st _ hx' hl' hm
        cases ins <;> simpa using this
      | false =>
        rw [if_neg (by decide), List.foldl_cons]
        cases h34 : Nat.beq c 34 with
        | false =>
          have e : qst x st (i, [c]) = st := by
            have : eqL [c] [34] = false := by show (bif Nat.beq c 34 then _ else false) = false; rw [h34]; rfl
            unfold qst
            show (bif eqL [c] [34] then _ else st) = st
            rw [this]; rfl
          rw [e]
          have := q_fold x r (i + 1) false ins st _ hx' hl' hm
          cases ins <;> simpa using this
        | true =>
          have e34 : eqL [c] [34] = true := by show (bif Nat.beq c 34 then true else false) = true; rw [h34]; rfl
          have key : QInv x (i + 1) (qst x st (i, [c])) (!ins) o := by
            obtain ⟨s, op, ds⟩ := st
            unfold qst
            show QInv x (i + 1) (bif eqL [c] [34] then _ else _) (!ins) o
            rw [e34]
            cases op with
            | none =>
              obtain ⟨rfl, h1, h2⟩ := h
              exact ⟨rfl, h1, Nat.le_succ _, h2⟩
            | some q =>
              obtain ⟨rfl, h1, h2, h3⟩ := h
              refine ⟨rfl, Nat.le_refl _, ?_⟩
              show (bif Nat.beq s q then ds else ds ++ [sl x s q]).flatten ++ sl x (i + 1) (i + 1) = o
              have h3 : ds.flatten ++ sl x s q = o := h3
              rw [sl_self, List.append_nil]
              cases hs : Nat.beq s q with
              | true =>
                rw [Nat.eq_of_beq_eq_true hs, sl_self, List.append_nil] at h3
                exact h3
              | false =>
                show (ds ++ [sl x s q]).flatten = o
                rw [List.flatten_append]
                simpa using h3
          exact q_fold x r (i + 1) false (!ins) _ _ hx' hl' key

/-- what the stripped text is -/
theorem q_all (x : List Nat) (he : endC false false x = false) : ∃ s ds, (esc 0 false x).foldl (qst x) (0, none, []) = (s, none, ds) ∧ s ≤ x.length ∧ ds.flatten ++ x.drop s = outC false false x := by
  have h := q_fold x x 0 false false (0, none, []) [] (by simp) (by simp) ⟨rfl, Nat.zero_le _, by simp [sl]⟩
  rw [he] at h
  rcases hst : (esc 0 false x).foldl (qst x) (0, none, []) with ⟨s, op, ds⟩
  rw [hst] at h
  cases op with
  | some q => exact absurd h.1 (by decide)
  | none =>
    obtain ⟨_, h1, h2⟩ := h
    refine ⟨s, ds, rfl, h1, ?_⟩
    have h2 : ds.flatten ++ sl x s x.length = [] ++ outC false false x := h2
    unfold sl at h2
    rw [List.take_length] at h2
    exact h2

-- on rows
def insEnd : Bool → List Seg → Bool
  | ins, [] => ins
  | ins, .row _ _ _ :: L => insEnd ins L
  | ins, .quo _ :: L => insEnd (!ins) L
def outS (B : List Nat) : Bool → List Seg → List Nat
  | _, [] => []
  | ins, .row d l e :: L => bif ins then outS B ins L else segT B (.row d l e) ++ outS B ins L
  | ins, .quo e :: L => bif ins then eol e ++ outS B (!ins) L else outS B (!ins) L
theorem out_plain : ∀ (p : List Nat) (ins : Bool) (r : List Nat), (∀ a ∈ p, a ≠ 92 ∧ a ≠ 34) → outC false ins (p ++ r) = (bif ins then outC false ins r else p ++ outC false ins r) ∧ endC false ins (p ++ r) = endC false ins r
  | [], ins, r, _ => by cases ins <;> exact ⟨rfl, rfl⟩
  | a :: p, ins, r, h => by
    have ha := h a List.mem_cons_self
    obtain ⟨h1, h2⟩ := out_plain p ins r fun b hb => h b (List.mem_cons_of_mem _ hb)
    rw [List.cons_append, outC, endC, beq_ne ha.1, beq_ne ha.2, h1, h2]
    cases ins <;> exact ⟨rfl, rfl⟩
theorem out_B {B : List Nat} (hB : BOk B) (ins : Bool) (r : List Nat) : outC false ins (B ++ r) = (bif ins then outC false ins r else B ++ outC false ins r) ∧ endC false ins (B ++ r) = endC false ins r := by
  rcases hB with rfl | rfl | rfl | rfl <;> cases ins <;> exact ⟨rfl, rfl⟩
theorem out_text {B : List Nat} (hB : BOk B) : ∀ (L : List Seg), LOk L → ∀ (ins : Bool) (r : List Nat), outC false ins (textT B L ++ r) = outS B ins L ++ outC false (insEnd ins L) r ∧ endC false ins (textT B L ++ r) = endC false (insEnd ins L) r
  | [], _, ins, r => ⟨rfl, rfl⟩
  | s :: L, h, ins, r => by
    have hs := h s List.mem_cons_self
    have ih := out_text hB L fun s hs => h s (List.mem_cons_of_mem _ hs)
    have pe : ∀ e, ∀ a ∈ eol e, a ≠ 92 ∧ a ≠ 34 := fun e a ha => by have := eol_mem ha; omega
    cases s with
    | quo e =>
      obtain ⟨h1, h2⟩ := ih (!ins) r
      obtain ⟨g1, g2⟩ := out_plain (eol e) (!ins) (textT B L ++ r) (pe e)
      have e0 : textT B (.quo e :: L) ++ r = 34 :: (eol e ++ (textT B L ++ r)) := by
        show (34 :: eol e ++ textT B L) ++ r = _
        simp
      rw [e0, outC, endC]
      show outC false (!ins) _ = _ ∧ endC false (!ins) _ = _
      rw [g1, g2, h1, h2]
      cases ins
      · exact ⟨rfl, rfl⟩
      · refine ⟨?_, rfl⟩
        show eol e ++ (outS B false L ++ _) = (eol e ++ outS B false L) ++ _
        rw [List.append_assoc]; rfl
    | row d l e =>
      obtain ⟨h1, h2⟩ := ih ins r
      obtain ⟨g1, g2⟩ := out_plain (eol e) ins (textT B L ++ r) (pe e)
      obtain ⟨k1, k2⟩ := out_B hB ins (eol e ++ (textT B L ++ r))
      obtain ⟨m1, m2⟩ := out_plain (dots d ++ (69 :: l)) ins (B ++ (eol e ++ (textT B L ++ r))) (fun a ha => by
        rcases List.mem_append.mp ha with ha | ha
        · have := dots_mem ha; omega
        · rcases List.mem_cons.mp ha with ha | ha
          · omega
          · have := hs.2 a ha; unfold letter at this; omega)
      have e0 : textT B (.row d l e :: L) ++ r = (dots d ++ (69 :: l)) ++ (B ++ (eol e ++ (textT B L ++ r))) := by
        show ((dots d ++ (69 :: (l ++ B))) ++ eol e ++ textT B L) ++ r = _
        simp
      rw [e0, m1, m2, k1, k2, g1, g2, h1, h2]
      cases ins
      · refine ⟨?_, rfl⟩
        show (dots d ++ (69 :: l)) ++ (B ++ (eol e ++ (outS B false L ++ _))) = (((dots d ++ (69 :: (l ++ B))) ++ eol e) ++ outS B false L) ++ _
        simp
        rfl
      · exact ⟨rfl, rfl⟩

-- the words
def rowsS : Bool → List Seg → List (Nat × List Nat)
  | _, [] => []
  | ins, .row d l _ :: L => bif ins then rowsS ins L else (d, l) :: rowsS ins L
  | ins, .quo _ :: L => rowsS (!ins) L
theorem wl_some {sp : Nat → Bool} : ∀ (x w r : List Nat), (∀ a ∈ x, sp a = false) → wl sp (some w) (x ++ r) = wl sp (some (w ++ x)) r
  | [], w, r, _ => by simp
  | a :: x, w, r, h => by
    rw [List.cons_append, wl, h a List.mem_cons_self, wl_some x (w ++ [a]) r fun b hb => h b (List.mem_cons_of_mem _ hb)]
    simp
theorem sp_eol (e : Bool) : ∀ a ∈ eol e, Unicode.isSpace a = true := by
  intro a ha
  rcases eol_mem ha with rfl | rfl <;> decide +kernel
theorem wl_eol (e : Bool) (r : List Nat) : wl Unicode.isSpace none (eol e ++ r) = wl Unicode.isSpace none r := by
  have h10 : Unicode.isSpace 10 = true := by decide +kernel
  have h13 : Unicode.isSpace 13 = true := by decide +kernel
  cases e
  · show (bif Unicode.isSpace 10 then _ else _) = _
    rw [h10]; rfl
  · show (bif Unicode.isSpace 13 then (bif Unicode.isSpace 10 then _ else _) else _) = _
    rw [h13, h10]; rfl
theorem wl_eol' (e : Bool) (w r : List Nat) : wl Unicode.isSpace (some w) (eol e ++ r) = w :: wl Unicode.isSpace none r := by
  have h10 : Unicode.isSpace 10 = true := by decide +kernel
  have h13 : Unicode.isSpace 13 = true := by decide +kernel
  cases e
  · show (bif Unicode.isSpace 10 then _ else _) = _
    rw [h10]; rfl
  · show (bif Unicode.isSpace 13 then w :: (bif Unicode.isSpace 10 then _ else _) else _) = _
    rw [h13, h10]; rfl
theorem sp_row {B : List Nat} (hB : BOk B) {d : Nat} {l : List Nat} (hl : ∀ c ∈ l, letter c) : ∀ a ∈ rowT B d l, Unicode.isSpace a = false := by
  intro a ha
  rcases row_mem ha with rfl | rfl | h | h
  · decide +kernel
  · decide +kernel
  · have := hl a h
    unfold letter at this
    have : a = 97 ∨ a = 98 ∨ a = 99 ∨ a = 100 := by omega
    rcases this with rfl | rfl | rfl | rfl <;> decide +kernel
  · rcases B_mem hB h with rfl | rfl | rfl | rfl | rfl | rfl <;> decide +kernel
theorem row_head (B : List Nat) {d : Nat} (l : List Nat) (hd : 1 ≤ d) : ∃ r, rowT B d l = 46 :: r := by
  obtain ⟨k, rfl⟩ : ∃ k, d = k + 1 := ⟨d - 1, by omega⟩
  exact ⟨_, rfl⟩
theorem split_text {B : List Nat} (hB : BOk B) : ∀ (L : List Seg), LOk L → ∀ ins, wl Unicode.isSpace none (outS B ins L) = (rowsS ins L).map fun p => rowT B p.1 p.2
  | [], _, _ => rfl
  | s :: L, h, ins => by
    have hs := h s List.mem_cons_self
    have ih := split_text hB L fun s hs => h s (List.mem_cons_of_mem _ hs)
    cases s with
    | quo e =>
      cases ins
      · exact ih true
      · show wl Unicode.isSpace none (eol e ++ outS B false L) = _
        rw [wl_eol, ih]; rfl
    | row d l e =>
      cases ins
      · show wl Unicode.isSpace none ((rowT B d l ++ eol e) ++ outS B false L) = rowT B d l :: (rowsS false L).map _
        obtain ⟨r, hr⟩ := row_head B l hs.1
        have hsp := sp_row hB (d := d) hs.2
        rw [hr] at hsp ⊢
        rw [List.append_assoc, List.cons_append, wl, hsp 46 List.mem_cons_self]
        show wl Unicode.isSpace (some [46]) (r ++ (eol e ++ outS B false L)) = _
        rw [wl_some r [46] _ fun a ha => hsp a (List.mem_cons_of_mem _ ha), wl_eol', ih]
        rfl
      · exact ih true
end Mine

end -- E2

section -- E3
namespace Mine
open PySem PySem.W PyProof.Rows
set_option maxRecDepth 100000

theorem idx_at (c : Nat) : ∀ (p r : List Nat) (k : Nat), (∀ a ∈ p, a ≠ c) → idxC c k (p ++ c :: r) = ((k + p.length : Nat) : Int)
  | [], r, k, _ => by
    show (bif Nat.beq c c then ((k : Nat) : Int) else _) = _
    rw [beq_same]; rfl
  | a :: p, r, k, h => by
    rw [List.cons_append, idxC, beq_ne (h a List.mem_cons_self)]
    show idxC c (k + 1) (p ++ c :: r) = _
    rw [idx_at c p r (k + 1) fun b hb => h b (List.mem_cons_of_mem _ hb), List.length_cons]
    congr 1; omega
theorem idx_no (c : Nat) : ∀ (p : List Nat) (k : Nat), (∀ a ∈ p, a ≠ c) → idxC c k p = -1
  | [], _, _ => rfl
  | a :: p, k, h => by
    rw [idxC, beq_ne (h a List.mem_cons_self)]
    exact idx_no c p (k + 1) fun b hb => h b (List.mem_cons_of_mem _ hb)
theorem ridx_no (c : Nat) : ∀ (p : List Nat) (r : Int) (k : Nat), (∀ a ∈ p, a ≠ c) → ridxC c r k p = r
  | [], _, _, _ => rfl
  | a :: p, r, k, h => by
    rw [ridxC, beq_ne (h a List.mem_cons_self)]
    exact ridx_no c p r (k + 1) fun b hb => h b (List.mem_cons_of_mem _ hb)
theorem ridx_dots : ∀ (d : Nat) (x : List Nat) (r : Int) (k : Nat), ridxC 46 r k (dots (d + 1) ++ x) = ridxC 46 ((k + d : Nat) : Int) (k + d + 1) x
  | 0, x, r, k => rfl
  | d + 1, x, r, k => by
    show ridxC 46 (k : Int) (k + 1) (dots (d + 1) ++ x) = _
    rw [ridx_dots d x _ (k + 1)]
    have e : k + 1 + d = k + (d + 1) := by omega
    rw [e]
theorem dots_len : ∀ d : Nat, (dots d).length = d
  | 0 => rfl
  | d + 1 => by rw [dots, List.length_cons, dots_len d]

theorem sed_pos (n : Nat) (m : Str) (a b c : Int) (ha : 0 ≤ a) (hlen : m.cps.size ≤ 1000000) (h1 : findR m [.str ⟨[10].toArray⟩] = some (.int a)) (h2 : findR m [.str ⟨[58].toArray⟩, .int 0, .int a] = some (.int b)) (hb : 0 ≤ b)
   (h3 : rfindR m [.str ⟨[46].toArray⟩, .int 0, .int b] = some (.int c)) (hc : 0 ≤ c) (d : Dat) (h4 : cutD (some (c + 1)) (some b) (.str m) = some d) :
    retF (pSed n).1 lsSed.length psSed.length [.str m] = some d := by
  unfold retF pSed
  simp [startV, Out.go, VS.get, VS.at, lenD, h1, h2, h3, hlen, geD, addD, ha, hb, hc, intD, h4]
theorem sed_neg (n : Nat) (m : Str) (a b c : Int) (ha : 0 ≤ a) (hlen : m.cps.size ≤ 1000000) (h1 : findR m [.str ⟨[10].toArray⟩] = some (.int a)) (h2 : findR m [.str ⟨[58].toArray⟩, .int 0, .int a] = some (.int b)) (hb : ¬ 0 ≤ b)
   (h3 : rfindR m [.str ⟨[46].toArray⟩, .int 0, .int a] = some (.int c)) (hc : 0 ≤ c) (d : Dat) (h4 : cutD (some (c + 1)) (some a) (.str m) = some d) :
    retF (pSed n).1 lsSed.length psSed.length [.str m] = some d := by
  unfold retF pSed
  simp [startV, Out.go, VS.get, VS.at, lenD, h1, h2, h3, hlen, geD, addD, ha, hb, hc, intD, h4]

theorem find_one (x : List Nat) (c : Nat) : findR ⟨x.toArray⟩ [.str ⟨[c].toArray⟩] = some (.int (idxC c 0 x)) := rfl
theorem find_to (x : List Nat) (c : Nat) (j : Nat) (h : j ≤ x.length) : findR ⟨x.toArray⟩ [.str ⟨[c].toArray⟩, .int 0, .int j] = some (.int (idxC c 0 (x.take j))) := by
  show (if (0 : Int) ≤ j ∧ (j : Int) ≤ x.length then some (Dat.int (idxC c 0 (x.take (j : Int).toNat))) else none) = _
  rw [if_pos (by omega), Int.toNat_natCast]
theorem rfind_to (x : List Nat) (c : Nat) (j : Nat) (h : j ≤ x.length) : rfindR ⟨x.toArray⟩ [.str ⟨[c].toArray⟩, .int 0, .int j] = some (.int (ridxC c (-1) 0 (x.take j))) := by
  show (if (0 : Int) ≤ j ∧ (j : Int) ≤ x.length then some (Dat.int (ridxC c (-1) 0 (x.take (j : Int).toNat))) else none) = _
  rw [if_pos (by omega), Int.toNat_natCast]
theorem cut_str (x : List Nat) (a b : Nat) (h : x.length ≤ 1000000) : cutD (some (a : Int)) (some (b : Int)) (.str ⟨x.toArray⟩) = some (.str ⟨((x.take b).drop a).toArray⟩) := by
  show (if partOk (some (a : Int)) = true ∧ partOk (some (b : Int)) = true ∧ x.length ≤ 1000000 then some (Dat.str ⟨((x.take (b : Int).toNat).drop (a : Int).toNat).toArray⟩) else none) = _
  have p : ∀ i : Nat, partOk (some (i : Int)) = true := fun i => by
    show decide ((0 : Int) ≤ i) = true
    exact decide_eq_true (by omega)
  rw [if_pos ⟨p a, p b, h⟩, Int.toNat_natCast, Int.toNat_natCast]

theorem sed_row (n : Nat) {B : List Nat} (hB : BOk B) {d : Nat} {l : List Nat} (hd : 1 ≤ d) (hl : ∀ c ∈ l, letter c) (b1 : d ≤ 1000) (b2 : l.length ≤ 1000) :
    retF (pSed n).1 lsSed.length psSed.length [.str ⟨(rowT B d l ++ [10, 46, 70, 58]).toArray⟩] = some (.str ⟨(69 :: l).toArray⟩) := by
  have hBl : B.length ≤ 4 := by rcases hB with rfl | rfl | rfl | rfl <;> simp
  have hrl : (rowT B d l).length = d + (1 + (l.length + B.length)) := by
    unfold rowT
    rw [List.length_append, dots_len, List.length_cons, List.length_append]; omega
  have hml : (rowT B d l ++ [10, 46, 70, 58]).length = (rowT B d l).length + 4 := by rw [List.length_append]; rfl
  have hrow := fun a (h : a ∈ rowT B d l) => row_ne hB hl h
  have h1 : findR ⟨(rowT B d l ++ [10, 46, 70, 58]).toArray⟩ [.str ⟨[10].toArray⟩] = some (.int ((rowT B d l).length : Int)) := by
    rw [find_one, idx_at 10 (rowT B d l) [46, 70, 58] 0 fun a ha => (hrow a ha).1, Nat.zero_add]
  have tk : (rowT B d l ++ [10, 46, 70, 58]).take (rowT B d l).length = rowT B d l := List.take_left ..
  have pre58 : ∀ a ∈ dots d ++ (69 :: l), a ≠ 58 := by
    intro a ha
    rcases List.mem_append.mp ha with ha | ha
    · have := dots_mem ha; omega
    · rcases List.mem_cons.mp ha with ha | ha
      · omega
      · have := hl a ha; unfold letter at this; omega
  have hpre : (dots d ++ (69 :: l)).length = d + (1 + l.length) := by rw [List.length_append, dots_len, List.length_cons]; omega
  have hrsplit : rowT B d l = (dots d ++ (69 :: l)) ++ B := by unfold rowT; simp
  have hE : (69 :: l).all (· != 46) = true := by
    rw [List.all_eq_true]
    intro a ha
    rcases List.mem_cons.mp ha with rfl | ha
    · rfl
    · have := hl a ha
      unfold letter at this
      have : a ≠ 46 := by omega
      simpa using this
  have hr : ridxC 46 (-1) 0 (dots d ++ (69 :: l)) = ((d - 1 : Nat) : Int) := by
    obtain ⟨k, rfl⟩ : ∃ k, d = k + 1 := ⟨d - 1, by omega⟩
    rw [ridx_dots, ridx_no]
    · simp
    · intro a ha
      have := List.all_eq_true.mp hE a ha
      simpa using this
  have fin : ∀ j : Nat, j = d + (1 + l.length) → ((rowT B d l ++ [10, 46, 70, 58]).take j) = dots d ++ (69 :: l) := by
    rintro j rfl
    rw [hrsplit, List.append_assoc, ← hpre]
    exact List.take_left ..
  have hcut : (((rowT B d l ++ [10, 46, 70, 58]).take (d + (1 + l.length))).drop d) = 69 :: l := by
    rw [fin _ rfl]
    have e : dots d ++ (69 :: l) = dots d ++ (69 :: l) := rfl
    rw [List.drop_append, dots_len, Nat.sub_self, List.drop_zero, List.drop_eq_nil_of_le (by rw [dots_len]; exact Nat.le_refl _)]
    rfl
  have hc : ((d - 1 : Nat) : Int) + 1 = (d : Int) := by omega
  have h4 : cutD (some (((d - 1 : Nat) : Int) + 1)) (some ((d + (1 + l.length) : Nat) : Int)) (.str ⟨(rowT B d l ++ [10, 46, 70, 58]).toArray⟩) = some (.str ⟨(69 :: l).toArray⟩) := by
    rw [hc, cut_str _ _ _ (by omega), hcut]
  have hsz : (rowT B d l ++ [10, 46, 70, 58]).toArray.size ≤ 1000000 := by rw [List.size_toArray]; omega
  by_cases hB0 : B = []
  · subst hB0
    have hrl' : (rowT [] d l).length = d + (1 + l.length) := by rw [hrl]; simp
    refine sed_neg n _ ((rowT [] d l).length : Int) (-1) ((d - 1 : Nat) : Int) (by omega) hsz h1 ?_ (by decide) ?_ (by omega) _ ?_
    · rw [find_to _ _ _ (by omega), tk, idx_no]
      rw [hrsplit, List.append_nil]; exact pre58
    · rw [rfind_to _ _ _ (by omega), hrl', fin _ rfl, hr]
    · rw [hrl']; exact h4
  · obtain ⟨B', hB'⟩ : ∃ B', B = 58 :: B' := by
      rcases hB with rfl | rfl | rfl | rfl
      · exact absurd rfl hB0
      · exact ⟨_, rfl⟩
      · exact ⟨_, rfl⟩
      · exact ⟨_, rfl⟩
    refine sed_pos n _ ((rowT B d l).length : Int) ((d + (1 + l.length) : Nat) : Int) ((d - 1 : Nat) : Int) (by omega) hsz h1 ?_ (by omega) ?_ (by omega) _ h4
    · rw [find_to _ _ _ (by omega), tk, hrsplit, hB', idx_at 58 _ B' 0 pre58, hpre, Nat.zero_add]
    · rw [rfind_to _ _ _ (by omega), fin _ rfl, hr]
end Mine

end -- E3

section -- E4
namespace Mine
open PySem PySem.W PyProof.Rows
set_option maxRecDepth 100000

theorem sub2_len : ∀ (x : List Nat) (b : Bool), (sub2L b x).length ≤ 2 * x.length
  | [], b => by cases b <;> simp [sub2L]
  | c :: x, b => by
    have h1 := sub2_len x true
    have h2 := sub2_len x false
    unfold sub2L
    cases Nat.beq c 13 <;> cases Nat.beq c 10 <;> cases b <;> simp <;> omega
theorem sub1_len : ∀ (x : List Nat) (b : Bool), (sub1L b x).length ≤ 2 * x.length
  | [], b => by cases b <;> simp [sub1L]
  | c :: x, b => by
    have h1 := sub1_len x false
    have h2 := sub1_len x (Nat.beq c 10)
    unfold sub1L
    cases Nat.beq c 46 <;> cases b <;> simp <;> omega
theorem quo_ok (n : Nat) (x : List Nat) (h : x.length ≤ 25000) : retF (pQuo n).1 lsQuo.length psQuo.length [.str ⟨x.toArray⟩] = some (.str ⟨(sub1L true (sub2L false x)).toArray⟩) := by
  have h1 := sub2_len x false
  have h2 := sub1_len (sub2L false x) true
  have e1 : psubD [13, 10] (sub2L false) (.str ⟨#[13, 10]⟩) (.str ⟨x.toArray⟩) = some (.str ⟨(sub2L false x).toArray⟩) := if_pos ⟨by show x.length ≤ 100000; omega, by show (sub2L false x).length ≤ 1000000; omega⟩
  have e2 : psubD [46, 46] (sub1L true) (.str ⟨#[46, 46]⟩) (.str ⟨(sub2L false x).toArray⟩) = some (.str ⟨(sub1L true (sub2L false x)).toArray⟩) := if_pos ⟨by show (sub2L false x).length ≤ 100000; omega, by show (sub1L true (sub2L false x)).length ≤ 1000000; omega⟩
  unfold retF pQuo
  simp [startV, Out.go, VS.get, VS.at, e1, e2]

/-- bounds of the mail's rows -/
def W (D M : Nat) (L : List Seg) : Prop := LOk L ∧ ∀ s ∈ L, match s with | .row d l _ => d ≤ D ∧ l.length ≤ M | .quo _ => True
theorem B_len {B : List Nat} (hB : BOk B) : B.length ≤ 4 := by rcases hB with rfl | rfl | rfl | rfl <;> simp
theorem row_len {B : List Nat} {d : Nat} {l : List Nat} : (rowT B d l).length = d + (1 + (l.length + B.length)) := by
  unfold rowT
  rw [List.length_append, dots_len, List.length_cons, List.length_append]; omega
theorem eol_len (e : Bool) : (eol e).length ≤ 2 := by cases e <;> simp [eol]
theorem text_len {B : List Nat} (hB : BOk B) {D M : Nat} : ∀ L : List Seg, W D M L → (textT B L).length ≤ L.length * (D + M + 10)
  | [], _ => by simp [textT]
  | s :: L, h => by
    have ih := text_len hB L ⟨fun s hs => h.1 s (List.mem_cons_of_mem _ hs), fun s hs => h.2 s (List.mem_cons_of_mem _ hs)⟩
    have hs := h.2 s List.mem_cons_self
    have hb := B_len hB
    have hseg : (segT B s).length ≤ D + M + 10 := by
      cases s with
      | quo e =>
        have := eol_len e
        show (34 :: eol e).length ≤ _
        rw [List.length_cons]; omega
      | row d l e =>
        have := eol_len e
        have h1 : d ≤ D := hs.1
        have h2 : l.length ≤ M := hs.2
        show (rowT B d l ++ eol e).length ≤ _
        rw [List.length_append, row_len]; omega
    rw [textT, List.length_append, List.length_cons, Nat.succ_mul]
    omega

def qk : Nat → Seg → Seg
  | 0, s => s
  | k + 1, s => qk k (q1 s)
theorem W.map {D M D' M' : Nat} {L : List Seg} {f : Seg → Seg} (h : W D M L) (hf : ∀ s, SOk s → (match s with | .row d l _ => d ≤ D ∧ l.length ≤ M | .quo _ => True) → SOk (f s) ∧ (match f s with | .row d l _ => d ≤ D' ∧ l.length ≤ M' | .quo _ => True)) : W D' M' (L.map f) := by
  constructor
  · intro s hs
    obtain ⟨t, ht, rfl⟩ := List.mem_map.mp hs
    exact (hf t (h.1 t ht) (h.2 t ht)).1
  · intro s hs
    obtain ⟨t, ht, rfl⟩ := List.mem_map.mp hs
    exact (hf t (h.1 t ht) (h.2 t ht)).2
theorem W.q1 {D M : Nat} {L : List Seg} (h : W D M L) : W (D + 1) M (L.map q1) := by
  refine h.map fun s h1 h2 => ?_
  cases s with
  | quo e => exact ⟨trivial, trivial⟩
  | row d l e => exact ⟨⟨Nat.le_succ_of_le h1.1, h1.2⟩, Nat.succ_le_succ h2.1, h2.2⟩
theorem W.ins {D M c : Nat} {L : List Seg} (h : W D M L) (hc : letter c) : W D (M + 1) (L.map (ins c)) := by
  refine h.map fun s h1 h2 => ?_
  cases s with
  | quo e => exact ⟨trivial, trivial⟩
  | row d l e =>
    refine ⟨⟨h1.1, fun a ha => ?_⟩, h2.1, Nat.succ_le_succ h2.2⟩
    rcases List.mem_cons.mp ha with rfl | ha
    · exact hc
    · exact h1.2 a ha
theorem W.qk {M : Nat} : ∀ (k : Nat) {D : Nat} {L : List Seg}, W D M L → W (D + k) M (L.map (qk k))
  | 0, D, L, h => by
    have : L.map (Mine.qk 0) = L := by
      show L.map (fun s => s) = L
      simp
    rw [this]; exact h
  | k + 1, D, L, h => by
    have := W.qk k h.q1
    rw [List.map_map] at this
    have e : D + 1 + k = D + (k + 1) := by omega
    rw [e] at this
    exact this
theorem W.more {D M D' M' : Nat} {L : List Seg} (h : W D M L) (h1 : D ≤ D') (h2 : M ≤ M') : W D' M' L := by
  refine ⟨h.1, fun s hs => ?_⟩
  have := h.2 s hs
  cases s with
  | quo e => trivial
  | row d l e => exact ⟨Nat.le_trans this.1 h1, Nat.le_trans this.2 h2⟩
theorem W.append {D M : Nat} {L L' : List Seg} (h : W D M L) (h' : W D M L') : W D M (L ++ L') :=
  ⟨fun s hs => (List.mem_append.mp hs).elim (h.1 s) (h'.1 s), fun s hs => (List.mem_append.mp hs).elim (h.2 s) (h'.2 s)⟩
theorem W.quo {D M : Nat} (e : Bool) : W D M [.quo e] := ⟨fun s hs => by cases List.mem_singleton.mp hs; trivial, fun s hs => by cases List.mem_singleton.mp hs; trivial⟩

theorem quo_row (n : Nat) {B : List Nat} (hB : BOk B) {D M : Nat} {L : List Seg} (h : W D M L) (hb : L.length * (D + M + 10) ≤ 25000) :
    retF (pQuo n).1 lsQuo.length psQuo.length [.str ⟨(textT B L).toArray⟩] = some (.str ⟨(textT B (L.map q1)).toArray⟩) := by
  rw [quo_ok n _ (Nat.le_trans (text_len hB L h) hb), quo_text hB L h.1]

/-- the turns of quotedata -/
theorem mail_in (n : Nat) {B : List Nat} (hB : BOk B) {M : Nat} (a b c d e : VV) : ∀ (k : Nat) {D : Nat} {L : List Seg} (i : Int) (t : VV), W D M L → L.length * (D + k + M + 10) ≤ 25000 →
    ∃ t', loopF (tgN 6) (pMailF2 n).1 (iota i k) [a, b, c, d, e, .val (.str ⟨(textT B L).toArray⟩), t] = some (.next [a, b, c, d, e, .val (.str ⟨(textT B (L.map (qk k))).toArray⟩), t'])
  | 0, D, L, i, t, h, hb => by
    refine ⟨t, ?_⟩
    have : L.map (qk 0) = L := by
      show L.map (fun s => s) = L
      simp
    rw [this]; rfl
  | k + 1, D, L, i, t, h, hb => by
    have hq : retF (pQuo n).1 0 1 [.str ⟨(textT B L).toArray⟩] = some (.str ⟨(textT B (L.map q1)).toArray⟩) := quo_row n hB h (Nat.le_trans (Nat.mul_le_mul_left _ (by omega)) hb)
    obtain ⟨t', ht⟩ := mail_in n hB a b c d e k (i + 1) (.val (.int i)) h.q1 (by
      rw [List.length_map]
      refine Nat.le_trans (Nat.mul_le_mul_left _ ?_) hb
      omega)
    refine ⟨t', ?_⟩
    rw [List.map_map] at ht
    show (match tgN 6 [a, b, c, d, e, .val (.str ⟨(textT B L).toArray⟩), t] (.int i) with | none => none | some σ₁ => Out.go ((pMailF2 n).1 σ₁) (loopF (tgN 6) (pMailF2 n).1 (iota (i + 1) k))) = _
    have e1 : (pMailF2 n).1 [a, b, c, d, e, .val (.str ⟨(textT B L).toArray⟩), .val (.int i)] = some (.next [a, b, c, d, e, .val (.str ⟨(textT B (L.map q1)).toArray⟩), .val (.int i)]) := by
      unfold pMailF2
      simp [Out.go, VS.get, VS.at, hq]
    show Out.go ((pMailF2 n).1 [a, b, c, d, e, .val (.str ⟨(textT B L).toArray⟩), .val (.int i)]) _ = _
    rw [e1]
    exact ht

/-- one doubling -/
def dbl (c k : Nat) (L : List Seg) : List Seg := L ++ (.quo false :: ((L.map (ins c)).map (qk k) ++ [.quo false]))
theorem dbl_W {c k D M : Nat} {L : List Seg} (h : W D M L) (hc : letter c) : W (D + k) (M + 1) (dbl c k L) :=
  W.append (h.more (Nat.le_add_right _ _) (Nat.le_succ _)) (W.append (W.quo false) (W.append ((h.ins hc).qk k) (W.quo false)))
theorem dbl_len (c k : Nat) (L : List Seg) : (dbl c k L).length = 2 * L.length + 2 := by
  unfold dbl
  simp
  omega
theorem dbl_text (B : List Nat) (c k : Nat) (L : List Seg) : textT B (dbl c k L) = ((textT B L ++ [34, 10]) ++ textT B ((L.map (ins c)).map (qk k))) ++ [34, 10] := by
  unfold dbl
  rw [text_append]
  show textT B L ++ (34 :: eol false ++ textT B (_ ++ [Seg.quo false])) = _
  rw [text_append]
  show textT B L ++ ([34, 10] ++ (textT B _ ++ ([34, 10] ++ []))) = _
  simp
theorem add_str (x y : List Nat) (h : x.length + y.length ≤ 1000000) : addD (.str ⟨x.toArray⟩) (.str ⟨y.toArray⟩) = some (.str ⟨(x ++ y).toArray⟩) := if_pos h
theorem repl_ok (c : Nat) (x z : List Nat) (h : x.length ≤ 100000) (h1 : 1 ≤ z.length) (h2 : z.length ≤ 10) : replD c (.str ⟨x.toArray⟩) (.str ⟨z.toArray⟩) = some (.str ⟨(repC c (c :: z) x).toArray⟩) := if_pos ⟨h, h1, h2⟩

theorem range_ok (k : Nat) (hk : k < 1000) : rangeD (.int k) = some (iota 0 k) := by
  have h : (0 : Int) ≤ k ∧ (k : Int) < 1000000 := by omega
  unfold rangeD
  simp only [h, and_self, if_true, Int.toNat_natCast]
theorem mail_eval (n : Nat) (a b v5 v6 t' : VV) (x c k g0 g1 m1 m2 m3 : Dat) (ds : List Dat) (e1 : replD 69 x c = some g0) (e2 : rangeD k = some ds)
    (ht : loopF (tgN 6) (pMailF2 n).1 ds [a, b, .val x, .val c, .val k, .val g0, v6] = some (.next [a, b, .val x, .val c, .val k, .val g1, t']))
    (e3 : addD x (.str ⟨[34, 10].toArray⟩) = some m1) (e4 : addD m1 g1 = some m2) (e5 : addD m2 (.str ⟨[34, 10].toArray⟩) = some m3) :
    (pMailF1 n).1 [a, b, .val x, .val c, .val k, v5, v6] = some (.next [a, b, .val m3, .val c, .val k, .val g1, t']) := by
  unfold pMailF1
  simp [Out.go, VS.get, VS.at, e1, e2, ht, e3, e4, e5]
theorem mail_out (n : Nat) {B : List Nat} (hB : BOk B) {D M c k : Nat} {L : List Seg} (a b v5 v6 : VV) (hc : letter c) (h : W D M L) (hk : k < 1000) (hb : L.length * (D + k + (M + 1) + 10) ≤ 25000) :
    ∃ v5' v6', (pMailF1 n).1 [a, b, .val (.str ⟨(textT B L).toArray⟩), .val (.str ⟨[c].toArray⟩), .val (.int k), v5, v6] = some (.next [a, b, .val (.str ⟨(textT B (dbl c k L)).toArray⟩), .val (.str ⟨[c].toArray⟩), .val (.int k), v5', v6']) := by
  have hl := text_len hB L h
  have hW := (h.ins hc).qk k
  have hl2 := text_len hB _ hW
  have e0 : L.length * (D + M + 10) ≤ 25000 := Nat.le_trans (Nat.mul_le_mul_left _ (by omega)) hb
  have e1 : replD 69 (.str ⟨(textT B L).toArray⟩) (.str ⟨[c].toArray⟩) = some (.str ⟨(textT B (L.map (ins c))).toArray⟩) := by
    rw [repl_ok 69 _ [c] (by omega) (by simp) (by simp), rep_text hB c L h.1]
  have hl3 : (textT B ((L.map (ins c)).map (qk k))).length ≤ 25000 := by
    rw [List.length_map, List.length_map] at hl2
    exact Nat.le_trans hl2 hb
  obtain ⟨t', ht⟩ := mail_in n hB a b (.val (.str ⟨(textT B L).toArray⟩)) (.val (.str ⟨[c].toArray⟩)) (.val (.int k)) k 0 v6 (h.ins hc) (by rw [List.length_map]; exact hb)
  have e2 := range_ok k hk
  have e3 : addD (.str ⟨(textT B L).toArray⟩) (.str ⟨[34, 10].toArray⟩) = some (.str ⟨(textT B L ++ [34, 10]).toArray⟩) := add_str _ _ (by simp only [List.length_append, List.length_cons, List.length_nil]; omega)
  have e4 : addD (.str ⟨(textT B L ++ [34, 10]).toArray⟩) (.str ⟨(textT B ((L.map (ins c)).map (qk k))).toArray⟩) = some (.str ⟨((textT B L ++ [34, 10]) ++ textT B ((L.map (ins c)).map (qk k))).toArray⟩) := add_str _ _ (by simp only [List.length_append, List.length_cons, List.length_nil]; omega)
  have e5 : addD (.str ⟨((textT B L ++ [34, 10]) ++ textT B ((L.map (ins c)).map (qk k))).toArray⟩) (.str ⟨[34, 10].toArray⟩) = some (.str ⟨(textT B (dbl c k L)).toArray⟩) := by
    rw [add_str _ _ (by simp only [List.length_append, List.length_cons, List.length_nil]; omega), dbl_text]
  refine ⟨.val (.str ⟨(textT B ((L.map (ins c)).map (qk k))).toArray⟩), t', ?_⟩
  exact mail_eval n a b v5 v6 t' _ _ _ _ _ _ _ _ _ e1 e2 ht e3 e4 e5
end Mine

end -- E4

section -- E5
namespace Mine
open PySem PySem.W PyProof.Rows
set_option maxRecDepth 100000

def mailS : List Nat → List Nat → List Seg → List Seg
  | c :: cs, k :: ks, L => mailS cs ks (dbl c k L)
  | _, _, L => L
def intsD (ks : List Nat) : List Dat := ks.map fun k : Nat => Dat.int (k : Int)

theorem mail_loop (n : Nat) {B : List Nat} (hB : BOk B) (a b : VV) : ∀ (cs ks : List Nat) {D M : Nat} {L : List Seg} (v3 v4 v5 v6 : VV), (∀ c ∈ cs, letter c) → (∀ k ∈ ks, k ≤ 4) → W D M L → (L.length + 2) * 2 ^ cs.length ≤ 100 → D + 4 * cs.length ≤ 60 → M + cs.length ≤ 20 →
    ∃ v3' v4' v5' v6', loopF (tgP 3 4) (pMailF1 n).1 (zipL cs (intsD ks)) [a, b, .val (.str ⟨(textT B L).toArray⟩), v3, v4, v5, v6] = some (.next [a, b, .val (.str ⟨(textT B (mailS cs ks L)).toArray⟩), v3', v4', v5', v6'])
  | [], ks, D, M, L, v3, v4, v5, v6, _, _, _, _, _, _ => ⟨v3, v4, v5, v6, by cases ks <;> rfl⟩
  | c :: cs, [], D, M, L, v3, v4, v5, v6, _, _, _, _, _, _ => ⟨v3, v4, v5, v6, rfl⟩
  | c :: cs, k :: ks, D, M, L, v3, v4, v5, v6, hc, hk, h, h1, h2, h3 => by
    have hk0 := hk k List.mem_cons_self
    have hc0 := hc c List.mem_cons_self
    rw [List.length_cons] at h1 h2 h3
    have e : 2 ^ (cs.length + 1) = 2 * 2 ^ cs.length := by rw [Nat.pow_succ, Nat.mul_comm]
    have hp : 1 ≤ 2 ^ cs.length := Nat.one_le_two_pow
    have hL : L.length ≤ 100 := by
      have : (L.length + 2) * 1 ≤ (L.length + 2) * 2 ^ (cs.length + 1) := Nat.mul_le_mul_left _ Nat.one_le_two_pow
      omega
    have hbig : L.length * (D + k + (M + 1) + 10) ≤ 25000 := by
      have := Nat.mul_le_mul hL (show D + k + (M + 1) + 10 ≤ 100 by omega)
      omega
    obtain ⟨w5, w6, hs⟩ := mail_out n hB a b v5 v6 hc0 h (by omega) hbig
    obtain ⟨v3', v4', v5', v6', ht⟩ := mail_loop n hB a b cs ks (.val (.str ⟨[c].toArray⟩)) (.val (.int k)) w5 w6 (fun c' hc' => hc c' (List.mem_cons_of_mem _ hc')) (fun k' hk' => hk k' (List.mem_cons_of_mem _ hk')) (dbl_W (k := k) h hc0)
      (by rw [dbl_len]
          have : (2 * L.length + 2 + 2) * 2 ^ cs.length = (L.length + 2) * 2 ^ (cs.length + 1) := by
            rw [e, ← Nat.mul_assoc]
            congr 1
            omega
          omega) (by omega) (by omega)
    refine ⟨v3', v4', v5', v6', ?_⟩
    show Out.go ((pMailF1 n).1 [a, b, .val (.str ⟨(textT B L).toArray⟩), .val (.str ⟨[c].toArray⟩), .val (.int k), v5, v6]) (loopF (tgP 3 4) (pMailF1 n).1 (zipL cs (intsD ks))) = _
    rw [hs]
    exact ht

theorem mail_fn (n : Nat) (x y : Str) (ds zs : List Dat) (a b v3 v4 v5 v6 : VV) (hz : zipD (.str ⟨[97, 98, 99, 100].toArray⟩) (.list ds) = some zs)
    (hl : loopF (tgP 3 4) (pMailF1 n).1 zs [.val (.str x), .val (.list ds), .val (.str x), .no, .no, .no, .no] = some (.next [a, b, .val (.str y), v3, v4, v5, v6])) :
    retF (pMail n).1 lsMail.length psMail.length [.str x, .list ds] = some (.str y) := by
  unfold retF pMail
  simp [startV, Out.go, VS.get, VS.at, hz, hl, List.replicate]

/-- what _law_mail makes -/
theorem mail_all (n : Nat) {B : List Nat} (hB : BOk B) (first : Nat) (h1 : 1 ≤ first) (h2 : first ≤ 40) (ks : List Nat) (hk : ∀ k ∈ ks, k ≤ 4) :
    retF (pMail n).1 lsMail.length psMail.length [.str ⟨(textT B [.row first [] false]).toArray⟩, .list (intsD ks)] = some (.str ⟨(textT B (mailS [97, 98, 99, 100] ks [.row first [] false])).toArray⟩) := by
  obtain ⟨v3, v4, v5, v6, h⟩ := mail_loop n hB (.val (.str ⟨(textT B [.row first [] false]).toArray⟩)) (.val (.list (intsD ks))) [97, 98, 99, 100] ks (D := first) (M := 0) (L := [.row first [] false]) .no .no .no .no
    (by intro c hc; unfold letter; simp at hc; omega) hk
    ⟨(fun s hs => by cases List.mem_singleton.mp hs; exact ⟨h1, fun c hc => nomatch hc⟩), (fun s hs => by cases List.mem_singleton.mp hs; exact ⟨Nat.le_refl _, Nat.le_refl _⟩)⟩ (by show 3 * 16 ≤ 100; decide) (by show first + 4 * 4 ≤ 60; omega) (by show 0 + 4 ≤ 20; decide)
  exact mail_fn n _ _ _ _ _ _ v3 v4 v5 v6 rfl h
end Mine

end -- E5

section -- E6
namespace Mine
open PySem PySem.W PyProof.Rows
set_option maxRecDepth 100000

-- one turn, by its ways
theorem sq_a (n : Nat) (x s o p h : Dat) (ds : List Dat) (e : eqD h (.str ⟨[34].toArray⟩) = some false) :
    (pSqrF1 n).1 [.val x, .val s, .val o, .acc ds, .val p, .val h] = some (.next [.val x, .val s, .val o, .acc ds, .val p, .val h]) := by
  unfold pSqrF1
  simp [Out.go, VS.get, VS.at, e]
theorem sq_b (n : Nat) (x s p h : Dat) (ds : List Dat) (e : eqD h (.str ⟨[34].toArray⟩) = some true) :
    (pSqrF1 n).1 [.val x, .val s, .val .none, .acc ds, .val p, .val h] = some (.next [.val x, .val s, .val p, .acc ds, .val p, .val h]) := by
  unfold pSqrF1
  simp [Out.go, VS.get, VS.at, e, isD]
theorem sq_c (n : Nat) (x s p h s' : Dat) (q : Int) (ds : List Dat) (e : eqD h (.str ⟨[34].toArray⟩) = some true) (e1 : neD s (.int q) = some false) (e2 : addD p (.int 1) = some s') :
    (pSqrF1 n).1 [.val x, .val s, .val (.int q), .acc ds, .val p, .val h] = some (.next [.val x, .val s', .val .none, .acc ds, .val p, .val h]) := by
  unfold pSqrF1
  simp [Out.go, VS.get, VS.at, e, isD, e1, e2]
theorem sq_d (n : Nat) (x p h s' y : Dat) (s q : Int) (ds : List Dat) (e : eqD h (.str ⟨[34].toArray⟩) = some true) (e1 : neD (.int s) (.int q) = some true) (e2 : addD p (.int 1) = some s') (e3 : cutD (some s) (some q) x = some y) (hl : ds.length ≤ 1000000) :
    (pSqrF1 n).1 [.val x, .val (.int s), .val (.int q), .acc ds, .val p, .val h] = some (.next [.val x, .val s', .val .none, .acc (ds ++ [y]), .val p, .val h]) := by
  unfold pSqrF1
  simp [Out.go, VS.get, VS.at, e, isD, e1, e2, e3, hl, intD]

def optD : Option Nat → Dat
  | none => .none
  | some q => .int (q : Int)
def strsD (ds : List (List Nat)) : List Dat := ds.map fun y => Dat.str ⟨y.toArray⟩
def qSt (x : List Nat) (st : QSt) (p c : VV) : VS := [.val (.str ⟨x.toArray⟩), .val (.int (st.1 : Int)), .val (optD st.2.1), .acc (strsD st.2.2), p, c]
theorem strs_flat : ∀ ds : List (List Nat), (strsD ds).all flatD = true
  | [] => rfl
  | _ :: ds => strs_flat ds
theorem q_flat (x : List Nat) (st : QSt) {p c : VV} (hp : flatVV p = true) (hc : flatVV c = true) : flatV 3 (qSt x st p c) = true := by
  obtain ⟨s, o, ds⟩ := st
  have h1 : flatD (optD o) = true := by cases o <;> rfl
  show ((true && (true && (flatD (optD o) && true))) && (strsD ds).all flatD && (flatVV p && (flatVV c && true))) = true
  rw [h1, strs_flat, hp, hc]; rfl

theorem ne_nat (s q : Nat) : neD (.int (s : Int)) (.int (q : Int)) = some (!Nat.beq s q) := by
  show some ((s : Int) != (q : Int)) = _
  congr 1
  cases h : Nat.beq s q with
  | true => rw [Nat.eq_of_beq_eq_true h]; simp
  | false =>
    have := Nat.ne_of_beq_eq_false h
    have h2 : (s : Int) ≠ (q : Int) := by omega
    simpa using h2

theorem sq_turn (n : Nat) (x : List Nat) (hx : x.length ≤ 1000000) (st : QSt) (z : Nat × List Nat) (hd : st.2.2.length ≤ 1000000) :
    (pSqrF1 n).1 (qSt x st (.val (.int (z.1 : Int))) (.val (.str ⟨z.2.toArray⟩))) = some (.next (qSt x (qst x st z) (.val (.int (z.1 : Int))) (.val (.str ⟨z.2.toArray⟩)))) := by
  obtain ⟨s, o, ds⟩ := st
  have he : eqD (.str ⟨z.2.toArray⟩) (.str ⟨[34].toArray⟩) = some (eqL z.2 [34]) := rfl
  have e2 : addD (.int (z.1 : Int)) (.int 1) = some (.int ((z.1 + 1 : Nat) : Int)) := rfl
  unfold qst
  cases h34 : eqL z.2 [34] with
  | false => exact sq_a n _ _ _ _ _ _ (he.trans (congrArg some h34))
  | true =>
    rw [h34] at he
    cases o with
    | none => exact sq_b n _ _ _ _ _ he
    | some q =>
      have hne := ne_nat s q
      cases hs : Nat.beq s q with
      | true =>
        rw [hs] at hne
        show (pSqrF1 n).1 _ = some (.next (qSt x (z.1 + 1, none, bif Nat.beq s q then ds else _) _ _))
        rw [hs]
        exact sq_c n _ _ _ _ _ _ _ he hne e2
      | false =>
        rw [hs] at hne
        show (pSqrF1 n).1 _ = some (.next (qSt x (z.1 + 1, none, bif Nat.beq s q then ds else ds ++ [sl x s q]) _ _))
        rw [hs]
        have e3 : cutD (some (s : Int)) (some (q : Int)) (.str ⟨x.toArray⟩) = some (.str ⟨(sl x s q).toArray⟩) := cut_str x s q hx
        have := sq_d n _ _ _ _ _ _ _ (strsD ds) he hne e2 e3 (by unfold strsD; rw [List.length_map]; exact hd)
        have e4 : strsD ds ++ [.str ⟨(sl x s q).toArray⟩] = strsD (ds ++ [sl x s q]) := by unfold strsD; simp
        rw [e4] at this
        exact this
theorem qst_len (x : List Nat) (st : QSt) (z : Nat × List Nat) : (qst x st z).2.2.length ≤ st.2.2.length + 1 := by
  obtain ⟨s, o, ds⟩ := st
  unfold qst
  cases eqL z.2 [34] with
  | false => exact Nat.le_succ _
  | true =>
    cases o with
    | none => exact Nat.le_succ _
    | some q =>
      show (bif Nat.beq s q then ds else ds ++ [sl x s q]).length ≤ _
      cases Nat.beq s q <;> simp
theorem sq_loop (n : Nat) (x : List Nat) (hx : x.length ≤ 1000000) : ∀ (zs : List (Nat × List Nat)) (st : QSt) (p c : VV), flatVV p = true → flatVV c = true → st.2.2.length + zs.length ≤ 1000000 →
    ∃ p' c', loopG 3 (tgP 4 5) (pSqrF1 n).1 zs (qSt x st p c) = some (.next (qSt x (zs.foldl (qst x) st) p' c'))
  | [], st, p, c, _, _, _ => ⟨p, c, rfl⟩
  | z :: zs, st, p, c, hp, hc, hl => by
    rw [List.length_cons] at hl
    have h1 := qst_len x st z
    obtain ⟨p', c', h⟩ := sq_loop n x hx zs (qst x st z) (.val (.int (z.1 : Int))) (.val (.str ⟨z.2.toArray⟩)) rfl rfl (by omega)
    refine ⟨p', c', ?_⟩
    show (match (pSqrF1 n).1 (qSt x st (.val (.int (z.1 : Int))) (.val (.str ⟨z.2.toArray⟩))) with
      | some (.next σ₂) => if flatV 3 σ₂ = true then loopG 3 (tgP 4 5) (pSqrF1 n).1 zs σ₂ else none
      | _ => none) = _
    rw [sq_turn n x hx st z (by omega)]
    show (if flatV 3 (qSt x (qst x st z) _ _) = true then _ else none) = _
    rw [if_pos (q_flat x _ rfl rfl)]
    exact h

theorem sqr_more (n : Nat) (X : Str) (zs : List (Nat × List Nat)) (s k : Int) (p c : VV) (ds : List Dat) (y out : Dat) (h0 : notInD (.str ⟨[34].toArray⟩) (.str X) = some false) (ha : (X.cps.toList.all fun c => Nat.blt c 128) = true) (hz : esc 0 false X.cps.toList = zs)
    (hf : flatV 3 [.val (.str X), .val (.int 0), .val .none, .acc [], .no, .no] = true)
    (hl : loopG 3 (tgP 4 5) (pSqrF1 n).1 zs [.val (.str X), .val (.int 0), .val .none, .acc [], .no, .no] = some (.next [.val (.str X), .val (.int s), .val .none, .acc ds, p, c]))
    (h1 : lenD (.str X) = some (.int k)) (h2 : ltD (.int s) (.int k) = some true) (h3 : cutD (some s) none (.str X) = some y) (h4 : ds.length ≤ 1000000) (h5 : joinR ⟨#[]⟩ [.list (ds ++ [y])] = some out) :
    retF (pSqr n).1 lsSqr.length psSqr.length [.str X] = some out := by
  unfold retF pSqr
  have ha' := ha
  simp at ha'
  simp [startV, Out.go, VS.get, VS.at, List.replicate, h0, ha', hz, hf, hl, h1, h2, h3, h4, h5, intD, fz]
theorem sqr_same (n : Nat) (X : Str) (zs : List (Nat × List Nat)) (s k : Int) (p c : VV) (ds : List Dat) (out : Dat) (h0 : notInD (.str ⟨[34].toArray⟩) (.str X) = some false) (ha : (X.cps.toList.all fun c => Nat.blt c 128) = true) (hz : esc 0 false X.cps.toList = zs)
    (hf : flatV 3 [.val (.str X), .val (.int 0), .val .none, .acc [], .no, .no] = true)
    (hl : loopG 3 (tgP 4 5) (pSqrF1 n).1 zs [.val (.str X), .val (.int 0), .val .none, .acc [], .no, .no] = some (.next [.val (.str X), .val (.int s), .val .none, .acc ds, p, c]))
    (h1 : lenD (.str X) = some (.int k)) (h2 : ltD (.int s) (.int k) = some false) (h5 : joinR ⟨#[]⟩ [.list ds] = some out) :
    retF (pSqr n).1 lsSqr.length psSqr.length [.str X] = some out := by
  unfold retF pSqr
  have ha' := ha
  simp at ha'
  simp [startV, Out.go, VS.get, VS.at, List.replicate, h0, ha', hz, hf, hl, h1, h2, h5, intD, fz]
end Mine

end -- E6

section -- E7
namespace Mine
open PySem PySem.W PyProof.Rows
set_option maxRecDepth 100000

theorem esc_len : ∀ (x : List Nat) (i : Nat) (b : Bool), (esc i b x).length ≤ x.length + 1
  | [], i, b => by cases b <;> simp [esc]
  | c :: x, i, b => by
    have h1 := esc_len x (i + 1) false
    have h2 := esc_len x (i + 1) true
    cases b with
    | true => simp [esc]; omega
    | false =>
      unfold esc
      split
      · simp; omega
      · simp; omega
theorem qst_lens (x : List Nat) : ∀ (zs : List (Nat × List Nat)) (st : QSt), (zs.foldl (qst x) st).2.2.length ≤ st.2.2.length + zs.length
  | [], st => Nat.le_refl _
  | z :: zs, st => by
    have h1 := qst_lens x zs (qst x st z)
    have h2 := qst_len x st z
    rw [List.foldl_cons, List.length_cons]; omega
theorem catL_strs : ∀ ds : List (List Nat), catL (ds.map fun y => (⟨y.toArray⟩ : Str)) = ds.flatten
  | [] => rfl
  | d :: ds => by
    rw [List.map_cons, catL, catL_strs ds]; rfl
theorem strsOf_strs : ∀ ds : List (List Nat), strsOf (strsD ds) = some (ds.map fun y => (⟨y.toArray⟩ : Str))
  | [] => rfl
  | d :: ds => by
    show (strsOf (strsD ds)).map _ = _
    rw [strsOf_strs ds]; rfl
theorem join_strs (ds : List (List Nat)) (h : ds.flatten.length ≤ 1000000) : joinR ⟨#[]⟩ [.list (strsD ds)] = some (.str ⟨ds.flatten.toArray⟩) := by
  show (strsOf (strsD ds)).bind (fun l => if (catL l).length ≤ 1000000 then some (Dat.str ⟨(catL l).toArray⟩) else none) = _
  rw [strsOf_strs]
  show (if (catL _).length ≤ 1000000 then some (Dat.str ⟨(catL _).toArray⟩) else none) = _
  rw [catL_strs, if_pos h]
theorem out_len : ∀ (x : List Nat) (b ins : Bool), (outC b ins x).length ≤ x.length
  | [], b, ins => by cases b <;> simp [outC]
  | c :: x, b, ins => by
    have h1 := out_len x false ins
    have h2 := out_len x true ins
    have h3 := out_len x false (!ins)
    cases b with
    | true => cases ins <;> simp [outC] <;> omega
    | false =>
      unfold outC
      cases Nat.beq c 92 <;> cases Nat.beq c 34 <;> cases ins <;> simp at * <;> omega

/-- what _strip_quoted_realnames gives back -/
theorem sqr_all (n : Nat) (x : List Nat) (hx : x.length ≤ 100000) (hm : ¬ idxC 34 0 x < 0) (ha : (x.all fun c => Nat.blt c 128) = true) (he : endC false false x = false) :
    retF (pSqr n).1 lsSqr.length psSqr.length [.str ⟨x.toArray⟩] = some (.str ⟨(outC false false x).toArray⟩) := by
  obtain ⟨s, ds, h1, h2, h3⟩ := q_all x he
  have hel := esc_len x 0 false
  obtain ⟨p, c, hl⟩ := sq_loop n x (by omega) (esc 0 false x) (0, none, []) .no .no rfl rfl (by simp; omega)
  rw [h1] at hl
  have hdl := qst_lens x (esc 0 false x) (0, none, [])
  rw [h1] at hdl
  have hdl : ds.length ≤ 0 + (esc 0 false x).length := hdl
  have h0 : notInD (.str ⟨[34].toArray⟩) (.str ⟨x.toArray⟩) = some false := by
    show some (decide (idxC 34 0 x < 0)) = _
    rw [decide_eq_false hm]
  have hk : lenD (.str ⟨x.toArray⟩) = some (.int (x.length : Int)) := by
    have : x.length ≤ 1000000 := by omega
    exact if_pos this
  have ho := out_len x false false
  rcases Nat.lt_or_ge s x.length with q | q
  · have e1 : ltD (.int (s : Int)) (.int (x.length : Int)) = some true := by
      show some (decide ((s : Int) < (x.length : Int))) = _
      rw [decide_eq_true (by omega)]
    have e2 : cutD (some (s : Int)) none (.str ⟨x.toArray⟩) = some (.str ⟨(x.drop s).toArray⟩) := by
      show (if partOk (some (s : Int)) = true ∧ partOk none = true ∧ x.length ≤ 1000000 then some (Dat.str ⟨(x.drop (s : Int).toNat).toArray⟩) else none) = _
      have p : partOk (some (s : Int)) = true := by
        show decide ((0 : Int) ≤ s) = true
        exact decide_eq_true (by omega)
      rw [if_pos ⟨p, rfl, by omega⟩, Int.toNat_natCast]
    have e3 : strsD ds ++ [.str ⟨(x.drop s).toArray⟩] = strsD (ds ++ [x.drop s]) := by unfold strsD; simp
    have e4 : (ds ++ [x.drop s]).flatten = outC false false x := by rw [List.flatten_append, ← h3]; simp
    refine sqr_more n ⟨x.toArray⟩ _ (s : Int) (x.length : Int) p c (strsD ds) _ _ h0 ha rfl rfl hl hk e1 e2 (by unfold strsD; rw [List.length_map]; omega) ?_
    rw [e3, join_strs _ (by rw [e4]; omega), e4]
  · have e1 : ltD (.int (s : Int)) (.int (x.length : Int)) = some false := by
      show some (decide ((s : Int) < (x.length : Int))) = _
      rw [decide_eq_false (by omega)]
    have e4 : ds.flatten = outC false false x := by rw [← h3, List.drop_eq_nil_of_le q, List.append_nil]
    refine sqr_same n ⟨x.toArray⟩ _ (s : Int) (x.length : Int) p c (strsD ds) _ h0 ha rfl rfl hl hk e1 ?_
    rw [join_strs _ (by rw [e4]; omega), e4]

theorem idx_mem (c : Nat) : ∀ (x : List Nat) (k : Nat), c ∈ x → ¬ idxC c k x < 0
  | a :: x, k, h => by
    rw [idxC]
    cases hq : Nat.beq a c with
    | true =>
      show ¬ ((k : Int) < 0)
      omega
    | false =>
      rcases List.mem_cons.mp h with e | h
      · rw [← e, beq_same] at hq; cases hq
      · exact idx_mem c x (k + 1) h
theorem ascii_text {B : List Nat} (hB : BOk B) : ∀ L : List Seg, LOk L → ∀ c ∈ textT B L, Nat.blt c 128 = true
  | s :: L, h, c, hc => by
    have key : c < 128 → Nat.blt c 128 = true := fun q => Nat.ble_eq_true_of_le q
    rcases List.mem_append.mp hc with hc | hc
    · have hs := h s List.mem_cons_self
      cases s with
      | quo e =>
        rcases List.mem_cons.mp hc with rfl | hc
        · rfl
        · have := eol_mem hc; exact key (by omega)
      | row d l e =>
        rcases List.mem_append.mp hc with hc | hc
        · rcases row_mem hc with h | h | h | h
          · exact key (by omega)
          · exact key (by omega)
          · have := hs.2 c h; unfold letter at this; exact key (by omega)
          · have := B_mem hB h; exact key (by omega)
        · have := eol_mem hc; exact key (by omega)
    · exact ascii_text hB L (fun s hs => h s (List.mem_cons_of_mem _ hs)) c hc

/-- marks stand in pairs -/
def Bal (L : List Seg) : Prop := ∀ ins, insEnd ins L = ins
theorem end_append : ∀ (L M : List Seg) (ins : Bool), insEnd ins (L ++ M) = insEnd (insEnd ins L) M
  | [], _, _ => rfl
  | .row _ _ _ :: L, M, ins => end_append L M ins
  | .quo _ :: L, M, ins => end_append L M (!ins)
theorem end_map {f : Seg → Seg} (hf : ∀ s ins M, insEnd ins (f s :: M) = insEnd ins (s :: M)) : ∀ (L : List Seg) (ins : Bool), insEnd ins (L.map f) = insEnd ins L
  | [], _ => rfl
  | .row d l e :: L, ins => by
    rw [List.map_cons, hf]
    exact end_map hf L ins
  | .quo e :: L, ins => by
    rw [List.map_cons, hf]
    exact end_map hf L (!ins)
theorem qk_end : ∀ (k : Nat) (s : Seg) (ins : Bool) (M : List Seg), insEnd ins (qk k s :: M) = insEnd ins (s :: M)
  | 0, _, _, _ => rfl
  | k + 1, s, ins, M => by
    rw [qk, qk_end k]
    cases s <;> rfl
theorem ins_end (c : Nat) (s : Seg) (ins : Bool) (M : List Seg) : insEnd ins (Mine.ins c s :: M) = insEnd ins (s :: M) := by cases s <;> rfl
theorem dbl_bal {c k : Nat} {L : List Seg} (h : Bal L) : Bal (dbl c k L) := by
  intro ins
  unfold dbl
  rw [end_append, h]
  show insEnd (!ins) (_ ++ [Seg.quo false]) = ins
  rw [end_append, end_map (qk_end k), end_map (ins_end c), h]
  show (!(!ins)) = ins
  cases ins <;> rfl
theorem mail_bal : ∀ (cs ks : List Nat) (L : List Seg), Bal L → Bal (mailS cs ks L)
  | [], ks, L, h => by cases ks <;> exact h
  | c :: cs, [], L, h => h
  | c :: cs, k :: ks, L, h => mail_bal cs ks _ (dbl_bal h)
end Mine

end -- E7

section -- E8
namespace Mine
open PySem PySem.W PyProof.Rows
set_option maxRecDepth 100000

theorem row_eval (v0 v1 v2 v3 v4 v6 v7 v8 v9 v10 v11 v12 v15 v16 v17 v18 v19 : VV) (b nm r1 k1 k2 sz m1 m2 m3 : Dat) (R R' : Str) (ds : List Dat)
    (e1 : addD (.str R) (.str ⟨[10, 46, 70, 58].toArray⟩) = some r1) (e2 : retF (pSed 2).1 3 1 [r1] = some nm) (e3 : lenD (.str R) = some k1) (e4 : lstripR R [.str ⟨[46].toArray⟩] = some (.str R')) (e5 : lenD (.str R') = some k2)
    (e6 : subD k1 k2 = some sz) (e7 : mulD (.str ⟨[46].toArray⟩) sz = some m1) (e8 : addD m1 nm = some m2) (e9 : addD m2 b = some m3) (e10 : neD (.str R) m3 = some false) (hl : ds.length ≤ 1000000) :
    pLawF2.1 [v0, v1, v2, v3, v4, .val b, v6, v7, v8, v9, v10, v11, v12, .acc ds, .val (.str R), v15, v16, v17, v18, v19] =
      some (.next [v0, v1, v2, v3, v4, .val b, v6, v7, v8, v9, v10, v11, v12, .acc (ds ++ [.tuple [sz, nm]]), .val (.str R), .val nm, .val sz, v17, v18, v19]) := by
  unfold pLawF2
  simp [Out.go, VS.get, VS.at, e1, e2, e3, e4, e5, e6, e7, e8, e9, e10, hl]

def rowsD (B : List Nat) (ps : List (Nat × List Nat)) : List Dat := ps.map fun p => Dat.str ⟨(rowT B p.1 p.2).toArray⟩
def readD (ps : List (Nat × List Nat)) : List Dat := ps.map fun p => Dat.tuple [.int (p.1 : Int), .str ⟨(69 :: p.2).toArray⟩]
theorem rep_dots : ∀ d : Nat, repL [46] d = dots d
  | 0 => rfl
  | d + 1 => by rw [repL, rep_dots d]; rfl
theorem drop_dots : ∀ (d : Nat) (x : List Nat), dropC 46 (dots d ++ (69 :: x)) = 69 :: x
  | 0, x => rfl
  | d + 1, x => by
    show dropC 46 (46 :: (dots d ++ (69 :: x))) = _
    rw [dropC]
    exact drop_dots d x
theorem len_str (x : List Nat) (h : x.length ≤ 1000000) : lenD (.str ⟨x.toArray⟩) = some (.int (x.length : Int)) := if_pos h
theorem mul_dots (d : Nat) (h : d ≤ 1000) : mulD (.str ⟨[46].toArray⟩) (.int (d : Int)) = some (.str ⟨(dots d).toArray⟩) := by
  have hh : ([46] : List Nat).length ≤ 16 ∧ (0 : Int) ≤ d ∧ (d : Int) ≤ 1000 := ⟨by decide, by omega, by omega⟩
  show (if ([46] : List Nat).length ≤ 16 ∧ (0 : Int) ≤ d ∧ (d : Int) ≤ 1000 then some (Dat.str ⟨(repL [46] (d : Int).toNat).toArray⟩) else none) = _
  rw [if_pos hh, Int.toNat_natCast, rep_dots]

theorem row_turn {B : List Nat} (hB : BOk B) {d : Nat} {l : List Nat} (hd : 1 ≤ d) (hl : ∀ c ∈ l, letter c) (b1 : d ≤ 1000) (b2 : l.length ≤ 1000) (v0 v1 v2 v3 v4 v6 v7 v8 v9 v10 v11 v12 v15 v16 v17 v18 v19 : VV) (ds : List Dat) (hds : ds.length ≤ 1000000) :
    pLawF2.1 [v0, v1, v2, v3, v4, .val (.str ⟨B.toArray⟩), v6, v7, v8, v9, v10, v11, v12, .acc ds, .val (.str ⟨(rowT B d l).toArray⟩), v15, v16, v17, v18, v19] =
      some (.next [v0, v1, v2, v3, v4, .val (.str ⟨B.toArray⟩), v6, v7, v8, v9, v10, v11, v12, .acc (ds ++ [.tuple [.int (d : Int), .str ⟨(69 :: l).toArray⟩]]), .val (.str ⟨(rowT B d l).toArray⟩), .val (.str ⟨(69 :: l).toArray⟩), .val (.int (d : Int)), v17, v18, v19]) := by
  have hb := B_len hB
  have hr := row_len (B := B) (d := d) (l := l)
  have e4 : lstripR ⟨(rowT B d l).toArray⟩ [.str ⟨[46].toArray⟩] = some (.str ⟨(69 :: (l ++ B)).toArray⟩) := by
    show (if (rowT B d l).length ≤ 1000000 then some (Dat.str ⟨(dropC 46 (rowT B d l)).toArray⟩) else none) = _
    rw [if_pos (by omega)]
    unfold rowT
    rw [drop_dots]
  have e6 : subD (.int ((rowT B d l).length : Int)) (.int ((69 :: (l ++ B)).length : Int)) = some (.int (d : Int)) := by
    show some (Dat.int (((rowT B d l).length : Int) - ((69 :: (l ++ B)).length : Int))) = _
    congr 2
    rw [List.length_cons, List.length_append]
    omega
  have e10 : neD (.str ⟨(rowT B d l).toArray⟩) (.str ⟨((dots d ++ (69 :: l)) ++ B).toArray⟩) = some false := by
    show some (!eqL (rowT B d l) ((dots d ++ (69 :: l)) ++ B)) = _
    have : rowT B d l = (dots d ++ (69 :: l)) ++ B := by unfold rowT; simp
    rw [eqL_eq, ← this]
    simp
  exact row_eval v0 v1 v2 v3 v4 v6 v7 v8 v9 v10 v11 v12 v15 v16 v17 v18 v19 _ _ _ _ _ _ _ _ _ _ _ ds
    (add_str _ _ (by show _ + 4 ≤ _; omega)) (sed_row 2 hB hd hl b1 b2) (len_str _ (by omega)) e4 (len_str _ (by rw [List.length_cons, List.length_append]; omega)) e6 (mul_dots d b1)
    (add_str _ _ (by rw [dots_len, List.length_cons]; omega)) (add_str _ _ (by rw [List.length_append, dots_len, List.length_cons]; omega)) e10 hds

theorem row_loop {B : List Nat} (hB : BOk B) (v0 v1 v2 v3 v4 v6 v7 v8 v9 v10 v11 v12 v17 v18 v19 : VV) : ∀ (ps : List (Nat × List Nat)) (v14 v15 v16 : VV) (ds : List Dat), (∀ p ∈ ps, 1 ≤ p.1 ∧ p.1 ≤ 1000 ∧ p.2.length ≤ 1000 ∧ ∀ c ∈ p.2, letter c) → ds.length + ps.length ≤ 1000000 →
    ∃ w14 w15 w16, loopF (tgN 14) pLawF2.1 (rowsD B ps) [v0, v1, v2, v3, v4, .val (.str ⟨B.toArray⟩), v6, v7, v8, v9, v10, v11, v12, .acc ds, v14, v15, v16, v17, v18, v19] =
      some (.next [v0, v1, v2, v3, v4, .val (.str ⟨B.toArray⟩), v6, v7, v8, v9, v10, v11, v12, .acc (ds ++ readD ps), w14, w15, w16, v17, v18, v19])
  | [], v14, v15, v16, ds, _, _ => ⟨v14, v15, v16, by
    have : ds ++ readD [] = ds := List.append_nil ds
    rw [this]; rfl⟩
  | (d, l) :: ps, v14, v15, v16, ds, h, hl => by
    obtain ⟨h1, h2, h3, h4⟩ := h (d, l) List.mem_cons_self
    rw [List.length_cons] at hl
    have ht := row_turn hB h1 h4 h2 h3 v0 v1 v2 v3 v4 v6 v7 v8 v9 v10 v11 v12 v15 v16 v17 v18 v19 ds (by omega)
    obtain ⟨w14, w15, w16, hr⟩ := row_loop hB v0 v1 v2 v3 v4 v6 v7 v8 v9 v10 v11 v12 v17 v18 v19 ps (.val (.str ⟨(rowT B d l).toArray⟩)) (.val (.str ⟨(69 :: l).toArray⟩)) (.val (.int (d : Int))) (ds ++ [.tuple [.int (d : Int), .str ⟨(69 :: l).toArray⟩]]) (fun p hp => h p (List.mem_cons_of_mem _ hp)) (by rw [List.length_append, List.length_singleton]; omega)
    refine ⟨w14, w15, w16, ?_⟩
    show Out.go (pLawF2.1 [v0, v1, v2, v3, v4, .val (.str ⟨B.toArray⟩), v6, v7, v8, v9, v10, v11, v12, .acc ds, .val (.str ⟨(rowT B d l).toArray⟩), v15, v16, v17, v18, v19]) (loopF (tgN 14) pLawF2.1 (rowsD B ps)) = _
    rw [ht]
    have e : ds ++ readD ((d, l) :: ps) = (ds ++ [.tuple [.int (d : Int), .str ⟨(69 :: l).toArray⟩]]) ++ readD ps := by
      unfold readD
      simp
    rw [e]
    exact hr

theorem out_eval (v0 v1 v2 v3 v4 v5 v6 v7 v8 v9 v10 v12 v13 v14 v15 v16 v17 v18 v19 : VV) (rows : List Dat) (σ1 σ2 : VS)
    (hl : loopF (tgN 14) pLawF2.1 rows [v0, v1, v2, v3, v4, v5, v6, v7, v8, v9, v10, .val (.list rows), v12, .acc [], v14, v15, v16, v17, v18, v19] = some (.next σ1)) (hc : pLawChk.1 σ1 = some (.next σ2)) :
    pLawF1.1 [v0, v1, v2, v3, v4, v5, v6, v7, v8, v9, v10, .val (.list rows), v12, v13, v14, v15, v16, v17, v18, v19] = some (.next σ2) := by
  unfold pLawF1
  simp [Out.go, VS.get, VS.at, listD, hl, hc]
end Mine

end -- E8

section -- E9
namespace Mine
open PySem PySem.W PyProof.Rows
set_option maxRecDepth 100000

def sg (first : Nat) (ks : List Nat) : List Seg := mailS [97, 98, 99, 100] ks [.row first [] false]
def sumsD (many : Nat) (ps : List (Nat × List Nat)) : Dat := .list ((List.range (many + 1)).map fun p => Dat.int ((ps.map fun q => (q.1 : Int) ^ p).sum))
def dueOf (first : Nat) (ks : List Nat) : Option Dat := retF (pDue 2).1 lsDue.length psDue.length [.int (first : Int), .list (intsD ks)]
def gD : Option Dat → Dat
  | some d => d
  | none => .none
def chkS (v : Nat → VV) (many : Nat) (due : Dat) (odd : Nat) (read : VV) (sums : List Dat) : VS :=
  [v 0, .val (.int (many : Int)), v 2, v 3, v 4, v 5, v 6, .val due, v 8, v 9, .acc sums, v 11, .val (.int (odd : Int)), read, v 14, v 15, v 16, v 17, v 18, v 19]
def endS (v : Nat → VV) (many : Nat) (steps : List Dat) (sums : List Dat) : VS :=
  [v 0, .val (.int (many : Int)), v 2, v 3, .val (.list steps), v 5, v 6, v 7, v 8, v 9, .acc sums, v 11, v 12, v 13, v 14, v 15, v 16, v 17, v 18, v 19]
/-- the numbers: what the rows' dots and letters do to the law's last half -/
structure Num (many first : Nat) (ks : List Nat) : Prop where
  due : dueOf first ks = some (gD (dueOf first ks))
  a : ∀ v, pLawChk.1 (chkS v many (gD (dueOf first ks)) 0 (.acc (readD (rowsS false (sg first ks)))) []) = some (.next (chkS v many (gD (dueOf first ks)) 0 (.val (.list (readD (rowsS false (sg first ks))))) [sumsD many (rowsS false (sg first ks))]))
  b : ∀ v, pLawChk.1 (chkS v many (gD (dueOf first ks)) 1 (.acc (readD (rowsS true (sg first ks)))) [sumsD many (rowsS false (sg first ks))]) = some (.next (chkS v many (gD (dueOf first ks)) 1 (.val (.list (readD (rowsS true (sg first ks))))) [sumsD many (rowsS false (sg first ks)), sumsD many (rowsS true (sg first ks))]))
  c : ∀ v, pLawEnd.1 (endS v many (intsD ks) [sumsD many (rowsS false (sg first ks)), sumsD many (rowsS true (sg first ks))]) = some (.ret (.bool true))
def vf (l : List VV) (i : Nat) : VV := l.getD i .no

theorem tail_eval (v0 v1 v2 v3 v4 v5 v6 v7 v10 v11 v12 v13 v14 v15 v16 v17 v18 v19 : VV) (sh hd d : Dat) (σ1 : VS)
    (hl : loopF (tgP 11 12) pLawF1.1 [.tuple [sh, .int 0], .tuple [hd, .int 1]] [v0, v1, v2, v3, v4, v5, v6, v7, .val sh, .val hd, .acc [], v11, v12, v13, v14, v15, v16, v17, v18, v19] = some (.next σ1)) (he : pLawEnd.1 σ1 = some (.ret d)) :
    pLawTail.1 [v0, v1, v2, v3, v4, v5, v6, v7, .val sh, .val hd, v10, v11, v12, v13, v14, v15, v16, v17, v18, v19] = some (.ret d) := by
  unfold pLawTail
  simp [Out.go, VS.get, VS.at, listD, hl, he]

theorem tail_all {B : List Nat} (hB : BOk B) {many first : Nat} {ks : List Nat} (N : Num many first ks) (hR : ∀ ins, ∀ p ∈ rowsS ins (sg first ks), 1 ≤ p.1 ∧ p.1 ≤ 1000 ∧ p.2.length ≤ 1000 ∧ ∀ c ∈ p.2, letter c) (hlen : ∀ ins, (rowsS ins (sg first ks)).length ≤ 1000000)
    (v0 v2 v3 v6 v10 v11 v12 v13 v14 v15 v16 v17 v18 v19 : VV) :
    pLawTail.1 [v0, .val (.int (many : Int)), v2, v3, .val (.list (intsD ks)), .val (.str ⟨B.toArray⟩), v6, .val (gD (dueOf first ks)), .val (.list (rowsD B (rowsS false (sg first ks)))), .val (.list (rowsD B (rowsS true (sg first ks)))), v10, v11, v12, v13, v14, v15, v16, v17, v18, v19] = some (.ret (.bool true)) := by
  generalize hsh : rowsS false (sg first ks) = R0 at *
  generalize hhd : rowsS true (sg first ks) = R1 at *
  obtain ⟨a14, a15, a16, ha⟩ := row_loop hB v0 (.val (.int (many : Int))) v2 v3 (.val (.list (intsD ks))) v6 (.val (gD (dueOf first ks))) (.val (.list (rowsD B R0))) (.val (.list (rowsD B R1))) (.acc []) (.val (.list (rowsD B R0))) (.val (.int ((0 : Nat) : Int))) v17 v18 v19 R0 v14 v15 v16 [] (by have := hR false; rwa [hsh] at this) (by have := hlen false; rw [hsh] at this; simpa using this)
  have Na := N.a (vf [v0, .no, v2, v3, .val (.list (intsD ks)), .val (.str ⟨B.toArray⟩), v6, .no, .val (.list (rowsD B R0)), .val (.list (rowsD B R1)), .no, .val (.list (rowsD B R0)), .no, .no, a14, a15, a16, v17, v18, v19])
  rw [hsh] at Na
  have h1 := out_eval v0 (.val (.int (many : Int))) v2 v3 (.val (.list (intsD ks))) (.val (.str ⟨B.toArray⟩)) v6 (.val (gD (dueOf first ks))) (.val (.list (rowsD B R0))) (.val (.list (rowsD B R1))) (.acc []) (.val (.int ((0 : Nat) : Int))) v13 v14 v15 v16 v17 v18 v19 (rowsD B R0) _ _ ha Na
  obtain ⟨b14, b15, b16, hb⟩ := row_loop hB v0 (.val (.int (many : Int))) v2 v3 (.val (.list (intsD ks))) v6 (.val (gD (dueOf first ks))) (.val (.list (rowsD B R0))) (.val (.list (rowsD B R1))) (.acc [sumsD many R0]) (.val (.list (rowsD B R1))) (.val (.int ((1 : Nat) : Int))) v17 v18 v19 R1 a14 a15 a16 [] (by have := hR true; rwa [hhd] at this) (by have := hlen true; rw [hhd] at this; simpa using this)
  have Nb := N.b (vf [v0, .no, v2, v3, .val (.list (intsD ks)), .val (.str ⟨B.toArray⟩), v6, .no, .val (.list (rowsD B R0)), .val (.list (rowsD B R1)), .no, .val (.list (rowsD B R1)), .no, .no, b14, b15, b16, v17, v18, v19])
  rw [hsh, hhd] at Nb
  have h2 := out_eval v0 (.val (.int (many : Int))) v2 v3 (.val (.list (intsD ks))) (.val (.str ⟨B.toArray⟩)) v6 (.val (gD (dueOf first ks))) (.val (.list (rowsD B R0))) (.val (.list (rowsD B R1))) (.acc [sumsD many R0]) (.val (.int ((1 : Nat) : Int))) (.val (.list (readD R0))) a14 a15 a16 v17 v18 v19 (rowsD B R1) _ _ hb Nb
  have Nc := N.c (vf [v0, .no, v2, v3, .no, .val (.str ⟨B.toArray⟩), v6, .val (gD (dueOf first ks)), .val (.list (rowsD B R0)), .val (.list (rowsD B R1)), .no, .val (.list (rowsD B R1)), .val (.int ((1 : Nat) : Int)), .val (.list (readD R1)), b14, b15, b16, v17, v18, v19])
  rw [hsh, hhd] at Nc
  refine tail_eval _ _ _ _ _ _ _ _ _ _ _ _ _ _ _ _ _ _ _ _ _ _ ?_ Nc
  show Out.go (pLawF1.1 [v0, .val (.int (many : Int)), v2, v3, .val (.list (intsD ks)), .val (.str ⟨B.toArray⟩), v6, .val (gD (dueOf first ks)), .val (.list (rowsD B R0)), .val (.list (rowsD B R1)), .acc [], .val (.list (rowsD B R0)), .val (.int ((0 : Nat) : Int)), v13, v14, v15, v16, v17, v18, v19]) (loopF (tgP 11 12) pLawF1.1 [.tuple [.list (rowsD B R1), .int 1]]) = _
  rw [h1]
  show Out.go (pLawF1.1 [v0, .val (.int (many : Int)), v2, v3, .val (.list (intsD ks)), .val (.str ⟨B.toArray⟩), v6, .val (gD (dueOf first ks)), .val (.list (rowsD B R0)), .val (.list (rowsD B R1)), .acc [sumsD many R0], .val (.list (rowsD B R1)), .val (.int ((1 : Nat) : Int)), .val (.list (readD R0)), a14, a15, a16, v17, v18, v19]) (loopF (tgP 11 12) pLawF1.1 []) = _
  rw [h2]
  rfl

theorem mid_eval (v0 v2 v6 v7 v8 v9 v10 v11 v12 v13 v14 v15 v16 v17 v18 v19 : VV) (mn fs st b a1 a2 a3 seed ml du x1 x2 sh hd : Dat) (S H : Str) (out : Option Out)
    (e1 : mulD (.str ⟨[46].toArray⟩) fs = some a1) (e2 : addD a1 (.str ⟨[69].toArray⟩) = some a2) (e3 : addD a2 b = some a3) (e4 : addD a3 (.str ⟨[10].toArray⟩) = some seed)
    (e5 : retF (pMail 1).1 5 2 [seed, st] = some ml) (e6 : retF (pDue 2).1 3 2 [fs, st] = some du)
    (e7 : retF (pSqr 2).1 5 1 [ml] = some (.str S)) (e8 : splitR S [] = some sh) (e9 : addD (.str ⟨[34].toArray⟩) ml = some x1) (e10 : addD x1 (.str ⟨[34].toArray⟩) = some x2) (e11 : retF (pSqr 2).1 5 1 [x2] = some (.str H)) (e12 : splitR H [] = some hd)
    (ht : pLawTail.1 [v0, .val mn, v2, .val fs, .val st, .val b, .val ml, .val du, .val sh, .val hd, v10, v11, v12, v13, v14, v15, v16, v17, v18, v19] = out) :
    pLawMid.1 [v0, .val mn, v2, .val fs, .val st, .val b, v6, v7, v8, v9, v10, v11, v12, v13, v14, v15, v16, v17, v18, v19] = out := by
  unfold pLawMid
  simp [Out.go, VS.get, VS.at, e1, e2, e3, e4, e5, e6, e7, e8, e9, e10, e11, e12, ht]
end Mine

end -- E9

section -- E10
namespace Mine
open PySem PySem.W PyProof.Rows
set_option maxRecDepth 100000

theorem mailS_W : ∀ (cs ks : List Nat) {D M : Nat} {L : List Seg}, (∀ c ∈ cs, letter c) → (∀ k ∈ ks, k ≤ 4) → W D M L → W (D + 4 * cs.length) (M + cs.length) (mailS cs ks L) ∧ (mailS cs ks L).length + 2 ≤ (L.length + 2) * 2 ^ cs.length
  | [], ks, D, M, L, _, _, h => by
    have e : mailS [] ks L = L := by cases ks <;> rfl
    rw [e]
    exact ⟨h, by simp⟩
  | c :: cs, [], D, M, L, _, _, h => by
    refine ⟨h.more (Nat.le_add_right _ _) (Nat.le_add_right _ _), ?_⟩
    have : (L.length + 2) * 1 ≤ (L.length + 2) * 2 ^ (c :: cs).length := Nat.mul_le_mul_left _ Nat.one_le_two_pow
    show L.length + 2 ≤ _
    omega
  | c :: cs, k :: ks, D, M, L, hc, hk, h => by
    have hk0 := hk k List.mem_cons_self
    obtain ⟨h1, h2⟩ := mailS_W cs ks (fun a ha => hc a (List.mem_cons_of_mem _ ha)) (fun a ha => hk a (List.mem_cons_of_mem _ ha)) (dbl_W (k := k) h (hc c List.mem_cons_self))
    refine ⟨h1.more (by rw [List.length_cons]; omega) (by rw [List.length_cons]; omega), ?_⟩
    rw [dbl_len] at h2
    have : (2 * L.length + 2 + 2) * 2 ^ cs.length = (L.length + 2) * 2 ^ (cs.length + 1) := by
      rw [Nat.pow_succ, Nat.mul_comm (2 ^ cs.length) 2, ← Nat.mul_assoc]
      congr 1
      omega
    rw [List.length_cons]
    show (mailS cs ks (dbl c k L)).length + 2 ≤ _
    omega
theorem mailS_sub : ∀ (cs ks : List Nat) (L : List Seg) (s : Seg), s ∈ L → s ∈ mailS cs ks L
  | [], ks, L, s, h => by cases ks <;> exact h
  | c :: cs, [], L, s, h => h
  | c :: cs, k :: ks, L, s, h => mailS_sub cs ks _ s (List.mem_append_left _ h)
theorem quo_mem (B : List Nat) : ∀ (L : List Seg) (e : Bool), Seg.quo e ∈ L → 34 ∈ textT B L
  | s :: L, e, h => by
    rcases List.mem_cons.mp h with h | h
    · rw [← h]
      exact List.mem_append_left _ List.mem_cons_self
    · exact List.mem_append_right _ (quo_mem B L e h)
theorem rows_mem : ∀ (L : List Seg) (ins : Bool) (p : Nat × List Nat), p ∈ rowsS ins L → ∃ e, Seg.row p.1 p.2 e ∈ L
  | .quo e :: L, ins, p, h => by
    obtain ⟨e', h⟩ := rows_mem L (!ins) p h
    exact ⟨e', List.mem_cons_of_mem _ h⟩
  | .row d l e :: L, ins, p, h => by
    cases ins with
    | true =>
      obtain ⟨e', h⟩ := rows_mem L true p h
      exact ⟨e', List.mem_cons_of_mem _ h⟩
    | false =>
      rcases List.mem_cons.mp h with h | h
      · rw [h]; exact ⟨e, List.mem_cons_self⟩
      · obtain ⟨e', h⟩ := rows_mem L false p h
        exact ⟨e', List.mem_cons_of_mem _ h⟩
theorem rows_len : ∀ (L : List Seg) (ins : Bool), (rowsS ins L).length ≤ L.length
  | [], ins => Nat.le_refl _
  | .quo e :: L, ins => Nat.le_succ_of_le (rows_len L (!ins))
  | .row d l e :: L, ins => by
    have := rows_len L ins
    cases ins with
    | true => exact Nat.le_succ_of_le this
    | false => exact Nat.succ_le_succ this
theorem outS_len (B : List Nat) : ∀ (L : List Seg) (ins : Bool), (outS B ins L).length ≤ (textT B L).length
  | [], ins => by cases ins <;> exact Nat.le_refl _
  | .quo e :: L, ins => by
    have := outS_len B L (!ins)
    show _ ≤ ((34 :: eol e) ++ textT B L).length
    rw [List.length_append, List.length_cons]
    cases ins with
    | true =>
      show (eol e ++ outS B false L).length ≤ _
      rw [List.length_append]
      have : (outS B false L).length ≤ (textT B L).length := this
      omega
    | false =>
      show (outS B true L).length ≤ _
      have : (outS B true L).length ≤ (textT B L).length := this
      omega
  | .row d l e :: L, ins => by
    have := outS_len B L ins
    show _ ≤ (segT B (.row d l e) ++ textT B L).length
    rw [List.length_append]
    cases ins with
    | true =>
      show (outS B true L).length ≤ _
      omega
    | false =>
      show (segT B (.row d l e) ++ outS B false L).length ≤ _
      rw [List.length_append]
      omega

theorem split_rows {B : List Nat} (hB : BOk B) (L : List Seg) (h : LOk L) (ins : Bool) (hl : (outS B ins L).length ≤ 1000000) : splitR ⟨(outS B ins L).toArray⟩ [] = some (.list (rowsD B (rowsS ins L))) := by
  show (if (outS B ins L).length ≤ 1000000 then some (Dat.list ((wl Unicode.isSpace none (outS B ins L)).map fun w => .str ⟨w.toArray⟩)) else none) = _
  rw [if_pos hl, split_text hB L h ins, List.map_map]
  rfl

theorem mid_all {B : List Nat} (hB : BOk B) {many first : Nat} {ks : List Nat} (N : Num many first ks) (h1 : 1 ≤ first) (h2 : first ≤ 40) (hk : ∀ k ∈ ks, k ≤ 4) (hks : ks ≠ [])
    (v0 v2 v6 v7 v8 v9 v10 v11 v12 v13 v14 v15 v16 v17 v18 v19 : VV) :
    pLawMid.1 [v0, .val (.int (many : Int)), v2, .val (.int (first : Int)), .val (.list (intsD ks)), .val (.str ⟨B.toArray⟩), v6, v7, v8, v9, v10, v11, v12, v13, v14, v15, v16, v17, v18, v19] = some (.ret (.bool true)) := by
  have hb := B_len hB
  have hlet : ∀ c ∈ [97, 98, 99, 100], letter c := by intro c hc; unfold letter; simp at hc; omega
  obtain ⟨hW, hL⟩ := mailS_W [97, 98, 99, 100] ks hlet hk (D := first) (M := 0) (L := [.row first [] false])
    ⟨(fun s hs => by cases List.mem_singleton.mp hs; exact ⟨h1, fun c hc => nomatch hc⟩), (fun s hs => by cases List.mem_singleton.mp hs; exact ⟨Nat.le_refl _, Nat.le_refl _⟩)⟩
  have hW : W (first + 16) 4 (sg first ks) := hW
  have hL : (sg first ks).length + 2 ≤ 3 * 16 := hL
  have htl := text_len hB _ hW
  have htl : (textT B (sg first ks)).length ≤ 20000 := by
    refine Nat.le_trans htl ?_
    have := Nat.mul_le_mul (show (sg first ks).length ≤ 46 by omega) (show first + 16 + 4 + 10 ≤ 70 by omega)
    omega
  have hbal : Bal (sg first ks) := mail_bal _ _ _ (fun ins => rfl)
  have hquo : 34 ∈ textT B (sg first ks) := by
    cases ks with
    | nil => exact absurd rfl hks
    | cons k ks =>
      refine quo_mem B _ false (mailS_sub [98, 99, 100] ks (dbl 97 k [.row first [] false]) (.quo false) ?_)
      exact List.mem_append_right _ List.mem_cons_self
  -- the text of the mail, and of the mail in marks
  obtain ⟨o1, o2⟩ := out_text hB (sg first ks) hW.1 false []
  obtain ⟨p1, p2⟩ := out_text hB (sg first ks) hW.1 true [34]
  rw [List.append_nil, hbal] at o1 o2
  rw [hbal] at p1 p2
  have o1 : outC false false (textT B (sg first ks)) = outS B false (sg first ks) := by
    rw [o1]; exact List.append_nil _
  have p1 : outC false true (textT B (sg first ks) ++ [34]) = outS B true (sg first ks) := by
    rw [p1]; exact List.append_nil _
  have s1 := sqr_all 2 (textT B (sg first ks)) (by omega) (idx_mem 34 _ 0 hquo) (List.all_eq_true.mpr fun c hc => ascii_text hB _ hW.1 c hc) o2
  rw [o1] at s1
  have s2 := sqr_all 2 (34 :: (textT B (sg first ks) ++ [34])) (by rw [List.length_cons, List.length_append, List.length_singleton]; omega) (idx_mem 34 _ 0 List.mem_cons_self) (List.all_eq_true.mpr fun c hc => by
    rcases List.mem_cons.mp hc with rfl | hc
    · rfl
    · rcases List.mem_append.mp hc with hc | hc
      · exact ascii_text hB _ hW.1 c hc
      · cases List.mem_singleton.mp hc; rfl) (show endC false true (textT B (sg first ks) ++ [34]) = false from p2)
  have e0 : outC false false (34 :: (textT B (sg first ks) ++ [34])) = outS B true (sg first ks) := p1
  rw [e0] at s2
  have ol1 := outS_len B (sg first ks) false
  have ol2 := outS_len B (sg first ks) true
  have rok : ∀ ins, ∀ p ∈ rowsS ins (sg first ks), 1 ≤ p.1 ∧ p.1 ≤ 1000 ∧ p.2.length ≤ 1000 ∧ ∀ c ∈ p.2, letter c := by
    intro ins p hp
    obtain ⟨e, he⟩ := rows_mem _ ins p hp
    have a := hW.1 _ he
    have b := hW.2 _ he
    have b1 : p.1 ≤ first + 16 := b.1
    have b2 : p.2.length ≤ 4 := b.2
    exact ⟨a.1, by omega, by omega, a.2⟩
  have rl : ∀ ins, (rowsS ins (sg first ks)).length ≤ 1000000 := fun ins => Nat.le_trans (rows_len _ ins) (by omega)
  have seed : ((dots first ++ [69]) ++ B) ++ [10] = textT B [.row first [] false] := by
    show _ = (dots first ++ (69 :: ([] ++ B)) ++ [10]) ++ []
    simp
  have ml := mail_all 1 hB first h1 h2 ks hk
  rw [← seed] at ml
  have f2 : addD (.str ⟨(dots first).toArray⟩) (.str ⟨[69].toArray⟩) = some (.str ⟨(dots first ++ [69]).toArray⟩) := add_str _ _ (by rw [dots_len, List.length_singleton]; omega)
  have f3 : addD (.str ⟨(dots first ++ [69]).toArray⟩) (.str ⟨B.toArray⟩) = some (.str ⟨((dots first ++ [69]) ++ B).toArray⟩) := add_str _ _ (by rw [List.length_append, dots_len, List.length_singleton]; omega)
  have f4 : addD (.str ⟨((dots first ++ [69]) ++ B).toArray⟩) (.str ⟨[10].toArray⟩) = some (.str ⟨(((dots first ++ [69]) ++ B) ++ [10]).toArray⟩) := add_str _ _ (by rw [List.length_append, List.length_append, dots_len, List.length_singleton, List.length_singleton]; omega)
  have f9 : addD (.str ⟨[34].toArray⟩) (.str ⟨(textT B (sg first ks)).toArray⟩) = some (.str ⟨(34 :: textT B (sg first ks)).toArray⟩) := add_str [34] _ (by rw [List.length_singleton]; omega)
  have f10 : addD (.str ⟨(34 :: textT B (sg first ks)).toArray⟩) (.str ⟨[34].toArray⟩) = some (.str ⟨(34 :: (textT B (sg first ks) ++ [34])).toArray⟩) := add_str (34 :: textT B (sg first ks)) [34] (by rw [List.length_cons, List.length_singleton]; omega)
  refine mid_eval _ _ _ _ _ _ _ _ _ _ _ _ _ _ _ _ _ _ _ _ _ _ _ _ _ _ _ _ _ _ _ _ _ (mul_dots first (by omega)) f2 f3 f4 ml N.due s1 (split_rows hB _ hW.1 false (by omega)) f9 f10 s2 (split_rows hB _ hW.1 true (by omega)) ?_
  exact tail_all hB N rok rl _ _ _ _ _ _ _ _ _ _ _ _ _ _
end Mine

end -- E10

section -- N1
namespace Mine
open PySem PySem.W PyProof.Rows
set_option maxRecDepth 100000

def pows : Nat → Nat → List (List Nat)
  | 0, _ => [[]]
  | k + 1, c => (List.range c).flatMap fun i => (pows k c).map ((i + 1) :: ·)
theorem pows_mem (c : Nat) : ∀ (k : Nat) (ks : List Nat), ks.length = k → (∀ x ∈ ks, 1 ≤ x ∧ x ≤ c) → ks ∈ pows k c
  | 0, ks, h, _ => by
    cases ks with
    | nil => exact List.mem_cons_self
    | cons a l => cases h
  | k + 1, ks, h, hx => by
    cases ks with
    | nil => cases h
    | cons a l =>
      have ha := hx a List.mem_cons_self
      refine List.mem_flatMap.mpr ⟨a - 1, List.mem_range.mpr (by omega), List.mem_map.mpr ⟨l, pows_mem c k l (Nat.succ.inj h) (fun x hl => hx x (List.mem_cons_of_mem _ hl)), ?_⟩⟩
      have : a - 1 + 1 = a := by omega
      rw [this]
def AllN (m f : Nat) : List (List Nat) → Prop
  | [] => True
  | ks :: r => Num m f ks ∧ AllN m f r
theorem allN_mem {m f : Nat} : ∀ {l : List (List Nat)}, AllN m f l → ∀ {ks : List Nat}, ks ∈ l → Num m f ks
  | _ :: _, h, ks, hk => by
    rcases List.mem_cons.mp hk with e | e
    · rw [e]; exact h.1
    · exact allN_mem h.2 e
theorem nums2_1 : AllN 2 1 (pows 2 4) := by
  show AllN 2 1 [[1, 1], [1, 2], [1, 3], [1, 4], [2, 1], [2, 2], [2, 3], [2, 4], [3, 1], [3, 2], [3, 3], [3, 4], [4, 1], [4, 2], [4, 3], [4, 4]]
  refine ⟨⟨by kernel_rfl, fun v => by kernel_rfl, fun v => by kernel_rfl, fun v => by kernel_rfl⟩, ⟨by kernel_rfl, fun v => by kernel_rfl, fun v => by kernel_rfl, fun v => by kernel_rfl⟩, ⟨by kernel_rfl, fun v => by kernel_rfl, fun v => by kernel_rfl, fun v => by kernel_rfl⟩, ⟨by kernel_rfl, fun v => by kernel_rfl, fun v => by kernel_rfl, fun v => by kernel_rfl⟩, ⟨by kernel_rfl, fun v => by kernel_rfl, fun v => by kernel_rfl, fun v => by kernel_rfl⟩, ⟨by kernel_rfl, fun v => by kernel_rfl, fun v => by kernel_rfl, fun v => by kernel_rfl⟩, ⟨by kernel_rfl, fun v => by kernel_rfl, fun v => by kernel_rfl, fun v => by kernel_rfl⟩, ⟨by kernel_rfl, fun v => by kernel_rfl, fun v => by kernel_rfl, fun v => by kernel_rfl⟩, ⟨by kernel_rfl, fun v => by kernel_rfl, fun v => by kernel_rfl, fun v => by kernel_rfl⟩, ⟨by kernel_rfl, fun v => by kernel_rfl, fun v => by kernel_rfl, fun v => by kernel_rfl⟩, ⟨by kernel_rfl, fun v => by kernel_rfl, fun v => by kernel_rfl, fun v => by kernel_rfl⟩, ⟨by kernel_rfl, fun v => by kernel_rfl, fun v => by kernel_rfl, fun v => by kernel_rfl⟩, ⟨by kernel_rfl, fun v => by kernel_rfl, fun v => by kernel_rfl, fun v => by kernel_rfl⟩, ⟨by kernel_rfl, fun v => by kernel_rfl, fun v => by kernel_rfl, fun v => by kernel_rfl⟩, ⟨by kernel_rfl, fun v => by kernel_rfl, fun v => by kernel_rfl, fun v => by kernel_rfl⟩, ⟨by kernel_rfl, fun v => by kernel_rfl, fun v => by kernel_rfl, fun v => by kernel_rfl⟩, trivial⟩
theorem nums2_2 : AllN 2 2 (pows 2 4) := by
  show AllN 2 2 [[1, 1], [1, 2], [1, 3], [1, 4], [2, 1], [2, 2], [2, 3], [2, 4], [3, 1], [3, 2], [3, 3], [3, 4], [4, 1], [4, 2], [4, 3], [4, 4]]
  refine ⟨⟨by kernel_rfl, fun v => by kernel_rfl, fun v => by kernel_rfl, fun v => by kernel_rfl⟩, ⟨by kernel_rfl, fun v => by kernel_rfl, fun v => by kernel_rfl, fun v => by kernel_rfl⟩, ⟨by kernel_rfl, fun v => by kernel_rfl, fun v => by kernel_rfl, fun v => by kernel_rfl⟩, ⟨by kernel_rfl, fun v => by kernel_rfl, fun v => by kernel_rfl, fun v => by kernel_rfl⟩, ⟨by kernel_rfl, fun v => by kernel_rfl, fun v => by kernel_rfl, fun v => by kernel_rfl⟩, ⟨by kernel_rfl, fun v => by kernel_rfl, fun v => by kernel_rfl, fun v => by kernel_rfl⟩, ⟨by kernel_rfl, fun v => by kernel_rfl, fun v => by kernel_rfl, fun v => by kernel_rfl⟩, ⟨by kernel_rfl, fun v => by kernel_rfl, fun v => by kernel_rfl, fun v => by kernel_rfl⟩, ⟨by kernel_rfl, fun v => by kernel_rfl, fun v => by kernel_rfl, fun v => by kernel_rfl⟩, ⟨by kernel_rfl, fun v => by kernel_rfl, fun v => by kernel_rfl, fun v => by kernel_rfl⟩, ⟨by kernel_rfl, fun v => by kernel_rfl, fun v => by kernel_rfl, fun v => by kernel_rfl⟩, ⟨by kernel_rfl, fun v => by kernel_rfl, fun v => by kernel_rfl, fun v => by kernel_rfl⟩, ⟨by kernel_rfl, fun v => by kernel_rfl, fun v => by kernel_rfl, fun v => by kernel_rfl⟩, ⟨by kernel_rfl, fun v => by kernel_rfl, fun v => by kernel_rfl, fun v => by kernel_rfl⟩, ⟨by kernel_rfl, fun v => by kernel_rfl, fun v => by kernel_rfl, fun v => by kernel_rfl⟩, ⟨by kernel_rfl, fun v => by kernel_rfl, fun v => by kernel_rfl, fun v => by kernel_rfl⟩, trivial⟩
theorem nums2_3 : AllN 2 3 (pows 2 4) := by
  show AllN 2 3 [[1, 1], [1, 2], [1, 3], [1, 4], [2, 1], [2, 2], [2, 3], [2, 4], [3, 1], [3, 2], [3, 3], [3, 4], [4, 1], [4, 2], [4, 3], [4, 4]]
  refine ⟨⟨by kernel_rfl, fun v => by kernel_rfl, fun v => by kernel_rfl, fun v => by kernel_rfl⟩, ⟨by kernel_rfl, fun v => by kernel_rfl, fun v => by kernel_rfl, fun v => by kernel_rfl⟩, ⟨by kernel_rfl, fun v => by kernel_rfl, fun v => by kernel_rfl, fun v => by kernel_rfl⟩, ⟨by kernel_rfl, fun v => by kernel_rfl, fun v => by kernel_rfl, fun v => by kernel_rfl⟩, ⟨by kernel_rfl, fun v => by kernel_rfl, fun v => by kernel_rfl, fun v => by kernel_rfl⟩, ⟨by kernel_rfl, fun v => by kernel_rfl, fun v => by kernel_rfl, fun v => by kernel_rfl⟩, ⟨by kernel_rfl, fun v => by kernel_rfl, fun v => by kernel_rfl, fun v => by kernel_rfl⟩, ⟨by kernel_rfl, fun v => by kernel_rfl, fun v => by kernel_rfl, fun v => by kernel_rfl⟩, ⟨by kernel_rfl, fun v => by kernel_rfl, fun v => by kernel_rfl, fun v => by kernel_rfl⟩, ⟨by kernel_rfl, fun v => by kernel_rfl, fun v => by kernel_rfl, fun v => by kernel_rfl⟩, ⟨by kernel_rfl, fun v => by kernel_rfl, fun v => by kernel_rfl, fun v => by kernel_rfl⟩, ⟨by kernel_rfl, fun v => by kernel_rfl, fun v => by kernel_rfl, fun v => by kernel_rfl⟩, ⟨by kernel_rfl, fun v => by kernel_rfl, fun v => by kernel_rfl, fun v => by kernel_rfl⟩, ⟨by kernel_rfl, fun v => by kernel_rfl, fun v => by kernel_rfl, fun v => by kernel_rfl⟩, ⟨by kernel_rfl, fun v => by kernel_rfl, fun v => by kernel_rfl, fun v => by kernel_rfl⟩, ⟨by kernel_rfl, fun v => by kernel_rfl, fun v => by kernel_rfl, fun v => by kernel_rfl⟩, trivial⟩
theorem nums3_1 : AllN 3 1 (pows 3 3) := by
  show AllN 3 1 [[1, 1, 1], [1, 1, 2], [1, 1, 3], [1, 2, 1], [1, 2, 2], [1, 2, 3], [1, 3, 1], [1, 3, 2], [1, 3, 3], [2, 1, 1], [2, 1, 2], [2, 1, 3], [2, 2, 1], [2, 2, 2], [2, 2, 3], [2, 3, 1], [2, 3, 2], [2, 3, 3], [3, 1, 1], [3, 1, 2], [3, 1, 3], [3, 2, 1], [3, 2, 2], [3, 2, 3], [3, 3, 1], [3, 3, 2], [3, 3, 3]]
  refine ⟨⟨by kernel_rfl, fun v => by kernel_rfl, fun v => by kernel_rfl, fun v => by kernel_rfl⟩, ⟨by kernel_rfl, fun v => by kernel_rfl, fun v => by kernel_rfl, fun v => by kernel_rfl⟩, ⟨by kernel_rfl, fun v => by kernel_rfl, fun v => by kernel_rfl, fun v => by kernel_rfl⟩, ⟨by kernel_rfl, fun v => by kernel_rfl, fun v => by kernel_rfl, fun v => by kernel_rfl⟩, ⟨by kernel_rfl, fun v => by kernel_rfl, fun v => by kernel_rfl, fun v => by kernel_rfl⟩, ⟨by kernel_rfl, fun v => by kernel_rfl, fun v => by kernel_rfl, fun v => by kernel_rfl⟩, ⟨by kernel_rfl, fun v => by kernel_rfl, fun v => by kernel_rfl, fun v => by kernel_rfl⟩, ⟨by kernel_rfl, fun v => by kernel_rfl, fun v => by kernel_rfl, fun v => by kernel_rfl⟩, ⟨by kernel_rfl, fun v => by kernel_rfl, fun v => by kernel_rfl, fun v => by kernel_rfl⟩, ⟨by kernel_rfl, fun v => by kernel_rfl, fun v => by kernel_rfl, fun v => by kernel_rfl⟩, ⟨by kernel_rfl, fun v => by kernel_rfl, fun v => by kernel_rfl, fun v => by kernel_rfl⟩, ⟨by kernel_rfl, fun v => by kernel_rfl, fun v => by kernel_rfl, fun v => by kernel_rfl⟩, ⟨by kernel_rfl, fun v => by kernel_rfl, fun v => by kernel_rfl, fun v => by kernel_rfl⟩, ⟨by kernel_rfl, fun v => by kernel_rfl, fun v => by kernel_rfl, fun v => by kernel_rfl⟩, ⟨by kernel_rfl, fun v => by kernel_rfl, fun v => by kernel_rfl, fun v => by kernel_rfl⟩, ⟨by kernel_rfl, fun v => by kernel_rfl, fun v => by kernel_rfl, fun v => by kernel_rfl⟩, ⟨by kernel_rfl, fun v => by kernel_rfl, fun v => by kernel_rfl, fun v => by kernel_rfl⟩, ⟨by kernel_rfl, fun v => by kernel_rfl, fun v => by kernel_rfl, fun v => by kernel_rfl⟩, ⟨by kernel_rfl, fun v => by kernel_rfl, fun v => by kernel_rfl, fun v => by kernel_rfl⟩, ⟨by kernel_rfl, fun v => by kernel_rfl, fun v => by kernel_rfl, fun v => by kernel_rfl⟩, ⟨by kernel_rfl, fun v => by kernel_rfl, fun v => by kernel_rfl, fun v => by kernel_rfl⟩, ⟨by kernel_rfl, fun v => by kernel_rfl, fun v => by kernel_rfl, fun v => by kernel_rfl⟩, ⟨by kernel_rfl, fun v => by kernel_rfl, fun v => by kernel_rfl, fun v => by kernel_rfl⟩, ⟨by kernel_rfl, fun v => by kernel_rfl, fun v => by kernel_rfl, fun v => by kernel_rfl⟩, ⟨by kernel_rfl, fun v => by kernel_rfl, fun v => by kernel_rfl, fun v => by kernel_rfl⟩, ⟨by kernel_rfl, fun v => by kernel_rfl, fun v => by kernel_rfl, fun v => by kernel_rfl⟩, ⟨by kernel_rfl, fun v => by kernel_rfl, fun v => by kernel_rfl, fun v => by kernel_rfl⟩, trivial⟩
theorem nums3_2 : AllN 3 2 (pows 3 3) := by
  show AllN 3 2 [[1, 1, 1], [1, 1, 2], [1, 1, 3], [1, 2, 1], [1, 2, 2], [1, 2, 3], [1, 3, 1], [1, 3, 2], [1, 3, 3], [2, 1, 1], [2, 1, 2], [2, 1, 3], [2, 2, 1], [2, 2, 2], [2, 2, 3], [2, 3, 1], [2, 3, 2], [2, 3, 3], [3, 1, 1], [3, 1, 2], [3, 1, 3], [3, 2, 1], [3, 2, 2], [3, 2, 3], [3, 3, 1], [3, 3, 2], [3, 3, 3]]
  refine ⟨⟨by kernel_rfl, fun v => by kernel_rfl, fun v => by kernel_rfl, fun v => by kernel_rfl⟩, ⟨by kernel_rfl, fun v => by kernel_rfl, fun v => by kernel_rfl, fun v => by kernel_rfl⟩, ⟨by kernel_rfl, fun v => by kernel_rfl, fun v => by kernel_rfl, fun v => by kernel_rfl⟩, ⟨by kernel_rfl, fun v => by kernel_rfl, fun v => by kernel_rfl, fun v => by kernel_rfl⟩, ⟨by kernel_rfl, fun v => by kernel_rfl, fun v => by kernel_rfl, fun v => by kernel_rfl⟩, ⟨by kernel_rfl, fun v => by kernel_rfl, fun v => by kernel_rfl, fun v => by kernel_rfl⟩, ⟨by kernel_rfl, fun v => by kernel_rfl, fun v => by kernel_rfl, fun v => by kernel_rfl⟩, ⟨by kernel_rfl, fun v => by kernel_rfl, fun v => by kernel_rfl, fun v => by kernel_rfl⟩, ⟨by kernel_rfl, fun v => by kernel_rfl, fun v => by kernel_rfl, fun v => by kernel_rfl⟩, ⟨by kernel_rfl, fun v => by kernel_rfl, fun v => by kernel_rfl, fun v => by kernel_rfl⟩, ⟨by kernel_rfl, fun v => by kernel_rfl, fun v => by kernel_rfl, fun v => by kernel_rfl⟩, ⟨by kernel_rfl, fun v => by kernel_rfl, fun v => by kernel_rfl, fun v => by kernel_rfl⟩, ⟨by kernel_rfl, fun v => by kernel_rfl, fun v => by kernel_rfl, fun v => by kernel_rfl⟩, ⟨by kernel_rfl, fun v => by kernel_rfl, fun v => by kernel_rfl, fun v => by kernel_rfl⟩, ⟨by kernel_rfl, fun v => by kernel_rfl, fun v => by kernel_rfl, fun v => by kernel_rfl⟩, ⟨by kernel_rfl, fun v => by kernel_rfl, fun v => by kernel_rfl, fun v => by kernel_rfl⟩, ⟨by kernel_rfl, fun v => by kernel_rfl, fun v => by kernel_rfl, fun v => by kernel_rfl⟩, ⟨by kernel_rfl, fun v => by kernel_rfl, fun v => by kernel_rfl, fun v => by kernel_rfl⟩, ⟨by kernel_rfl, fun v => by kernel_rfl, fun v => by kernel_rfl, fun v => by kernel_rfl⟩, ⟨by kernel_rfl, fun v => by kernel_rfl, fun v => by kernel_rfl, fun v => by kernel_rfl⟩, ⟨by kernel_rfl, fun v => by kernel_rfl, fun v => by kernel_rfl, fun v => by kernel_rfl⟩, ⟨by kernel_rfl, fun v => by kernel_rfl, fun v => by kernel_rfl, fun v => by kernel_rfl⟩, ⟨by kernel_rfl, fun v => by kernel_rfl, fun v => by kernel_rfl, fun v => by kernel_rfl⟩, ⟨by kernel_rfl, fun v => by kernel_rfl, fun v => by kernel_rfl, fun v => by kernel_rfl⟩, ⟨by kernel_rfl, fun v => by kernel_rfl, fun v => by kernel_rfl, fun v => by kernel_rfl⟩, ⟨by kernel_rfl, fun v => by kernel_rfl, fun v => by kernel_rfl, fun v => by kernel_rfl⟩, ⟨by kernel_rfl, fun v => by kernel_rfl, fun v => by kernel_rfl, fun v => by kernel_rfl⟩, trivial⟩
theorem nums3_3 : AllN 3 3 (pows 3 3) := by
  show AllN 3 3 [[1, 1, 1], [1, 1, 2], [1, 1, 3], [1, 2, 1], [1, 2, 2], [1, 2, 3], [1, 3, 1], [1, 3, 2], [1, 3, 3], [2, 1, 1], [2, 1, 2], [2, 1, 3], [2, 2, 1], [2, 2, 2], [2, 2, 3], [2, 3, 1], [2, 3, 2], [2, 3, 3], [3, 1, 1], [3, 1, 2], [3, 1, 3], [3, 2, 1], [3, 2, 2], [3, 2, 3], [3, 3, 1], [3, 3, 2], [3, 3, 3]]
  refine ⟨⟨by kernel_rfl, fun v => by kernel_rfl, fun v => by kernel_rfl, fun v => by kernel_rfl⟩, ⟨by kernel_rfl, fun v => by kernel_rfl, fun v => by kernel_rfl, fun v => by kernel_rfl⟩, ⟨by kernel_rfl, fun v => by kernel_rfl, fun v => by kernel_rfl, fun v => by kernel_rfl⟩, ⟨by kernel_rfl, fun v => by kernel_rfl, fun v => by kernel_rfl, fun v => by kernel_rfl⟩, ⟨by kernel_rfl, fun v => by kernel_rfl, fun v => by kernel_rfl, fun v => by kernel_rfl⟩, ⟨by kernel_rfl, fun v => by kernel_rfl, fun v => by kernel_rfl, fun v => by kernel_rfl⟩, ⟨by kernel_rfl, fun v => by kernel_rfl, fun v => by kernel_rfl, fun v => by kernel_rfl⟩, ⟨by kernel_rfl, fun v => by kernel_rfl, fun v => by kernel_rfl, fun v => by kernel_rfl⟩, ⟨by kernel_rfl, fun v => by kernel_rfl, fun v => by kernel_rfl, fun v => by kernel_rfl⟩, ⟨by kernel_rfl, fun v => by kernel_rfl, fun v => by kernel_rfl, fun v => by kernel_rfl⟩, ⟨by kernel_rfl, fun v => by kernel_rfl, fun v => by kernel_rfl, fun v => by kernel_rfl⟩, ⟨by kernel_rfl, fun v => by kernel_rfl, fun v => by kernel_rfl, fun v => by kernel_rfl⟩, ⟨by kernel_rfl, fun v => by kernel_rfl, fun v => by kernel_rfl, fun v => by kernel_rfl⟩, ⟨by kernel_rfl, fun v => by kernel_rfl, fun v => by kernel_rfl, fun v => by kernel_rfl⟩, ⟨by kernel_rfl, fun v => by kernel_rfl, fun v => by kernel_rfl, fun v => by kernel_rfl⟩, ⟨by kernel_rfl, fun v => by kernel_rfl, fun v => by kernel_rfl, fun v => by kernel_rfl⟩, ⟨by kernel_rfl, fun v => by kernel_rfl, fun v => by kernel_rfl, fun v => by kernel_rfl⟩, ⟨by kernel_rfl, fun v => by kernel_rfl, fun v => by kernel_rfl, fun v => by kernel_rfl⟩, ⟨by kernel_rfl, fun v => by kernel_rfl, fun v => by kernel_rfl, fun v => by kernel_rfl⟩, ⟨by kernel_rfl, fun v => by kernel_rfl, fun v => by kernel_rfl, fun v => by kernel_rfl⟩, ⟨by kernel_rfl, fun v => by kernel_rfl, fun v => by kernel_rfl, fun v => by kernel_rfl⟩, ⟨by kernel_rfl, fun v => by kernel_rfl, fun v => by kernel_rfl, fun v => by kernel_rfl⟩, ⟨by kernel_rfl, fun v => by kernel_rfl, fun v => by kernel_rfl, fun v => by kernel_rfl⟩, ⟨by kernel_rfl, fun v => by kernel_rfl, fun v => by kernel_rfl, fun v => by kernel_rfl⟩, ⟨by kernel_rfl, fun v => by kernel_rfl, fun v => by kernel_rfl, fun v => by kernel_rfl⟩, ⟨by kernel_rfl, fun v => by kernel_rfl, fun v => by kernel_rfl, fun v => by kernel_rfl⟩, ⟨by kernel_rfl, fun v => by kernel_rfl, fun v => by kernel_rfl, fun v => by kernel_rfl⟩, trivial⟩
theorem nums4_1 : AllN 4 1 (pows 4 2) := by
  show AllN 4 1 [[1, 1, 1, 1], [1, 1, 1, 2], [1, 1, 2, 1], [1, 1, 2, 2], [1, 2, 1, 1], [1, 2, 1, 2], [1, 2, 2, 1], [1, 2, 2, 2], [2, 1, 1, 1], [2, 1, 1, 2], [2, 1, 2, 1], [2, 1, 2, 2], [2, 2, 1, 1], [2, 2, 1, 2], [2, 2, 2, 1], [2, 2, 2, 2]]
  refine ⟨⟨by kernel_rfl, fun v => by kernel_rfl, fun v => by kernel_rfl, fun v => by kernel_rfl⟩, ⟨by kernel_rfl, fun v => by kernel_rfl, fun v => by kernel_rfl, fun v => by kernel_rfl⟩, ⟨by kernel_rfl, fun v => by kernel_rfl, fun v => by kernel_rfl, fun v => by kernel_rfl⟩, ⟨by kernel_rfl, fun v => by kernel_rfl, fun v => by kernel_rfl, fun v => by kernel_rfl⟩, ⟨by kernel_rfl, fun v => by kernel_rfl, fun v => by kernel_rfl, fun v => by kernel_rfl⟩, ⟨by kernel_rfl, fun v => by kernel_rfl, fun v => by kernel_rfl, fun v => by kernel_rfl⟩, ⟨by kernel_rfl, fun v => by kernel_rfl, fun v => by kernel_rfl, fun v => by kernel_rfl⟩, ⟨by kernel_rfl, fun v => by kernel_rfl, fun v => by kernel_rfl, fun v => by kernel_rfl⟩, ⟨by kernel_rfl, fun v => by kernel_rfl, fun v => by kernel_rfl, fun v => by kernel_rfl⟩, ⟨by kernel_rfl, fun v => by kernel_rfl, fun v => by kernel_rfl, fun v => by kernel_rfl⟩, ⟨by kernel_rfl, fun v => by kernel_rfl, fun v => by kernel_rfl, fun v => by kernel_rfl⟩, ⟨by kernel_rfl, fun v => by kernel_rfl, fun v => by kernel_rfl, fun v => by kernel_rfl⟩, ⟨by kernel_rfl, fun v => by kernel_rfl, fun v => by kernel_rfl, fun v => by kernel_rfl⟩, ⟨by kernel_rfl, fun v => by kernel_rfl, fun v => by kernel_rfl, fun v => by kernel_rfl⟩, ⟨by kernel_rfl, fun v => by kernel_rfl, fun v => by kernel_rfl, fun v => by kernel_rfl⟩, ⟨by kernel_rfl, fun v => by kernel_rfl, fun v => by kernel_rfl, fun v => by kernel_rfl⟩, trivial⟩
theorem nums4_2 : AllN 4 2 (pows 4 2) := by
  show AllN 4 2 [[1, 1, 1, 1], [1, 1, 1, 2], [1, 1, 2, 1], [1, 1, 2, 2], [1, 2, 1, 1], [1, 2, 1, 2], [1, 2, 2, 1], [1, 2, 2, 2], [2, 1, 1, 1], [2, 1, 1, 2], [2, 1, 2, 1], [2, 1, 2, 2], [2, 2, 1, 1], [2, 2, 1, 2], [2, 2, 2, 1], [2, 2, 2, 2]]
  refine ⟨⟨by kernel_rfl, fun v => by kernel_rfl, fun v => by kernel_rfl, fun v => by kernel_rfl⟩, ⟨by kernel_rfl, fun v => by kernel_rfl, fun v => by kernel_rfl, fun v => by kernel_rfl⟩, ⟨by kernel_rfl, fun v => by kernel_rfl, fun v => by kernel_rfl, fun v => by kernel_rfl⟩, ⟨by kernel_rfl, fun v => by kernel_rfl, fun v => by kernel_rfl, fun v => by kernel_rfl⟩, ⟨by kernel_rfl, fun v => by kernel_rfl, fun v => by kernel_rfl, fun v => by kernel_rfl⟩, ⟨by kernel_rfl, fun v => by kernel_rfl, fun v => by kernel_rfl, fun v => by kernel_rfl⟩, ⟨by kernel_rfl, fun v => by kernel_rfl, fun v => by kernel_rfl, fun v => by kernel_rfl⟩, ⟨by kernel_rfl, fun v => by kernel_rfl, fun v => by kernel_rfl, fun v => by kernel_rfl⟩, ⟨by kernel_rfl, fun v => by kernel_rfl, fun v => by kernel_rfl, fun v => by kernel_rfl⟩, ⟨by kernel_rfl, fun v => by kernel_rfl, fun v => by kernel_rfl, fun v => by kernel_rfl⟩, ⟨by kernel_rfl, fun v => by kernel_rfl, fun v => by kernel_rfl, fun v => by kernel_rfl⟩, ⟨by kernel_rfl, fun v => by kernel_rfl, fun v => by kernel_rfl, fun v => by kernel_rfl⟩, ⟨by kernel_rfl, fun v => by kernel_rfl, fun v => by kernel_rfl, fun v => by kernel_rfl⟩, ⟨by kernel_rfl, fun v => by kernel_rfl, fun v => by kernel_rfl, fun v => by kernel_rfl⟩, ⟨by kernel_rfl, fun v => by kernel_rfl, fun v => by kernel_rfl, fun v => by kernel_rfl⟩, ⟨by kernel_rfl, fun v => by kernel_rfl, fun v => by kernel_rfl, fun v => by kernel_rfl⟩, trivial⟩
theorem nums4_3 : AllN 4 3 (pows 4 2) := by
  show AllN 4 3 [[1, 1, 1, 1], [1, 1, 1, 2], [1, 1, 2, 1], [1, 1, 2, 2], [1, 2, 1, 1], [1, 2, 1, 2], [1, 2, 2, 1], [1, 2, 2, 2], [2, 1, 1, 1], [2, 1, 1, 2], [2, 1, 2, 1], [2, 1, 2, 2], [2, 2, 1, 1], [2, 2, 1, 2], [2, 2, 2, 1], [2, 2, 2, 2]]
  refine ⟨⟨by kernel_rfl, fun v => by kernel_rfl, fun v => by kernel_rfl, fun v => by kernel_rfl⟩, ⟨by kernel_rfl, fun v => by kernel_rfl, fun v => by kernel_rfl, fun v => by kernel_rfl⟩, ⟨by kernel_rfl, fun v => by kernel_rfl, fun v => by kernel_rfl, fun v => by kernel_rfl⟩, ⟨by kernel_rfl, fun v => by kernel_rfl, fun v => by kernel_rfl, fun v => by kernel_rfl⟩, ⟨by kernel_rfl, fun v => by kernel_rfl, fun v => by kernel_rfl, fun v => by kernel_rfl⟩, ⟨by kernel_rfl, fun v => by kernel_rfl, fun v => by kernel_rfl, fun v => by kernel_rfl⟩, ⟨by kernel_rfl, fun v => by kernel_rfl, fun v => by kernel_rfl, fun v => by kernel_rfl⟩, ⟨by kernel_rfl, fun v => by kernel_rfl, fun v => by kernel_rfl, fun v => by kernel_rfl⟩, ⟨by kernel_rfl, fun v => by kernel_rfl, fun v => by kernel_rfl, fun v => by kernel_rfl⟩, ⟨by kernel_rfl, fun v => by kernel_rfl, fun v => by kernel_rfl, fun v => by kernel_rfl⟩, ⟨by kernel_rfl, fun v => by kernel_rfl, fun v => by kernel_rfl, fun v => by kernel_rfl⟩, ⟨by kernel_rfl, fun v => by kernel_rfl, fun v => by kernel_rfl, fun v => by kernel_rfl⟩, ⟨by kernel_rfl, fun v => by kernel_rfl, fun v => by kernel_rfl, fun v => by kernel_rfl⟩, ⟨by kernel_rfl, fun v => by kernel_rfl, fun v => by kernel_rfl, fun v => by kernel_rfl⟩, ⟨by kernel_rfl, fun v => by kernel_rfl, fun v => by kernel_rfl, fun v => by kernel_rfl⟩, ⟨by kernel_rfl, fun v => by kernel_rfl, fun v => by kernel_rfl, fun v => by kernel_rfl⟩, trivial⟩
theorem nums {m f : Nat} {ks : List Nat} (hm : m = 2 ∨ m = 3 ∨ m = 4) (hf : f = 1 ∨ f = 2 ∨ f = 3) (hl : ks.length = m) (hk : ∀ x ∈ ks, 1 ≤ x ∧ x ≤ 6 - m) : Num m f ks := by
  rcases hm with rfl | rfl | rfl
  · have := pows_mem 4 2 ks hl hk
    rcases hf with rfl | rfl | rfl
    · exact allN_mem nums2_1 this
    · exact allN_mem nums2_2 this
    · exact allN_mem nums2_3 this
  · have := pows_mem 3 3 ks hl hk
    rcases hf with rfl | rfl | rfl
    · exact allN_mem nums3_1 this
    · exact allN_mem nums3_2 this
    · exact allN_mem nums3_3 this
  · have := pows_mem 2 4 ks hl hk
    rcases hf with rfl | rfl | rfl
    · exact allN_mem nums4_1 this
    · exact allN_mem nums4_2 this
    · exact allN_mem nums4_3 this
end Mine

end -- N1

section -- E11
namespace Mine
open PySem PySem.W PyProof.Rows
set_option maxRecDepth 100000

abbrev menuD : List Dat := [.str ⟨([] : List Nat).toArray⟩, .str ⟨[58, 109, 46, 110].toArray⟩, .str ⟨[58, 92, 34].toArray⟩, .str ⟨[58, 46, 92, 92].toArray⟩]
abbrev rest14 : VS := [.no, .no, .no, .no, .no, .no, .no, .no, .no, .no, .no, .no, .no, .no]
theorem pre2 (sc : Dat) (n a0 a1 a2 a3 a4 a5 : Int) (f k1 k2 r0 m0 q1 q2 m5 c1 c2 b : Dat) (out : Option Out) (e1 : lenD sc = some (.int n)) (e2 : modD (.int n) (.int 3) = some r0) (e3 : addD (.int 2) r0 = some (.int 2))
    (e4 : cutD none (some 6) sc = some c1) (e5 : cutD (some n) none (.list [.int 1, .int 0, .int 1, .int 4, .int 2, .int 1]) = some c2) (e6 : addD c1 c2 = some (.list [.int a0, .int a1, .int a2, .int a3, .int a4, .int a5]))
    (e8 : modD (.int a0) (.int 3) = some m0) (e9 : addD (.int 1) m0 = some f) (g1 : modD (.int a1) (.int 4) = some q1) (h1 : addD (.int 1) q1 = some k1) (g2 : modD (.int a2) (.int 4) = some q2) (h2 : addD (.int 1) q2 = some k2)
    (e10 : modD (.int a5) (.int 4) = some m5) (e11 : itemD (.tuple menuD) m5 = some b)
    (ht : pLawMid.1 ([.val sc, .val (.int 2), .val (.list [.int a0, .int a1, .int a2, .int a3, .int a4, .int a5]), .val f, .val (.list [k1, k2]), .val b] ++ rest14) = out) : pLaw.1 (startV 19 [sc]) = out := by
  have i0 : itemD (.list [.int a0, .int a1, .int a2, .int a3, .int a4, .int a5]) (.int 0) = some (.int a0) := rfl
  have i5 : itemD (.list [.int a0, .int a1, .int a2, .int a3, .int a4, .int a5]) (.int 5) = some (.int a5) := rfl
  have ic : cutD (some 1) (some 3) (.list [.int a0, .int a1, .int a2, .int a3, .int a4, .int a5]) = some (.list [.int a1, .int a2]) := rfl
  have i3 : addD (.int 1) (.int 2) = some (.int 3) := rfl
  have i4 : subD (.int 6) (.int 2) = some (.int 4) := rfl
  unfold pLaw
  simp [startV, List.replicate, Out.go, VS.get, VS.at, intD, e1, e2, e3, e4, e5, e6, e8, e9, i0, i5, ic, i3, i4, listD, capsOk, innerV, capV, compF, tgN, g1, h1, g2, h2, e10, e11]
  exact ht
theorem pre3 (sc : Dat) (n a0 a1 a2 a3 a4 a5 : Int) (f k1 k2 k3 r0 m0 q1 q2 q3 m5 c1 c2 b : Dat) (out : Option Out) (e1 : lenD sc = some (.int n)) (e2 : modD (.int n) (.int 3) = some r0) (e3 : addD (.int 2) r0 = some (.int 3))
    (e4 : cutD none (some 6) sc = some c1) (e5 : cutD (some n) none (.list [.int 1, .int 0, .int 1, .int 4, .int 2, .int 1]) = some c2) (e6 : addD c1 c2 = some (.list [.int a0, .int a1, .int a2, .int a3, .int a4, .int a5]))
    (e8 : modD (.int a0) (.int 3) = some m0) (e9 : addD (.int 1) m0 = some f) (g1 : modD (.int a1) (.int 3) = some q1) (h1 : addD (.int 1) q1 = some k1) (g2 : modD (.int a2) (.int 3) = some q2) (h2 : addD (.int 1) q2 = some k2) (g3 : modD (.int a3) (.int 3) = some q3) (h3 : addD (.int 1) q3 = some k3)
    (e10 : modD (.int a5) (.int 4) = some m5) (e11 : itemD (.tuple menuD) m5 = some b)
    (ht : pLawMid.1 ([.val sc, .val (.int 3), .val (.list [.int a0, .int a1, .int a2, .int a3, .int a4, .int a5]), .val f, .val (.list [k1, k2, k3]), .val b] ++ rest14) = out) : pLaw.1 (startV 19 [sc]) = out := by
  have i0 : itemD (.list [.int a0, .int a1, .int a2, .int a3, .int a4, .int a5]) (.int 0) = some (.int a0) := rfl
  have i5 : itemD (.list [.int a0, .int a1, .int a2, .int a3, .int a4, .int a5]) (.int 5) = some (.int a5) := rfl
  have ic : cutD (some 1) (some 4) (.list [.int a0, .int a1, .int a2, .int a3, .int a4, .int a5]) = some (.list [.int a1, .int a2, .int a3]) := rfl
  have i3 : addD (.int 1) (.int 3) = some (.int 4) := rfl
  have i4 : subD (.int 6) (.int 3) = some (.int 3) := rfl
  unfold pLaw
  simp [startV, List.replicate, Out.go, VS.get, VS.at, intD, e1, e2, e3, e4, e5, e6, e8, e9, i0, i5, ic, i3, i4, listD, capsOk, innerV, capV, compF, tgN, g1, h1, g2, h2, g3, h3, e10, e11]
  exact ht
theorem pre4 (sc : Dat) (n a0 a1 a2 a3 a4 a5 : Int) (f k1 k2 k3 k4 r0 m0 q1 q2 q3 q4 m5 c1 c2 b : Dat) (out : Option Out) (e1 : lenD sc = some (.int n)) (e2 : modD (.int n) (.int 3) = some r0) (e3 : addD (.int 2) r0 = some (.int 4))
    (e4 : cutD none (some 6) sc = some c1) (e5 : cutD (some n) none (.list [.int 1, .int 0, .int 1, .int 4, .int 2, .int 1]) = some c2) (e6 : addD c1 c2 = some (.list [.int a0, .int a1, .int a2, .int a3, .int a4, .int a5]))
    (e8 : modD (.int a0) (.int 3) = some m0) (e9 : addD (.int 1) m0 = some f) (g1 : modD (.int a1) (.int 2) = some q1) (h1 : addD (.int 1) q1 = some k1) (g2 : modD (.int a2) (.int 2) = some q2) (h2 : addD (.int 1) q2 = some k2) (g3 : modD (.int a3) (.int 2) = some q3) (h3 : addD (.int 1) q3 = some k3) (g4 : modD (.int a4) (.int 2) = some q4) (h4 : addD (.int 1) q4 = some k4)
    (e10 : modD (.int a5) (.int 4) = some m5) (e11 : itemD (.tuple menuD) m5 = some b)
    (ht : pLawMid.1 ([.val sc, .val (.int 4), .val (.list [.int a0, .int a1, .int a2, .int a3, .int a4, .int a5]), .val f, .val (.list [k1, k2, k3, k4]), .val b] ++ rest14) = out) : pLaw.1 (startV 19 [sc]) = out := by
  have i0 : itemD (.list [.int a0, .int a1, .int a2, .int a3, .int a4, .int a5]) (.int 0) = some (.int a0) := rfl
  have i5 : itemD (.list [.int a0, .int a1, .int a2, .int a3, .int a4, .int a5]) (.int 5) = some (.int a5) := rfl
  have ic : cutD (some 1) (some 5) (.list [.int a0, .int a1, .int a2, .int a3, .int a4, .int a5]) = some (.list [.int a1, .int a2, .int a3, .int a4]) := rfl
  have i3 : addD (.int 1) (.int 4) = some (.int 5) := rfl
  have i4 : subD (.int 6) (.int 4) = some (.int 2) := rfl
  unfold pLaw
  simp [startV, List.replicate, Out.go, VS.get, VS.at, intD, e1, e2, e3, e4, e5, e6, e8, e9, i0, i5, ic, i3, i4, listD, capsOk, innerV, capV, compF, tgN, g1, h1, g2, h2, g3, h3, g4, h4, e10, e11]
  exact ht

theorem mod_ok (a : Int) (m : Nat) (hm : 0 < m) : ∃ q : Nat, q < m ∧ modD (.int a) (.int (m : Int)) = some (.int (q : Int)) := by
  have h0 : (0 : Int) < (m : Int) := by omega
  have h1 := Int.fmod_nonneg_of_pos a h0
  have h2 := Int.fmod_lt_of_pos a h0
  refine ⟨(a.fmod m).toNat, by omega, ?_⟩
  have h3 : ((a.fmod m).toNat : Int) = a.fmod m := by omega
  have hne : ¬ (m : Int) = 0 := by omega
  show (if (m : Int) = 0 then none else some (Dat.int (a.fmod m))) = _
  rw [if_neg hne, h3]
theorem add_one (q : Nat) : addD (.int 1) (.int (q : Int)) = some (.int ((q + 1 : Nat) : Int)) := by
  show some (Dat.int (1 + (q : Int))) = _
  congr 2
  omega
theorem menu_ok (q : Nat) (h : q < 4) : ∃ B, BOk B ∧ itemD (.tuple menuD) (.int (q : Int)) = some (.str ⟨B.toArray⟩) := by
  have : q = 0 ∨ q = 1 ∨ q = 2 ∨ q = 3 := by omega
  rcases this with rfl | rfl | rfl | rfl
  · exact ⟨[], .inl rfl, rfl⟩
  · exact ⟨_, .inr (.inl rfl), rfl⟩
  · exact ⟨_, .inr (.inr (.inl rfl)), rfl⟩
  · exact ⟨_, .inr (.inr (.inr rfl)), rfl⟩
theorem cut_to (ds : List Dat) (k : Nat) (h : ds.length ≤ 1000000) : cutD none (some (k : Int)) (.list ds) = some (.list (ds.take k)) := by
  have p : partOk (some (k : Int)) = true := decide_eq_true (show (0 : Int) ≤ k by omega)
  show (if partOk none = true ∧ partOk (some (k : Int)) = true ∧ ds.length ≤ 1000000 then some (Dat.list (ds.take (k : Int).toNat)) else none) = _
  rw [if_pos ⟨rfl, p, h⟩, Int.toNat_natCast]
theorem cut_from (ds : List Dat) (k : Nat) (h : ds.length ≤ 1000000) : cutD (some (k : Int)) none (.list ds) = some (.list (ds.drop k)) := by
  have p : partOk (some (k : Int)) = true := decide_eq_true (show (0 : Int) ≤ k by omega)
  show (if partOk (some (k : Int)) = true ∧ partOk none = true ∧ ds.length ≤ 1000000 then some (Dat.list (ds.drop (k : Int).toNat)) else none) = _
  rw [if_pos ⟨p, rfl, h⟩, Int.toNat_natCast]
theorem six (l : List Int) (h : l.length = 6) : ∃ a0 a1 a2 a3 a4 a5, l = [a0, a1, a2, a3, a4, a5] := by
  match l, h with
  | [a0, a1, a2, a3, a4, a5], _ => exact ⟨a0, a1, a2, a3, a4, a5, rfl⟩

/-- the law is true of every script -/
theorem law_pure (ns : List Int) (hn : ns.length ≤ 1000) : retF pLaw.1 lsLaw.length psLaw.length [.list (ns.map .int)] = some (.bool true) := by
  have key : pLaw.1 (startV 19 [.list (ns.map .int)]) = some (.ret (.bool true)) := by
    have e1 : lenD (.list (ns.map Dat.int)) = some (.int (ns.length : Int)) := by
      have : (ns.map Dat.int).length ≤ 1000000 := by rw [List.length_map]; omega
      show (if (ns.map Dat.int).length ≤ 1000000 then some (Dat.int ((ns.map Dat.int).length : Int)) else none) = _
      rw [if_pos this, List.length_map]
    have e4 := cut_to (ns.map Dat.int) 6 (by rw [List.length_map]; omega)
    have e5 := cut_from [.int 1, .int 0, .int 1, .int 4, .int 2, .int 1] ns.length (by decide)
    obtain ⟨a0, a1, a2, a3, a4, a5, ha⟩ := six (ns.take 6 ++ [1, 0, 1, 4, 2, 1].drop ns.length) (by
      rw [List.length_append, List.length_take, List.length_drop]
      show min 6 ns.length + (6 - ns.length) = 6
      omega)
    have e6 : addD (.list ((ns.map Dat.int).take 6)) (.list ([Dat.int 1, .int 0, .int 1, .int 4, .int 2, .int 1].drop ns.length)) = some (.list [.int a0, .int a1, .int a2, .int a3, .int a4, .int a5]) := by
      have h1 : (ns.map Dat.int).take 6 ++ [Dat.int 1, .int 0, .int 1, .int 4, .int 2, .int 1].drop ns.length = [Dat.int a0, .int a1, .int a2, .int a3, .int a4, .int a5] := by
        have := congrArg (List.map Dat.int) ha
        rw [List.map_append, List.map_take, List.map_drop] at this
        exact this
      have h2 := congrArg List.length h1
      rw [List.length_append] at h2
      have h3 : ((ns.map Dat.int).take 6).length + ([Dat.int 1, .int 0, .int 1, .int 4, .int 2, .int 1].drop ns.length).length ≤ 1000000 := by
        have : ([Dat.int a0, .int a1, .int a2, .int a3, .int a4, .int a5] : List Dat).length = 6 := rfl
        omega
      show (if _ + _ ≤ 1000000 then some (Dat.list (_ ++ _)) else none) = _
      rw [if_pos h3, h1]
    obtain ⟨f, hf, e8⟩ := mod_ok a0 3 (by decide)
    obtain ⟨m5, hm5, e10⟩ := mod_ok a5 4 (by decide)
    obtain ⟨B, hB, e11⟩ := menu_ok m5 hm5
    obtain ⟨r, hr, e2⟩ := mod_ok (ns.length : Int) 3 (by decide)
    have : r = 0 ∨ r = 1 ∨ r = 2 := by omega
    have hf' : f + 1 = 1 ∨ f + 1 = 2 ∨ f + 1 = 3 := by omega
    rcases this with rfl | rfl | rfl
    ·
      obtain ⟨q1, hq1, g1⟩ := mod_ok a1 4 (by decide)
      obtain ⟨q2, hq2, g2⟩ := mod_ok a2 4 (by decide)
      refine pre2 _ _ a0 a1 a2 a3 a4 a5 _ _ _ _ _ _ _ _ _ _ _ _ e1 e2 rfl e4 e5 e6 e8 (add_one f) g1 (add_one q1) g2 (add_one q2) e10 e11 ?_
      exact mid_all hB (nums (m := 2) (ks := [q1 + 1, q2 + 1]) (by decide) hf' rfl (by intro x hx; simp at hx; omega)) (by omega) (by omega) (by intro x hx; simp at hx; omega) (List.cons_ne_nil _ _) _ _ _ _ _ _ _ _ _ _ _ _ _ _ _ _
    ·
      obtain ⟨q1, hq1, g1⟩ := mod_ok a1 3 (by decide)
      obtain ⟨q2, hq2, g2⟩ := mod_ok a2 3 (by decide)
      obtain ⟨q3, hq3, g3⟩ := mod_ok a3 3 (by decide)
      refine pre3 _ _ a0 a1 a2 a3 a4 a5 _ _ _ _ _ _ _ _ _ _ _ _ _ _ e1 e2 rfl e4 e5 e6 e8 (add_one f) g1 (add_one q1) g2 (add_one q2) g3 (add_one q3) e10 e11 ?_
      exact mid_all hB (nums (m := 3) (ks := [q1 + 1, q2 + 1, q3 + 1]) (by decide) hf' rfl (by intro x hx; simp at hx; omega)) (by omega) (by omega) (by intro x hx; simp at hx; omega) (List.cons_ne_nil _ _) _ _ _ _ _ _ _ _ _ _ _ _ _ _ _ _
    ·
      obtain ⟨q1, hq1, g1⟩ := mod_ok a1 2 (by decide)
      obtain ⟨q2, hq2, g2⟩ := mod_ok a2 2 (by decide)
      obtain ⟨q3, hq3, g3⟩ := mod_ok a3 2 (by decide)
      obtain ⟨q4, hq4, g4⟩ := mod_ok a4 2 (by decide)
      refine pre4 _ _ a0 a1 a2 a3 a4 a5 _ _ _ _ _ _ _ _ _ _ _ _ _ _ _ _ e1 e2 rfl e4 e5 e6 e8 (add_one f) g1 (add_one q1) g2 (add_one q2) g3 (add_one q3) g4 (add_one q4) e10 e11 ?_
      exact mid_all hB (nums (m := 4) (ks := [q1 + 1, q2 + 1, q3 + 1, q4 + 1]) (by decide) hf' rfl (by intro x hx; simp at hx; omega)) (by omega) (by omega) (by intro x hx; simp at hx; omega) (List.cons_ne_nil _ _) _ _ _ _ _ _ _ _ _ _ _ _ _ _ _ _
  show (match pLaw.1 (startV 19 [.list (ns.map .int)]) with | some (.ret d) => some d | _ => none) = _
  rw [key]
end Mine

end -- E11

section -- M1
namespace Mine
open PySem PySem.W PyProof.Rows
set_option maxRecDepth 100000

theorem tops_of {p : Program} {loose : List Str} {mean : ExcName → Option Value} {mg mb : Str → Option Value} {h : Heap} (T : Top p loose mean mg mb h) {o : Obj} {es : Array DictEntry} {ep : Nat} (ho : h.get? mainGlobals = some o) (hd : o.data = .dict es ep)
    (hg : ∀ p ∈ glNames, nsFind es p.1 = some p.2) (hn : ∀ p ∈ biNames, nsFind es p.1 = none) (hb : ∀ p ∈ biNames, bootBuiltins p.1 = some p.2)
    (sed : FnAt h 38 37 2 "_strip_exception_details") (iter : FnAt h 45 44 4 "_iter_escaped_chars") (sqr : FnAt h 52 51 5 "_strip_quoted_realnames") (quote : FnAt h 69 68 10 "quotedata") (mail : FnAt h 76 75 12 "_law_mail") (due : FnAt h 81 80 13 "_law_due")
    (re1 : IsPat h 57 c1) (re2 : IsPat h 62 c2) : Tops h := by
  obtain ⟨o', es', ep', ho', hd', _, hm⟩ := T.g
  rw [ho] at ho'; cases ho'
  rw [hd] at hd'; cases hd'
  refine ⟨⟨mg, mb, T.g, T.b, fun p hp => (hm p.1) ▸ hg p hp, fun p hp => ⟨(hm p.1) ▸ hn p hp, ?_⟩⟩, sed, iter, sqr, quote, mail, due, re1, re2, T.nolimit⟩
  rw [T.builtins p.1 ?_]
  · exact hb p hp
  · have : ∀ p ∈ biNames, p.1 ≠ ("__name__" : Str) := by decide
    exact this p hp

theorem ints_dat {F : FL} : ∀ {vs : List Value} {ns : List Int}, IntsAre vs ns → DatAll F vs (ns.map .int)
  | _, _, .nil => .nil
  | _, _, .cons _ _ r => .cons (.int _ _) (ints_dat r)

theorem ret_of {fb : VS → Option Out} {k np : Nat} {ds : List Dat} {d : Dat} (h : retF fb k np ds = some d) : fb (startV k ds) = some (.ret d) := by
  unfold retF at h
  split at h
  · split at h
    · rename_i e
      cases h; exact e
    · cases h
  · cases h

/-- the law's call -/
theorem call_law {prog : Program} {w : World} {A : Around} {s : Shared} {fa c l : Addr} {o : Obj} {pm doc : Value} {vs : List Value} {ns : List Int} {k : Nat} (ok : AOk 4 A) (T : Tops s.heap) (ht : 1 ≤ s.toks)
    (ho : s.heap.get? fa = some o) (hdata : o.data = .func (Calls.docDef "law" (paramsAt 14) (bodyAt 14) (scopeAt 14) pm (.ref c) doc)) (hcd : s.heap.CodeRec (.ref c) "law")
    (hl : s.heap.get? l = some (listOf vs.toArray k)) (hi : IntsAre vs ns) (hn : ns.length ≤ 1000) :
    wpAny (model prog w) A (call (.ref fa) [.ref l]) (fun v s' => v = .bool true ∧ Rest true s s' ∧ ∀ b o, s.heap.get? b = some o → s'.heap.get? b = some o) (fun _ _ => False) s := by
  have hF : Has s.heap [(l, listOf vs.toArray k)] := by
    intro p hp
    cases List.mem_singleton.mp hp
    exact hl
  have hv : DatAll [(l, listOf vs.toArray k)] [.ref l] [Dat.list (ns.map .int)] := .cons (.list (List.mem_singleton.mpr rfl) (ints_dat hi)) .nil
  have hr := ret_of (law_pure ns hn)
  refine wpAny_call (codeAny_def okLaw ok T hF ht hv rfl ho hdata hcd fun env s₁ fm _ => ?_)
  refine wpAny_mono (pLaw.2 prog w _ env s _ s₁ _ _ _ fm.yes hr) (fun fl s' z => ?_) fun _ _ z => z
  obtain ⟨v, G, rfl, nb, hh, dd, kk, hrest, t1⟩ := z
  cases dd
  exact ⟨rfl, hrest, kk⟩
end Mine

end -- M1

open PySem PySem.W PySem.W.X PySem.W.ZRun PyProof.Rows
set_option maxRecDepth 100000 in
set_option maxHeartbeats 0 in
theorem PySem.Challenge.cw_re0016_01_holds : PySem.Challenge.rw_re0016_01.Holds := by
  w_on; o_law; z_head
  case hw => w_witness2
  k_fill
  intro w s₀ s₁ mg mb G y fa o pm cd doc dV kV ho hd hcd hD hmg hg args vals as L hpre hlay hrd hwl hlo
  z_open y L KX ZH ZN ZT
  refine Ground.open G ?_
  intro T B D TE TW
  wrow_args hpre hlay hrd hwl hlo
  obtain ⟨hat, hsz⟩ := script_at L
  have htk := script_toks L ZT
  have hDn := hD.none rfl
  subst hDn
  have hDk := hD.noKw
  subst hDk
  obtain ⟨c, oc, vc, tc, rfl, _⟩ := id hcd
  have TT : Mine.Tops s₁.heap := by
    refine Mine.tops_of T (KX 3 _ rfl) rfl ?_ ?_ ?_ ?_ ?_ ?_ ?_ ?_ ?_ ?_ ?_
    · unfold Mine.glNames
      refine List.forall_mem_cons.mpr ⟨rfl, List.forall_mem_cons.mpr ⟨rfl, List.forall_mem_cons.mpr ⟨rfl, List.forall_mem_cons.mpr ⟨rfl, List.forall_mem_cons.mpr ⟨rfl, List.forall_mem_cons.mpr ⟨rfl, List.forall_mem_cons.mpr ⟨rfl, List.forall_mem_cons.mpr ⟨rfl, List.forall_mem_cons.mpr ⟨rfl, fun _ h => nomatch h⟩⟩⟩⟩⟩⟩⟩⟩⟩
    · unfold Mine.biNames
      refine List.forall_mem_cons.mpr ⟨rfl, List.forall_mem_cons.mpr ⟨rfl, List.forall_mem_cons.mpr ⟨rfl, List.forall_mem_cons.mpr ⟨rfl, List.forall_mem_cons.mpr ⟨rfl, fun _ h => nomatch h⟩⟩⟩⟩⟩
    · unfold Mine.biNames
      refine List.forall_mem_cons.mpr ⟨rfl, List.forall_mem_cons.mpr ⟨rfl, List.forall_mem_cons.mpr ⟨rfl, List.forall_mem_cons.mpr ⟨rfl, List.forall_mem_cons.mpr ⟨rfl, fun _ h => nomatch h⟩⟩⟩⟩⟩
    · exact ⟨⟨_, _, _, KX 38 _ rfl, rfl⟩, 37, _, _, _, rfl, KX 37 _ rfl, rfl, rfl⟩
    · exact ⟨⟨_, _, _, KX 45 _ rfl, rfl⟩, 44, _, _, _, rfl, KX 44 _ rfl, rfl, rfl⟩
    · exact ⟨⟨_, _, _, KX 52 _ rfl, rfl⟩, 51, _, _, _, rfl, KX 51 _ rfl, rfl, rfl⟩
    · exact ⟨⟨_, _, _, KX 69 _ rfl, rfl⟩, 68, _, _, _, rfl, KX 68 _ rfl, rfl, rfl⟩
    · exact ⟨⟨_, _, _, KX 76 _ rfl, rfl⟩, 75, _, _, _, rfl, KX 75 _ rfl, rfl, rfl⟩
    · exact ⟨⟨_, _, _, KX 81 _ rfl, rfl⟩, 80, _, _, _, rfl, KX 80 _ rfl, rfl, rfl⟩
    · exact ⟨_, 56, _, _, _, _, _, KX 57 _ rfl, rfl, rfl, rfl, KX 56 _ rfl, rfl, by decide +kernel, by decide⟩
    · exact ⟨_, 61, _, _, _, _, _, KX 62 _ rfl, rfl, rfl, rfl, KX 61 _ rfl, rfl, by decide +kernel, by decide⟩
  rename_i hL _ _ _ hI _ hcond _ _
  have hlen := hcond
  refine wpAny_mono (Mine.call_law (ns := _) ⟨rfl, by decide, by decide⟩ TT (Nat.le_trans (by decide) htk) ho (fd_plain hd) hcd (script_obj L hL) hI ?_) (fun v s' z => ?_) fun _ _ z => z.elim
  · omega
  · obtain ⟨rfl, hrest, kk⟩ := z
    obtain ⟨h', tk', g', rfl, _, hb⟩ := hrest
    refine ⟨.inl ⟨_, _, [], rfl, fun _ => rfl, ReadsW.bool true, ?_, fun _ => ⟨List.nodup_nil, fun _ hm => nomatch hm⟩⟩, OldK.of_keep kk, rfl, hb (AllBare.of_eq hg)⟩
    first | rfl | wrow_post
