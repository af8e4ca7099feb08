import PyProof.Rows.All
import Wide.All
import OpenK.AllK
import Wide.FinOn
import PySem.Builtin.Sre.Common
import PySem.Challenge.RW_ph0006_01
set_option Elab.async false
-- part M0
section
/-! Plain lists of codes: what the two patterns do, as transducers. -/
namespace Mine

/-- ends made even: b tells whether the sign before was a return -/
def fixF : Bool → List Nat → List Nat
  | _, [] => []
  | b, c :: r => if c = 13 then 13 :: 10 :: fixF true r else if c = 10 then (if b then fixF false r else 13 :: 10 :: fixF false r) else c :: fixF false r

/-- does it end in a return? -/
def endCR : Bool → List Nat → Bool
  | b, [] => b
  | _, c :: r => endCR (c == 13) r

/-- an end of a line as a return and a feed -/
def phi : List Nat → List Nat
  | [] => []
  | c :: r => if c = 10 then 13 :: 10 :: phi r else c :: phi r

/-- a dot more ahead of each row that begins with one: b tells whether a row begins here -/
def dotF : Bool → List Nat → List Nat
  | _, [] => []
  | b, c :: r => if b && c == 46 then 46 :: 46 :: dotF false r else c :: dotF (c == 10) r

theorem fixF_append (r₂ : List Nat) : ∀ (r₁ : List Nat) (b : Bool), fixF b (r₁ ++ r₂) = fixF b r₁ ++ fixF (endCR b r₁) r₂
  | [], b => rfl
  | c :: r, b => by
    have e1 := fixF_append r₂ r true
    have e2 := fixF_append r₂ r false
    simp only [List.cons_append, fixF, endCR]
    by_cases h13 : c = 13
    · simp [h13, e1]
    · by_cases h10 : c = 10
      · cases b <;> simp [h10, e2]
      · have h : (c == 13) = false := by simp [h13]
        simp [h13, h10, e2, h]
theorem endCR_append (r₂ : List Nat) : ∀ (r₁ : List Nat) (b : Bool), endCR b (r₁ ++ r₂) = endCR (endCR b r₁) r₂
  | [], _ => rfl
  | _ :: r, _ => endCR_append r₂ r _
theorem phi_append (b : List Nat) : ∀ a : List Nat, phi (a ++ b) = phi a ++ phi b
  | [] => rfl
  | c :: r => by simp only [List.cons_append, phi, phi_append b r]; split <;> rfl
theorem phi_eq_nil {l : List Nat} (h : phi l = []) : l = [] := by
  cases l with
  | nil => rfl
  | cons c r => simp only [phi] at h; split at h <;> cases h

end Mine
end
-- part S1
section
local macro_rules | `(tactic| walk_at "pad") => `(tactic| skip)
local macro_rules | `(tactic| walk_at "pad") => `(tactic| skip)
local macro_rules | `(tactic| walk_at "pad") => `(tactic| skip)
local macro_rules | `(tactic| walk_at "pad") => `(tactic| skip)
local macro_rules | `(tactic| walk_at "pad") => `(tactic| skip)
local macro_rules | `(tactic| walk_at "pad") => `(tactic| skip)
local macro_rules | `(tactic| walk_at "pad") => `(tactic| skip)
local macro_rules | `(tactic| walk_at "pad") => `(tactic| skip)
local macro_rules | `(tactic| walk_at "pad") => `(tactic| skip)
local macro_rules | `(tactic| walk_at "pad") => `(tactic| skip)
local macro_rules | `(tactic| walk_at "pad") => `(tactic| skip)
local macro_rules | `(tactic| walk_at "pad") => `(tactic| skip)
local macro_rules | `(tactic| walk_at "pad") => `(tactic| skip)
local macro_rules | `(tactic| walk_at "pad") => `(tactic| skip)
set_option maxRecDepth 100000
namespace Mine
open PySem PySem.Sre

def C2 : Array Nat := #[14, 9, 4, 1, 2, 16, 10, 16, 13, 0, 7, 7, 16, 13, 16, 10, 15, 18, 5, 16, 10, 15, 13, 11, 16, 13, 5, 5, 0, 16, 10, 1, 15, 2, 0, 1]
def C1 : Array Nat := #[14, 4, 0, 1, 1, 6, 1, 16, 46, 1]

/-- a machine's state, whole -/
abbrev mk (code text : Array Nat) (lim start lastStart pc pos handed : Nat) (outermost : Bool) (frames : List Sre.Frame) (weight : Nat) (answer : Option Bool) (seen : Seen) (outcome : Option Sre.Outcome) : M :=
  { code, text, lim, start, lastStart, wholeText := false, mustAdvance := false, pc, pos, handed, outermost, marks := #[], lastmark := -1, lastindex := -1, loops := #[], inner := none, frames, weight, answer, seen, outcome }

inductive Reach : M → Nat → M → Prop
  | done {m : M} (h : m.outcome.isSome = true) : Reach m 0 m
  | step {m m' : M} {k : Nat} (h : m.outcome.isSome = false) (r : Reach m.step k m') : Reach m (k + 1) m'

theorem runFor_reach : ∀ (n : Nat) {m m' : M} {k : Nat}, Reach m k m' → (k ≤ n → M.runFor n m = m') ∧ (n < k → Reach (M.runFor n m) (k - n) m')
  | 0, m, m', k, r => by
    refine ⟨fun h => ?_, fun h => ?_⟩
    · obtain rfl : k = 0 := by omega
      cases r; rfl
    · exact r
  | n + 1, m, m', k, r => by
    cases r with
    | done h =>
      refine ⟨fun _ => ?_, fun h' => by omega⟩
      simp [M.runFor, h]
    | step h r =>
      have ih := runFor_reach n r
      have e : M.runFor (n + 1) m = M.runFor n m.step := by simp [M.runFor, h]
      rw [e]
      exact ⟨fun h' => ih.1 (by omega), fun h' => by rw [Nat.add_sub_add_right]; exact ih.2 (by omega)⟩

section
variable {text : Array Nat} {lim start lastStart pos handed weight : Nat} {o : Bool} {frames : List Sre.Frame} {seen : Seen}



theorem step_branch (hw : weight + 1 ≤ 16777216) : (mk C2 text lim start lastStart 10 pos handed o frames weight none seen none).step =
    mk C2 text lim start lastStart 12 pos pos o ({ wait := .nextBranch, pc := 11, pos, outermost := o } :: frames) (weight + 1) none (seen.add 7) none := by
  show (if weight + 1 + 0 > 16777216 then _ else _) = _
  rw [if_neg (by omega)]
  rfl

theorem op16 : ops[16]? = some Op.LITERAL := rfl
structure IsLit (code : Array Nat) (pc c : Nat) : Prop where
  lt : pc < code.size
  op : ops[code.getD pc 0]? = some .LITERAL
  word : code.getD pc 0 = 16
  acc : ∀ x seen, accepts code pc x seen = .ok (x == c, seen)
  width : itemWidth code pc = 2

theorem step_lit_yes {pc c : Nat} {code : Array Nat} (L : IsLit code pc c) (h : pos < lim) (hc : text.getD pos 0 = c) :
    (mk code text lim start lastStart pc pos handed o frames weight none seen none).step =
      mk code text lim start lastStart (pc + 2) (pos + 1) handed o frames weight none (seen.add 16) none := by
  have h1 : ¬ pos ≥ lim := by omega
  simp only [M.step, M.exec, M.word, Nat.add_zero, op16, L.lt, L.word, if_true, L.acc, L.width, Option.isSome_none, Bool.false_eq_true, if_false, h1, hc, beq_self_eq_true]
theorem step_lit_no {pc c : Nat} {code : Array Nat} (L : IsLit code pc c) (h : pos < lim → text.getD pos 0 ≠ c) :
    (mk code text lim start lastStart pc pos handed o frames weight none seen none).step =
      mk code text lim start lastStart pc pos handed o frames weight (some false) (seen.add 16) none := by
  by_cases h1 : pos ≥ lim
  · simp only [M.step, M.exec, M.word, Nat.add_zero, op16, L.lt, L.word, if_true, Option.isSome_none, Bool.false_eq_true, if_false, h1, M.say]
  · have h2 : (text.getD pos 0 == c) = false := by simpa using h (by omega)
    simp only [M.step, M.exec, M.word, Nat.add_zero, op16, L.lt, L.word, if_true, L.acc, Option.isSome_none, Bool.false_eq_true, if_false, h1, M.say, h2]

theorem lit12 : IsLit C2 12 13 := ⟨by decide, rfl, rfl, fun _ _ => rfl, rfl⟩
theorem lit14 : IsLit C2 14 10 := ⟨by decide, rfl, rfl, fun _ _ => rfl, rfl⟩
theorem lit19 : IsLit C2 19 10 := ⟨by decide, rfl, rfl, fun _ _ => rfl, rfl⟩
theorem lit24 : IsLit C2 24 13 := ⟨by decide, rfl, rfl, fun _ _ => rfl, rfl⟩
theorem lit29 : IsLit C2 29 10 := ⟨by decide, rfl, rfl, fun _ _ => rfl, rfl⟩
theorem lit7 : IsLit C1 7 46 := ⟨by decide, rfl, rfl, fun _ _ => rfl, rfl⟩

theorem step_jump16 : (mk C2 text lim start lastStart 16 pos handed o frames weight none seen none).step = mk C2 text lim start lastStart 35 pos handed o frames weight none (seen.add 15) none := rfl
theorem step_jump21 : (mk C2 text lim start lastStart 21 pos handed o frames weight none seen none).step = mk C2 text lim start lastStart 35 pos handed o frames weight none (seen.add 15) none := rfl
theorem step_jump32 : (mk C2 text lim start lastStart 32 pos handed o frames weight none seen none).step = mk C2 text lim start lastStart 35 pos handed o frames weight none (seen.add 15) none := rfl
theorem step_succ35 : (mk C2 text lim start lastStart 35 pos handed o frames weight none seen none).step = mk C2 text lim start lastStart 35 pos pos o frames weight (some true) (seen.add 1) none := by
  cases o <;> rfl
theorem step_succ9 : (mk C1 text lim start lastStart 9 pos handed o frames weight none seen none).step = mk C1 text lim start lastStart 9 pos pos o frames weight (some true) (seen.add 1) none := by
  cases o <;> rfl
/-- a look that is not to be: entered -/
theorem step_assertNot (hw : weight + 1 ≤ 16777216) : (mk C2 text lim start lastStart 26 pos handed o frames weight none seen none).step =
    mk C2 text lim start lastStart 29 pos pos false ({ wait := .lookNot, pc := 26, pos, outermost := o } :: frames) (weight + 1) none (seen.add 5) none := by
  show (if weight + 1 + 0 > 16777216 then _ else _) = _
  rw [if_neg (by omega)]
  rfl
/-- the look fails, so the way goes on -/
theorem step_lookNot_no {pc : Nat} {p : Nat} {oo : Bool} : (mk C2 text lim start lastStart pc p handed oo ({ wait := .lookNot, pc := 26, pos, outermost := o } :: frames) (weight + 1) (some false) seen none).step =
    mk C2 text lim start lastStart 32 pos handed o frames weight none seen none := rfl
theorem step_yes {code : Array Nat} {pc p q q' : Nat} {oo : Bool} (wt : Sre.Wait) (hw : wt = .nextBranch ∨ wt = .nextStart) : (mk code text lim start lastStart pc p handed oo ({ wait := wt, pc := q, pos := q', outermost := o } :: frames) (weight + 1) (some true) seen none).step =
    mk code text lim start lastStart q q' handed o frames weight (some true) seen none := by
  rcases hw with rfl | rfl <;> rfl
/-- the next way of a branch -/
theorem step_alt18 {pc p : Nat} {oo : Bool} (hw : weight + 1 ≤ 16777216) : (mk C2 text lim start lastStart pc p handed oo ({ wait := .nextBranch, pc := 11, pos, outermost := o } :: frames) (weight + 1) (some false) seen none).step =
    mk C2 text lim start lastStart 19 pos pos o ({ wait := .nextBranch, pc := 18, pos, outermost := o } :: frames) (weight + 1) none seen none := by
  show (if weight + 1 + 0 > 16777216 then _ else _) = _
  rw [if_neg (by omega)]
  rfl
theorem step_alt23 {pc p : Nat} {oo : Bool} (hw : weight + 1 ≤ 16777216) : (mk C2 text lim start lastStart pc p handed oo ({ wait := .nextBranch, pc := 18, pos, outermost := o } :: frames) (weight + 1) (some false) seen none).step =
    mk C2 text lim start lastStart 24 pos pos o ({ wait := .nextBranch, pc := 23, pos, outermost := o } :: frames) (weight + 1) none seen none := by
  show (if weight + 1 + 0 > 16777216 then _ else _) = _
  rw [if_neg (by omega)]
  rfl
theorem step_out {code : Array Nat} {pc : Nat} {yes : Bool} : (mk code text lim start lastStart pc pos handed o [] weight (some yes) seen none).step =
    mk code text lim start lastStart pc pos handed o [] weight (some yes) seen (some (if yes then .matched else .failed)) := rfl
end

section
variable {text : Array Nat} {lim s : Nat} {first : Bool} {seen : Seen}
theorem rs {m m₁ m' : M} {k : Nat} (h : m.outcome.isSome = false) (e : m.step = m₁) (r : Reach m₁ k m') : Reach m (k + 1) m' := .step h (e ▸ r)

/-- where the match that begins at s ends -/
def endAt (text : Array Nat) (lim s : Nat) : Nat := if text.getD s 0 = 13 ∧ s + 1 < lim ∧ text.getD (s + 1) 0 = 10 then s + 2 else s + 1

theorem reach2 (hs : s < lim) (hc : text.getD s 0 = 10 ∨ text.getD s 0 = 13) :
    ∃ k m', k ≤ 20 ∧ Reach (mk C2 text lim s lim 10 s s first [{ wait := .nextStart, pc := 10, pos := s, outermost := first }] 1 none seen none) k m' ∧ m'.outcome = some .matched ∧ m'.start = s ∧ m'.handed = endAt text lim s := by
  by_cases h13 : text.getD s 0 = 13
  · by_cases h2 : s + 1 < lim ∧ text.getD (s + 1) 0 = 10
    · refine ⟨_, _, ?_, rs rfl (step_branch (by omega)) (rs rfl (step_lit_yes lit12 hs h13) (rs rfl (step_lit_yes lit14 h2.1 h2.2) (rs rfl step_jump16 (rs rfl step_succ35
        (rs rfl (step_yes _ (.inl rfl)) (rs rfl (step_yes _ (.inr rfl)) (rs rfl step_out (.done rfl)))))))), rfl, rfl, ?_⟩
      · omega
      · simp [endAt, h13, h2]
    · have h2' : s + 1 < lim → text.getD (s + 1) 0 ≠ 10 := fun a b => h2 ⟨a, b⟩
      refine ⟨_, _, ?_, rs rfl (step_branch (by omega)) (rs rfl (step_lit_yes lit12 hs h13) (rs rfl (step_lit_no lit14 h2') (rs rfl (step_alt18 (by omega)) (rs rfl (step_lit_no lit19 (fun _ => by omega))
        (rs rfl (step_alt23 (by omega)) (rs rfl (step_lit_yes lit24 hs h13) (rs rfl (step_assertNot (by omega)) (rs rfl (step_lit_no lit29 h2') (rs rfl step_lookNot_no (rs rfl step_jump32 (rs rfl step_succ35
        (rs rfl (step_yes _ (.inl rfl)) (rs rfl (step_yes _ (.inr rfl)) (rs rfl step_out (.done rfl))))))))))))))), rfl, rfl, ?_⟩
      · omega
      · simp only [endAt]; rw [if_neg (fun h => h2 h.2)]
  · have h10 : text.getD s 0 = 10 := by omega
    refine ⟨_, _, ?_, rs rfl (step_branch (by omega)) (rs rfl (step_lit_no lit12 (fun _ => h13)) (rs rfl (step_alt18 (by omega)) (rs rfl (step_lit_yes lit19 hs h10) (rs rfl step_jump21 (rs rfl step_succ35
        (rs rfl (step_yes _ (.inl rfl)) (rs rfl (step_yes _ (.inr rfl)) (rs rfl step_out (.done rfl))))))))), rfl, rfl, ?_⟩
    · omega
    · simp only [endAt]; rw [if_neg (fun h => h13 h.1)]

/-- the first place from s on that bears a return or a feed -/
theorem admitted2 (m : M) (hcode : m.code = C2) : ∀ (fuel s : Nat) (seen : Seen), m.lim ≤ s + fuel →
    (∃ s' seen', m.admitted fuel s seen = .ok (some s', seen') ∧ s ≤ s' ∧ s' < m.lim ∧ (m.text.getD s' 0 = 10 ∨ m.text.getD s' 0 = 13) ∧ ∀ j, s ≤ j → j < s' → m.text.getD j 0 ≠ 10 ∧ m.text.getD j 0 ≠ 13) ∨
    (∃ seen', m.admitted fuel s seen = .ok (none, seen') ∧ ∀ j, s ≤ j → j < m.lim → m.text.getD j 0 ≠ 10 ∧ m.text.getD j 0 ≠ 13)
  | 0, s, seen, h => .inr ⟨seen, rfl, fun j h1 h2 => by omega⟩
  | fuel + 1, s, seen, h => by
    by_cases hs : s ≥ m.lim
    · exact .inr ⟨seen, by simp [M.admitted, hs], fun j h1 h2 => by omega⟩
    · have hin : ∀ c seen, ∃ seen', inSet m.code c m.code.size 5 true seen = .ok (c == 10 || c == 13, seen') := fun c seen => by
        rw [hcode]
        by_cases h10 : c = 10
        · subst h10; exact ⟨_, rfl⟩
        · by_cases h13 : c = 13
          · subst h13; exact ⟨_, rfl⟩
          · have e10 : (c == 10) = false := by simp [h10]
            have e13 : (c == 13) = false := by simp [h13]
            refine ⟨((seen.add 16).add 16).add 0, ?_⟩
            show (if (c == 10) = true then _ else if (c == 13) = true then _ else _) = _
            rw [e10, e13]
            rfl
      obtain ⟨seen', he⟩ := hin (m.text.getD s 0) seen
      by_cases hc : m.text.getD s 0 = 10 ∨ m.text.getD s 0 = 13
      · have hb : (m.text.getD s 0 == 10 || m.text.getD s 0 == 13) = true := by rcases hc with h | h <;> simp [h]
        refine .inl ⟨s, seen', ?_, Nat.le_refl _, by omega, hc, fun j h1 h2 => by omega⟩
        rw [hb] at he
        simp only [M.admitted, hs, if_false, he]
      · have hb : (m.text.getD s 0 == 10 || m.text.getD s 0 == 13) = false := by
          rw [Bool.or_eq_false_iff]
          exact ⟨by simpa using fun h => hc (.inl h), by simpa using fun h => hc (.inr h)⟩
        rw [hb] at he
        have e : m.admitted (fuel + 1) s seen = m.admitted fuel (s + 1) seen' := by simp only [M.admitted, hs, if_false, he]
        rw [e]
        rcases admitted2 m hcode fuel (s + 1) seen' (by omega) with ⟨s', sn, h1, h2, h3, h4, h5⟩ | ⟨sn, h1, h2⟩
        · refine .inl ⟨s', sn, h1, by omega, h3, h4, fun j a b => ?_⟩
          rcases Nat.eq_or_lt_of_le a with rfl | a
          · omega
          · exact h5 j a b
        · refine .inr ⟨sn, h1, fun j a b => ?_⟩
          rcases Nat.eq_or_lt_of_le a with rfl | a
          · omega
          · exact h2 j a b


theorem reach_fail (m : M) (ha : m.answer = some false) (hf : m.frames = []) (ho : m.outcome = none) : Reach m 1 { m with outcome := some .failed } :=
  rs (by simp [ho]) (by simp [M.step, ho, ha, hf]) (.done rfl)

theorem fs2 (pos lim : Nat) (must : Bool) : forSearch C2 text 0 pos lim must =
    if (decide (pos > lim) || decide (lim - pos < 1)) = true then M.say { code := C2, text, lim, start := pos, pc := 10, pos, handed := pos, marks := #[], mustAdvance := must, seen := ({} : Seen).add 14 } false
    else M.attemptFrom { code := C2, text, lim, start := pos, lastStart := lim, pc := 10, pos, handed := pos, marks := #[], mustAdvance := must, seen := ({} : Seen).add 14 } pos true := rfl

/-- the search by the ends' pattern -/
theorem search2 (pos : Nat) (hp : pos ≤ text.size) (must : Bool) :
    (∃ s k m', pos ≤ s ∧ s < text.size ∧ (text.getD s 0 = 10 ∨ text.getD s 0 = 13) ∧ (∀ j, pos ≤ j → j < s → text.getD j 0 ≠ 10 ∧ text.getD j 0 ≠ 13) ∧ k ≤ 20 ∧ Reach (forSearch C2 text 0 pos text.size must) k m' ∧ m'.outcome = some .matched ∧ m'.start = s ∧ m'.handed = endAt text text.size s) ∨
    (∃ k m', (∀ j, pos ≤ j → j < text.size → text.getD j 0 ≠ 10 ∧ text.getD j 0 ≠ 13) ∧ k ≤ 20 ∧ Reach (forSearch C2 text 0 pos text.size must) k m' ∧ m'.outcome = some .failed) := by
  rw [fs2]
  by_cases h0 : pos = text.size
  · subst h0
    rw [if_pos (by simp)]
    exact .inr ⟨1, _, fun j a b => by omega, by omega, reach_fail _ rfl rfl rfl, rfl⟩
  · rw [if_neg (by simp; omega)]
    unfold M.attemptFrom
    generalize hm : ({ code := C2, text, lim := text.size, start := pos, lastStart := text.size, pc := 10, pos, handed := pos, marks := #[], mustAdvance := must, seen := ({} : Seen).add 14 } : M) = m
    have hcode : m.code = C2 := by rw [← hm]
    have hfs : m.hasFirstSet = true := by rw [← hm]; rfl
    rw [hfs]
    simp only [Bool.not_true, Bool.false_eq_true, if_false]
    rcases admitted2 m hcode (m.lim + 1 - pos) pos m.seen (by omega) with ⟨s, sn, h1, h2, h3, h4, h5⟩ | ⟨sn, h1, h2⟩
    · rw [h1]
      subst hm
      obtain ⟨k, m', hk, hr, ho, hs, hh⟩ := reach2 (text := text) (lim := text.size) (s := s) (first := true) (seen := sn) h3 h4
      exact .inl ⟨s, k, m', h2, h3, h4, h5, hk, hr, ho, hs, hh⟩
    · rw [h1]
      subst hm
      exact .inr ⟨1, _, h2, by omega, reach_fail _ rfl rfl rfl, rfl⟩

/-- a row begins at p -/
def bol (text : Array Nat) (p : Nat) : Bool := p == 0 || text.getD (p - 1) 0 == 10

theorem step_at_yes {lastStart start handed weight : Nat} {o : Bool} {frames : List Sre.Frame} (h : bol text s = true) : (mk C1 text lim start lastStart 5 s handed o frames weight none seen none).step =
    mk C1 text lim start lastStart 7 s handed o frames weight none ((seen.add 6).add 44) none := by
  show (if bol text s = true then _ else _) = _
  rw [if_pos h]; rfl
theorem step_at_no {lastStart start handed weight : Nat} {o : Bool} {frames : List Sre.Frame} (h : bol text s = false) : (mk C1 text lim start lastStart 5 s handed o frames weight none seen none).step =
    mk C1 text lim start lastStart 5 s handed o frames weight (some false) ((seen.add 6).add 44) none := by
  show (if bol text s = true then _ else _) = _
  rw [if_neg (by rw [h]; decide)]; rfl
theorem step_next {pc p start handed : Nat} {oo o : Bool} (h : s < lim) : (mk C1 text lim start lim pc p handed oo [{ wait := .nextStart, pc := 5, pos := s, outermost := o }] 1 (some false) seen none).step =
    mk C1 text lim (s + 1) lim 5 (s + 1) (s + 1) false [{ wait := .nextStart, pc := 5, pos := s + 1, outermost := false }] 1 none seen none := by
  show (if s < lim then _ else _) = _
  rw [if_pos h]; rfl
theorem step_last {pc p start handed : Nat} {oo o : Bool} (h : ¬ s < lim) : (mk C1 text lim start lim pc p handed oo [{ wait := .nextStart, pc := 5, pos := s, outermost := o }] 1 (some false) seen none).step =
    mk C1 text lim start lim 5 s handed o [] 0 (some false) seen none := by
  show (if s < lim then _ else _) = _
  rw [if_neg h]; rfl

theorem reach1 : ∀ (d s : Nat) (o : Bool) (seen : Seen), s + d = lim →
    (∃ s' k m', s ≤ s' ∧ s' < lim ∧ bol text s' = true ∧ text.getD s' 0 = 46 ∧ (∀ j, s ≤ j → j < s' → ¬ (bol text j = true ∧ text.getD j 0 = 46)) ∧ k ≤ 3 * d + 6 ∧
      Reach (mk C1 text lim s lim 5 s s o [{ wait := .nextStart, pc := 5, pos := s, outermost := o }] 1 none seen none) k m' ∧ m'.outcome = some .matched ∧ m'.start = s' ∧ m'.handed = s' + 1) ∨
    (∃ k m', (∀ j, s ≤ j → j < lim → ¬ (bol text j = true ∧ text.getD j 0 = 46)) ∧ k ≤ 3 * d + 6 ∧
      Reach (mk C1 text lim s lim 5 s s o [{ wait := .nextStart, pc := 5, pos := s, outermost := o }] 1 none seen none) k m' ∧ m'.outcome = some .failed)
  | 0, s, o, seen, hd => by
    have hs : ¬ s < lim := by omega
    refine .inr ?_
    cases hb : bol text s with
    | true => exact ⟨_, _, fun j a b => by omega, by omega, rs rfl (step_at_yes hb) (rs rfl (step_lit_no lit7 (fun h => absurd h hs)) (rs rfl (step_last hs) (rs rfl step_out (.done rfl)))), rfl⟩
    | false => exact ⟨_, _, fun j a b => by omega, by omega, rs rfl (step_at_no hb) (rs rfl (step_last hs) (rs rfl step_out (.done rfl))), rfl⟩
  | d + 1, s, o, seen, hd => by
    have hs : s < lim := by omega
    by_cases hm : bol text s = true ∧ text.getD s 0 = 46
    · exact .inl ⟨s, _, _, Nat.le_refl _, hs, hm.1, hm.2, fun j a b => by omega, by omega, rs rfl (step_at_yes hm.1) (rs rfl (step_lit_yes lit7 hs hm.2) (rs rfl step_succ9 (rs rfl (step_yes _ (.inr rfl)) (rs rfl step_out (.done rfl))))), rfl, rfl, rfl⟩
    · have go : ∃ i sn, i ≤ 3 ∧ ∀ {k m'}, Reach (mk C1 text lim (s + 1) lim 5 (s + 1) (s + 1) false [{ wait := .nextStart, pc := 5, pos := s + 1, outermost := false }] 1 none sn none) k m' →
          Reach (mk C1 text lim s lim 5 s s o [{ wait := .nextStart, pc := 5, pos := s, outermost := o }] 1 none seen none) (k + i) m' := by
        cases hb : bol text s with
        | true => exact ⟨3, _, by omega, fun r => rs rfl (step_at_yes hb) (rs rfl (step_lit_no lit7 (fun _ h => hm ⟨hb, h⟩)) (rs rfl (step_next hs) r))⟩
        | false => exact ⟨2, _, by omega, fun r => rs rfl (step_at_no hb) (rs rfl (step_next hs) r)⟩
      obtain ⟨i, sn, hi, go⟩ := go
      rcases reach1 d (s + 1) false sn (by omega) with ⟨s', k, m', h1, h2, h3, h4, h5, h6, h7, h8⟩ | ⟨k, m', h1, h2, h3, h4⟩
      · refine .inl ⟨s', k + i, m', by omega, h2, h3, h4, fun j a b => ?_, by omega, go h7, h8⟩
        rcases Nat.eq_or_lt_of_le a with rfl | a
        · exact hm
        · exact h5 j a b
      · refine .inr ⟨k + i, m', fun j a b => ?_, by omega, go h3, h4⟩
        rcases Nat.eq_or_lt_of_le a with rfl | a
        · exact hm
        · exact h1 j a b

theorem fs1 (pos lim : Nat) : forSearch C1 text 0 pos lim false =
    if (decide (pos > lim) || decide (lim - pos < 1)) = true then M.say { code := C1, text, lim, start := pos, pc := 5, pos, handed := pos, marks := #[], mustAdvance := false, seen := ({} : Seen).add 14 } false
    else mk C1 text lim pos lim 5 pos pos true [{ wait := .nextStart, pc := 5, pos, outermost := true }] 1 none (({} : Seen).add 14) none := rfl

/-- the search by the dots' pattern -/
theorem search1 (pos : Nat) (hp : pos ≤ text.size) :
    (∃ s k m', pos ≤ s ∧ s < text.size ∧ bol text s = true ∧ text.getD s 0 = 46 ∧ (∀ j, pos ≤ j → j < s → ¬ (bol text j = true ∧ text.getD j 0 = 46)) ∧ k ≤ 3 * text.size + 6 ∧ Reach (forSearch C1 text 0 pos text.size false) k m' ∧ m'.outcome = some .matched ∧ m'.start = s ∧ m'.handed = s + 1) ∨
    (∃ k m', (∀ j, pos ≤ j → j < text.size → ¬ (bol text j = true ∧ text.getD j 0 = 46)) ∧ k ≤ 3 * text.size + 6 ∧ Reach (forSearch C1 text 0 pos text.size false) k m' ∧ m'.outcome = some .failed) := by
  rw [fs1]
  by_cases h0 : pos = text.size
  · subst h0
    rw [if_pos (by simp)]
    exact .inr ⟨1, _, fun j a b => by omega, by omega, reach_fail _ rfl rfl rfl, rfl⟩
  · rw [if_neg (by simp; omega)]
    rcases reach1 (text := text) (lim := text.size) (text.size - pos) pos true (({} : Seen).add 14) (by omega) with ⟨s', k, m', h1, h2, h3, h4, h5, h6, h7, h8⟩ | ⟨k, m', h1, h2, h3, h4⟩
    · exact .inl ⟨s', k, m', h1, h2, h3, h4, h5, by omega, h7, h8⟩
    · exact .inr ⟨k, m', h1, by omega, h3, h4⟩
end
end Mine
end
-- part Hd
section
open PySem PySem.W PyProof.Rows
set_option Elab.async false
set_option maxRecDepth 100000
set_option maxHeartbeats 8000000
namespace Mine
open_top hd for PySem.Challenge.rw_ph0006_01
end Mine
end
-- part B0
section
local macro_rules | `(tactic| walk_at "pad") => `(tactic| skip)
local macro_rules | `(tactic| walk_at "pad") => `(tactic| skip)
local macro_rules | `(tactic| walk_at "pad") => `(tactic| skip)
local macro_rules | `(tactic| walk_at "pad") => `(tactic| skip)
local macro_rules | `(tactic| walk_at "pad") => `(tactic| skip)
local macro_rules | `(tactic| walk_at "pad") => `(tactic| skip)
local macro_rules | `(tactic| walk_at "pad") => `(tactic| skip)
local macro_rules | `(tactic| walk_at "pad") => `(tactic| skip)
local macro_rules | `(tactic| walk_at "pad") => `(tactic| skip)
local macro_rules | `(tactic| walk_at "pad") => `(tactic| skip)
local macro_rules | `(tactic| walk_at "pad") => `(tactic| skip)
local macro_rules | `(tactic| walk_at "pad") => `(tactic| skip)
local macro_rules | `(tactic| walk_at "pad") => `(tactic| skip)
local macro_rules | `(tactic| walk_at "pad") => `(tactic| skip)
open PySem PySem.W PyProof.Rows
set_option Elab.async false
set_option maxRecDepth 100000
set_option maxHeartbeats 4000000
namespace Mine

noncomputable abbrev KK (w : World) : Frag := hd.heap_39 w.params
abbrev PP : Program := PySem.Challenge.rw_ph0006_01.row.prog

/-- the ground: the written part and the names of the top -/
structure Gd (w : World) (h : Heap) : Prop where
  X : (KK w).In h
  T : ∃ p loose mg mb, TopRead p loose mg mb h

theorem Gd.keeps {w : World} {h h' : Heap} (G : Gd w h) (k : ∀ b o, h.get? b = some o → h'.get? b = some o) : Gd w h' :=
  ⟨G.X.keeps k, by obtain ⟨p, l, mg, mb, T⟩ := G.T; exact ⟨p, l, mg, mb, T.keeps k⟩⟩
theorem Gd.lim {w : World} {h : Heap} (G : Gd w h) : h.NoLimit := by obtain ⟨p, l, mg, mb, T⟩ := G.T; exact T.nolimit

theorem Keeps.refl (s : Shared) : Keeps s s := ⟨s.heap, s.toks, rfl, fun _ _ e => e⟩
theorem Keeps.trans {s s' s'' : Shared} (a : Keeps s s') (b : Keeps s' s'') : Keeps s s'' := by
  obtain ⟨h1, t1, rfl, k1⟩ := a
  obtain ⟨h2, t2, rfl, k2⟩ := b
  exact ⟨h2, t2, rfl, fun b o e => k2 b o (k1 b o e)⟩

/-- what a call hands back: a value of which P holds, all that stood kept -/
structure Ret (P : Value → Prop) (s : Shared) (v : Value) (s' : Shared) : Prop where
  val : P v
  keep : Keeps s s'

section
variable {w : World} {A : Around} {E : Value → Shared → Prop} {s : Shared} {name qual : Str} {params : Arguments} {body : List Stmt} {scope : Scope} {dV kV doc pm cdv ct oc : Value} {an od : Option Addr} {osl : Array (Option Value)} {f : Addr} {args : List Value} {binds : List (Str × Value)} {Q : Value → Shared → Prop}
theorem enter (G : Gd w s.heap) (hroom : A.depth < recursionLimit)
    (ho : (KK w).lookup f = some ⟨oc, od, .func (fnX name qual params body scope [] dV kV doc pm an cdv ct), osl⟩) (hcd : codeIn (KK w) cdv qual = true)
    (hbind : bindArgs (fnX name qual params body scope [] dV kV doc pm an cdv ct) ⟨args, []⟩ = pure binds) (hloc : ∀ y ∈ binds, scope.names.lookup y.1 = some .local)
    (hcell : ∀ x ∈ scope.names, x.2 ≠ .cell) (hco : scope.isCoroutine = false) (hgen : scope.isGenerator = false) (hk : scope.kind = .function)
    (h : ∀ h₁, Fr s.heap s.heap.objs.size h₁ (fun y => binds.reverse.lookup y) →
      wpAny (model PP w) (A.deeper (envX qual scope s.heap.objs.size f cdv [])) (execs body (envX qual scope s.heap.objs.size f cdv []))
        (fun fl s' => Q (match fl with | .ret v => v | _ => .none) s') (fun _ _ => False) { s with heap := h₁, toks := s.toks + binds.length }) :
    wpAny (model PP w) A (call (.ref f) args) Q E s := by
  refine wpAny_call (codeAny_call_def (fd := fnX name qual params body scope [] dV kV doc pm an cdv ct) (body := body) (binds := binds) hroom (G.X _ _ ho) rfl G.lim (codeRec_of G.X hcd) rfl (BindsTo.of_eq hbind) hcell hloc (fun h₁ hns hk₁ => ?_) hco hgen hk)
  exact wpAny_mono (h h₁ ⟨hns, hk₁, Nat.le_refl _⟩) (fun _ _ x => x) (fun _ _ x => x.elim)
end

section
variable {w : World} {A : Around} {E : Value → Shared → Prop} {s : Shared} {env : Env} {h₀ : Heap} {L : Addr} {m : Str → Option Value} {x : Str} {pos : Pos} {v : Value} {Q : Value → Shared → Prop}
theorem nmL {M : Model} (F : Fr h₀ env.locals s.heap m) (hv : m x = some v) (h : Q v s)
    (hk : env.scope.kind = .function := by rfl) (hx : env.kindOf x = some .local := by rfl) (hd : (x == ("__debug__" : Str)) = false := by decide) :
    wpAny M A (eval (.Name x pos) env) Q E s := wpAny_Name (wpAny_loadName_local hk hx F.ns hv h) hd
theorem nmG (G : Gd w h₀) (F : Fr h₀ L s.heap m) (e : nsIn (KK w) mainGlobals x = some (some v)) (h : Q v s)
    (hk : env.scope.kind = .function := by rfl) (hx : env.kindOf x = some .globalImplicit := by rfl) (hg : env.globals = mainGlobals := by rfl) (hd : (x == ("__debug__" : Str)) = false := by decide) :
    wpAny (model PP w) A (eval (.Name x pos) env) Q E s := by
  obtain ⟨X, p, l, mg, mb, T⟩ := G
  exact Calls.Name_function_global hk hx (Calls.loadGlobal_global (by rw [hg]; exact T.g.keeps F.keep) (mg_of X T.g e) h) hd
theorem nmB (G : Gd w h₀) (F : Fr h₀ L s.heap m) (e : nsIn (KK w) mainGlobals x = some none) (hv : bootBuiltins x = some v) (h : Q v s)
    (hn : x ≠ "__name__" := by decide) (hk : env.scope.kind = .function := by rfl) (hx : env.kindOf x = some .globalImplicit := by rfl) (hg : env.globals = mainGlobals := by rfl) (hb : env.builtins = builtinsNs := by rfl) (hd : (x == ("__debug__" : Str)) = false := by decide) :
    wpAny (model PP w) A (eval (.Name x pos) env) Q E s := by
  obtain ⟨X, p, l, mg, mb, T⟩ := G
  exact Calls.Name_function_global hk hx (Calls.loadGlobal_builtin (by rw [hg]; exact T.g.keeps F.keep) (mg_none_of X T.g e) (by rw [hb]; exact T.b.keeps F.keep) ((T.builtins x hn).trans hv) h) hd
end

section
variable (w : World)
theorem gl_twin_re_1 : nsIn (KK w) mainGlobals "_twin_re_1" = some (some (.ref 36)) := by kernel_rfl
theorem gl_twin_re_2 : nsIn (KK w) mainGlobals "_twin_re_2" = some (some (.ref 41)) := by kernel_rfl
theorem gl_CRLF : nsIn (KK w) mainGlobals "CRLF" = some (some (.str (Str.ofString "\r\n") 342)) := by kernel_rfl
theorem gl_quotedata : nsIn (KK w) mainGlobals "quotedata" = some (some (.ref 48)) := by kernel_rfl
theorem gl_fix_eols : nsIn (KK w) mainGlobals "_fix_eols" = some (some (.ref 55)) := by kernel_rfl
theorem gl_parse_varint : nsIn (KK w) mainGlobals "_parse_varint" = some (some (.ref 62)) := by kernel_rfl
theorem gl_law_numbers : nsIn (KK w) mainGlobals "_law_numbers" = some (some (.ref 69)) := by kernel_rfl
theorem gl_law_word : nsIn (KK w) mainGlobals "_law_word" = some (some (.ref 76)) := by kernel_rfl
theorem gl_law_spelled : nsIn (KK w) mainGlobals "_law_spelled" = some (some (.ref 83)) := by kernel_rfl
theorem gl_law_mails : nsIn (KK w) mainGlobals "_law_mails" = some (some (.ref 88)) := by kernel_rfl
theorem gl_law_sent : nsIn (KK w) mainGlobals "_law_sent" = some (some (.ref 93)) := by kernel_rfl
theorem gl_law_octets : nsIn (KK w) mainGlobals "_law_octets" = some (some (.ref 98)) := by kernel_rfl
theorem gl_law_value : nsIn (KK w) mainGlobals "_law_value" = some (some (.ref 103)) := by kernel_rfl
theorem gl_law_primes : nsIn (KK w) mainGlobals "_law_primes" = some (some (.ref 108)) := by kernel_rfl
theorem gb_next : nsIn (KK w) mainGlobals "next" = some none := by kernel_rfl
theorem gb_enumerate : nsIn (KK w) mainGlobals "enumerate" = some none := by kernel_rfl
theorem gb_chr : nsIn (KK w) mainGlobals "chr" = some none := by kernel_rfl
theorem gb_ord : nsIn (KK w) mainGlobals "ord" = some none := by kernel_rfl
theorem gb_len : nsIn (KK w) mainGlobals "len" = some none := by kernel_rfl
theorem gb_sum : nsIn (KK w) mainGlobals "sum" = some none := by kernel_rfl
theorem gb_range : nsIn (KK w) mainGlobals "range" = some none := by kernel_rfl
theorem gb_iter : nsIn (KK w) mainGlobals "iter" = some none := by kernel_rfl
theorem gb_StopIteration : nsIn (KK w) mainGlobals "StopIteration" = some none := by kernel_rfl
end

end Mine
end
-- part B1
section
open PySem PySem.W PyProof.Rows
set_option Elab.async false
set_option maxRecDepth 100000
set_option maxHeartbeats 4000000
namespace Mine
def S (l : List Nat) : Str := ⟨l.toArray⟩

theorem Keeps.of_fr {s : Shared} {L : Addr} {h' : Heap} {m : Str → Option Value} {tk : Nat} (F : Fr s.heap L h' m) : Keeps s { s with heap := h', toks := tk } := ⟨h', tk, rfl, F.keep⟩
theorem fr_up {h₀ h h' : Heap} {L : Addr} {m : Str → Option Value} (F : Fr h₀ L h m) (k : ∀ b o, h.get? b = some o → h'.get? b = some o) : Fr h₀ L h' m :=
  ⟨F.ns.keeps k, fun b o e => k b o (F.keep b o e), F.above⟩
theorem news_up {h₀ h h' : Heap} {L : Addr} {news : List (Addr × Obj)} (N : News h₀ L h news) (k : ∀ b o, h.get? b = some o → h'.get? b = some o) : News h₀ L h' news :=
  fun p hp => ⟨k _ _ (N p hp).1, (N p hp).2⟩
theorem news_push {h₀ h : Heap} {L : Addr} {news : List (Addr × Obj)} (N : News h₀ L h news) (o : Obj) : News h₀ L (h.push o) news :=
  fun p hp => ⟨Heap.get?_push_of_some _ (N p hp).1, (N p hp).2⟩
theorem isList_up {h h' : Heap} {a : Addr} {items : Array Value} (l : h.IsList a items) (k : ∀ b o, h.get? b = some o → h'.get? b = some o) : h'.IsList a items :=
  let ⟨o, ho, r⟩ := l; ⟨o, k _ _ ho, r⟩
theorem fresh_none {h₀ h : Heap} {L : Addr} {m : Str → Option Value} (F : Fr h₀ L h m) : h₀.get? h.objs.size = none := by
  cases e : h₀.get? h.objs.size with
  | none => rfl
  | some o => exact absurd (Heap.lt_size (F.keep _ _ e)) (Nat.lt_irrefl _)
theorem lt_L {h₀ h : Heap} {L : Addr} {m : Str → Option Value} (F : Fr h₀ L h m) : L < h.objs.size := by
  obtain ⟨o, _, _, ho, _⟩ := F.ns
  exact Heap.lt_size ho

section
variable {w : World} {A : Around} {E : Value → Shared → Prop} {s : Shared} {env : Env} {h₀ : Heap} {m : Str → Option Value} {x : Str} {body : List Stmt} {Q : Flow → Shared → Prop} {news : List (Addr × Obj)} {a : Addr} {items : Array Value}

theorem for_list (hh : A.handled = none) (F : Fr h₀ env.locals s.heap m) (N : News h₀ env.locals s.heap news) (hl : s.heap.IsList a items) (haL : a ≠ env.locals)
    (J : Nat → (Str → Option Value) → Prop) (h0 : J 0 m)
    (step : ∀ i v m₁ s₁ own, items[i]? = some v → J i m₁ → Fr h₀ env.locals s₁.heap (fun y => if y = x then some v else m₁ y) → News h₀ env.locals s₁.heap (own ++ news) →
      wpAny (model PP w) A (execs body env) (LoopStep h₀ env.locals (own ++ news) (J (i + 1)) s₁) E s₁)
    (hQ : ∀ h' tk m', Fr h₀ env.locals h' m' → News h₀ env.locals h' news → J items.size m' → Q .next { s with heap := h', toks := tk }) :
    wpAny (model PP w) A (pyIter (.ref a)) (fun it s₂ => LoopAt PP w A h₀ env x body Q E it s₂) E s := by
  have haI : a ≠ s.heap.objs.size := by obtain ⟨o, ho, _⟩ := hl; exact Nat.ne_of_lt (Heap.lt_size ho)
  refine wpAny_pyIter_list hl ⟨s.heap.objs.size, _, _, _, _, _, m, news, J, rfl, Walks.list hh s.heap.objs.size a haI items, ?_, ?_, ?_, ?_, F.push _, news_push N _, h0, ?_, ?_⟩
  · intro hm
    simp only [List.mem_cons, List.not_mem_nil, or_false] at hm
    rcases hm with q | q
    · exact Nat.ne_of_lt (lt_L F) q
    · exact haL q.symm
  · intro b hb
    simp only [List.mem_cons, List.not_mem_nil, or_false] at hb
    subst hb
    exact fresh_none F
  · intro p hp hb
    simp only [List.mem_cons, List.not_mem_nil, or_false] at hb
    exact Nat.ne_of_lt (Heap.lt_size (N p hp).1) hb
  · exact ⟨⟨_, Heap.get?_push_size _ rfl, rfl, rfl⟩, isList_up hl fun b o e => Heap.get?_push_of_some _ e⟩
  · intro i v m₁ s₁ own _ hv hJ F₁ N₁
    exact step i v m₁ s₁ own hv hJ F₁ N₁
  · intro h' tk m' F' N' hJ
    exact hQ h' tk m' F' N' hJ

theorem for_str {y : Str} {t : Tok} (hh : A.handled = none) (F : Fr h₀ env.locals s.heap m) (N : News h₀ env.locals s.heap news)
    (J : Nat → (Str → Option Value) → Prop) (h0 : J 0 m)
    (step : ∀ i c u m₁ s₁ own, y.cps[i]? = some c → J i m₁ → Fr h₀ env.locals s₁.heap (fun z => if z = x then some (.str ⟨#[c]⟩ u) else m₁ z) → News h₀ env.locals s₁.heap (own ++ news) →
      wpAny (model PP w) A (execs body env) (LoopStep h₀ env.locals (own ++ news) (J (i + 1)) s₁) E s₁)
    (hQ : ∀ h' tk m', Fr h₀ env.locals h' m' → News h₀ env.locals h' news → J y.cps.size m' → Q .next { s with heap := h', toks := tk }) :
    wpAny (model PP w) A (pyIter (.str y t)) (fun it s₂ => LoopAt PP w A h₀ env x body Q E it s₂) E s := by
  refine wpAny_pyIter_str fun o St hW hst => ⟨s.heap.objs.size, _, _, _, _, _, m, news, J, rfl, hW A hh, ?_, ?_, ?_, hst, F.push _, news_push N _, h0, ?_, ?_⟩
  · intro hm
    simp only [List.mem_cons, List.not_mem_nil, or_false] at hm
    exact Nat.ne_of_lt (lt_L F) hm
  · intro b hb
    simp only [List.mem_cons, List.not_mem_nil, or_false] at hb
    subst hb
    exact fresh_none F
  · intro p hp hb
    simp only [List.mem_cons, List.not_mem_nil, or_false] at hb
    exact Nat.ne_of_lt (Heap.lt_size (N p hp).1) hb
  · intro i v m₁ s₁ own _ hv hJ F₁ N₁
    obtain ⟨c, u, hc, rfl⟩ := hv
    exact step i c u m₁ s₁ own hc hJ F₁ N₁
  · intro h' tk m' F' N' hJ
    exact hQ h' tk m' F' N' hJ
end

theorem item_list {w : World} {A : Around} {E : Value → Shared → Prop} {s : Shared} {value slice : PySem.Expr} {l : Addr} {items : Array Value} {k : Int} {u : Tok} {v : Value} {Q : Value → Shared → Prop}
    (hl : s.heap.IsList l items) (h0 : 0 ≤ k) (hhi : k < 2 ^ 63) (hx : items[k.toNat]? = some v) (h : Q v s)
    (hs : subscripted slice false (.ref l) (.int k u) = operate [.ref l, .int k u] (getItem (.ref l) (.int k u)) := by with_unfolding_all rfl) :
    wpAny (model PP w) A (subscriptTail value slice (.ref l) (.int k u)) Q E s :=
  tail_any hl.typeIs slot_list_getitem.lookup (wpAny_getItem_list hl h0 hhi hx h) hs


theorem S_append (a b : List Nat) : S a ++ S b = S (a ++ b) := by
  show Str.mk (a.toArray ++ b.toArray) = Str.mk (a ++ b).toArray
  simp
theorem S_length (a : List Nat) : (S a).length = a.length := by simp [S, Str.length]
theorem item_list' {w : World} {A : Around} {E : Value → Shared → Prop} {s : Shared} {value slice : PySem.Expr} {l : Addr} {items : Array Value} {k : Int} {u : Tok} {Q : Value → Shared → Prop} (P : Value → Prop)
    (hl : s.heap.IsList l items) (h0 : 0 ≤ k) (hhi : k < 2 ^ 63) (hx : ∃ v, items[k.toNat]? = some v ∧ P v) (h : ∀ v, P v → Q v s)
    (hs : subscripted slice false (.ref l) (.int k u) = operate [.ref l, .int k u] (getItem (.ref l) (.int k u)) := by with_unfolding_all rfl) :
    wpAny (model PP w) A (subscriptTail value slice (.ref l) (.int k u)) Q E s := by
  obtain ⟨v, hv, hp⟩ := hx
  exact item_list hl h0 hhi hv (h v hp) hs


/-- what a call hands back: a new list of values of which P holds -/
structure RetL (P : List Value → Prop) (s : Shared) (v : Value) (s' : Shared) : Prop where
  val : ∃ a o n, ∃ items : List Value, v = .ref a ∧ s'.heap.get? a = some o ∧ o.cls = .type "list" ∧ o.data = .seq items.toArray n ∧ s.heap.get? a = none ∧ P items
  keep : Keeps s s'

theorem retL_of {P : List Value → Prop} {s : Shared} {L : Addr} {h' : Heap} {m : Str → Option Value} {news : List (Addr × Obj)} {tk : Nat} {a : Addr} {o : Obj} {n : Nat} {items : List Value} (F : Fr s.heap L h' m) (N : News s.heap L h' news)
    (hm : (a, o) ∈ news) (hP : P items) (hc : o.cls = .type "list" := by rfl) (hd : o.data = .seq items.toArray n := by rfl) : RetL P s (.ref a) { s with heap := h', toks := tk } :=
  ⟨⟨a, o, n, items, rfl, (N _ hm).1, hc, hd, (N _ hm).2.2, hP⟩, Keeps.of_fr F⟩

/-- a call of one of the text's functions -/
theorem news_add {h₀ h h' : Heap} {L a : Addr} {o : Obj} {m : Str → Option Value} {news : List (Addr × Obj)} (F : Fr h₀ L h m) (N : News h₀ L h news) (k : ∀ b o, h.get? b = some o → h'.get? b = some o) (ha : h'.get? a = some o) (hn : h.get? a = none) :
    News h₀ L h' ((a, o) :: news) := fun p hp => by
  rcases List.mem_cons.mp hp with rfl | hp
  · refine ⟨ha, fun q => ?_, ?_⟩
    · obtain ⟨oL, _, _, ho, _⟩ := F.ns
      have q' : a = L := q
      rw [← q', hn] at ho; cases ho
    · cases q : h₀.get? a with
      | none => rfl
      | some o' => rw [F.keep a o' q] at hn; cases hn
  · exact news_up N k p hp

theorem keeps_tk (s : Shared) (tk : Nat) : Keeps s { s with toks := tk } := ⟨s.heap, tk, rfl, fun _ _ e => e⟩
end Mine
end
-- part F1
section
local macro_rules | `(tactic| walk_at "pad") => `(tactic| skip)
local macro_rules | `(tactic| walk_at "pad") => `(tactic| skip)
local macro_rules | `(tactic| walk_at "pad") => `(tactic| skip)
local macro_rules | `(tactic| walk_at "pad") => `(tactic| skip)
local macro_rules | `(tactic| walk_at "pad") => `(tactic| skip)
local macro_rules | `(tactic| walk_at "pad") => `(tactic| skip)
local macro_rules | `(tactic| walk_at "pad") => `(tactic| skip)
local macro_rules | `(tactic| walk_at "pad") => `(tactic| skip)
local macro_rules | `(tactic| walk_at "pad") => `(tactic| skip)
local macro_rules | `(tactic| walk_at "pad") => `(tactic| skip)
local macro_rules | `(tactic| walk_at "pad") => `(tactic| skip)
local macro_rules | `(tactic| walk_at "pad") => `(tactic| skip)
local macro_rules | `(tactic| walk_at "pad") => `(tactic| skip)
local macro_rules | `(tactic| walk_at "pad") => `(tactic| skip)
open PySem PySem.W PyProof.Rows
set_option Elab.async false
set_option maxRecDepth 100000
set_option maxHeartbeats 4000000
set_option pp.deepTerms false
set_option pp.deepTerms.threshold 5
set_option pp.maxSteps 20000
set_option linter.unusedSimpArgs false
set_option linter.unusedVariables false
namespace Mine
local macro_rules | `(tactic| walk_at "eval Name") => `(tactic| first
  | refine nmL (by assumption) (by first | rfl | assumption) ?_
  | refine nmG (by assumption) (by assumption) (by first | exact gl_twin_re_1 _ | exact gl_twin_re_2 _ | exact gl_CRLF _ | exact gl_quotedata _ | exact gl_fix_eols _ | exact gl_parse_varint _ | exact gl_law_numbers _ | exact gl_law_word _ | exact gl_law_spelled _ | exact gl_law_mails _ | exact gl_law_sent _ | exact gl_law_octets _ | exact gl_law_value _ | exact gl_law_primes _) ?_
  | refine nmB (by assumption) (by assumption) (by first | exact gb_next _ | exact gb_enumerate _ | exact gb_chr _ | exact gb_ord _ | exact gb_len _ | exact gb_sum _ | exact gb_range _ | exact gb_iter _ | exact gb_StopIteration _) (by boot_fast) ?_)
local macro_rules | `(tactic| walk_at "storeName") => `(tactic| (refine storeX_L (by assumption) (by assumption) ?_; intro h' F' N'; dsimp only at F' N' ⊢))

local macro_rules | `(tactic| walk_at "loadName") => `(tactic| refine wpAny_loadName_local rfl rfl (Fr.ns (by assumption)) (by first | rfl | assumption) ?_)


theorem word_spec {w : World} {A : Around} {E : Value → Shared → Prop} {s : Shared} {a : Addr} {vs : List Value} {ns : List Int} (G : Gd w s.heap) (hA : A.depth < recursionLimit) (hh : A.handled = none)
    (hl : s.heap.IsList a vs.toArray) (hi : IntsAre vs ns) (hn : ns.length ≤ 5) :
    wpAny (model PP w) A (call (.ref 76) [.ref a]) (Ret (fun v => ∃ l t', v = .str (S l) t' ∧ l ≠ [] ∧ l.length ≤ 5 ∧ ∀ c ∈ l, c < 64 ∧ c ≠ 13) s) E s := by
  refine enter G hA (by rfl) (by rfl) (binds := [("numbers", .ref a)]) (by rfl) (locs rfl) (by decide) rfl rfl rfl fun h₁ F => ?_
  have N : News s.heap s.heap.objs.size h₁ [] := News.nil
  have haL : a ≠ s.heap.objs.size := by obtain ⟨o, ho, _⟩ := hl; exact Nat.ne_of_lt (Heap.lt_size ho)
  walk1
  walk1
  walk1
  refine storeX_L F N (fun h₂ F N => ?_)
  dsimp only
  walk1
  refine For_inv s.heap rfl rfl ?_
  refine nmL F (by rfl) ?_
  refine for_list hh F N (isList_up hl F.keep) haL (fun i m => ∃ l t, m "word" = some (.str (S l) t) ∧ l.length ≤ i ∧ ∀ c ∈ l, c < 64 ∧ c ≠ 13) ⟨[], _, rfl, Nat.le_refl _, by simp⟩ ?_ ?_
  · intro i v m₁ s₁ own hv hJ F₁ N₁
    obtain ⟨l, t, hw, hlen, hc⟩ := hJ
    obtain ⟨n, t, rfl, hni⟩ := IntsAre.at hi i v (by simpa using hv)
    have hi5 : i < 5 := by have := (List.getElem?_eq_some_iff.mp hni).1; omega
    dsimp only at F₁ N₁ ⊢
    have q0 : 0 ≤ (n.fdiv 6).fmod 64 := Int.fmod_nonneg_of_pos _ (by decide)
    have q1 : (n.fdiv 6).fmod 64 < 64 := Int.fmod_lt_of_pos _ (by decide)
    have r0 : 0 ≤ n.fmod 6 := Int.fmod_nonneg_of_pos _ (by decide)
    have r1 : n.fmod 6 < 6 := Int.fmod_lt_of_pos _ (by decide)
    repeat' walk1
    all_goals
      rename (List.any _ _ = _) => ha
      rename Fr _ _ _ _ => F₂
      rename News _ _ _ _ => N₂
      refine item_list' (fun v => ∃ p tp, v = .str (S p) tp ∧ p.length ≤ 1 ∧ ∀ c ∈ p, c < 64 ∧ c ≠ 13) (News.isList N₂ (.head _)) r0 (by omega) ?_ ?_
      · generalize n.fmod 6 = k at r0 r1
        simp only [List.any_cons, List.any_nil, Bool.or_false, Bool.or_eq_false_iff, beq_eq_false_iff_ne] at ha
        have hk : k = 0 ∨ k = 1 ∨ k = 2 ∨ k = 3 ∨ k = 4 ∨ k = 5 := by omega
        rcases hk with rfl | rfl | rfl | rfl | rfl | rfl
        · exact ⟨_, rfl, [], _, rfl, by simp⟩
        · exact ⟨_, rfl, [46], _, rfl, by simp⟩
        · exact ⟨_, rfl, [10], _, rfl, by simp⟩
        · exact ⟨_, rfl, [46], _, rfl, by simp⟩
        · exact ⟨_, rfl, [10], _, rfl, by simp⟩
        · refine ⟨_, rfl, [_], _, rfl, by simp, fun c hc => ?_⟩
          simp only [List.mem_cons, List.not_mem_nil, or_false] at hc
          subst hc
          omega
      · rintro v ⟨p, tp, rfl, hp1, hp2⟩
        refine PyProof.Rows.iadd_str (fun t' tk => ?_) (by rw [S_length, S_length, sizeLine_eq]; omega)
        refine storeX_L F₂ N₂ (fun h₃ F₃ N₃ => ?_)
        refine wpAny_execs_nil ?_
        refine LoopStep.intro F₃ (fun p hp => N₃ p (List.mem_cons_of_mem _ (List.mem_cons_of_mem _ hp))) ⟨l ++ p, t', ?_, ?_, ?_⟩
        · rw [← S_append]; rfl
        · simp; omega
        · intro c hcc
          rcases List.mem_append.mp hcc with h | h
          · exact hc c h
          · exact hp2 c h
  · intro h' tk m' F' N' hJ
    obtain ⟨l, t, hw, hlen, hc⟩ := hJ
    dsimp only at F' N' ⊢
    have hlen' : vs.toArray.size = ns.length := by simpa using IntsAre.length hi
    walk1
    walk1
    walk1
    walk1
    refine PySem.P.truthy_str (by rw [S_length]; omega) ?_
    rw [S_length]
    by_cases hz : l = []
    · subst hz
      simp only [List.length_nil, bne_self_eq_false, Bool.false_eq_true, if_false, Int.cast_ofNat_Int]
      walk1
      refine Calls.Constant_str ?_
      exact ⟨⟨[46], _, rfl, by simp, by simp, by simp⟩, Keeps.of_fr F'⟩
    · have : ((l.length : Int) != 0) = true := by
        have := List.length_pos_iff.mpr hz
        simp; omega
      rw [this]
      simp only [if_true]
      exact ⟨⟨l, t, rfl, hz, by omega, hc⟩, Keeps.of_fr F'⟩
end Mine
end
-- part F2
section
open PySem PySem.W PyProof.Rows
set_option Elab.async false
set_option maxRecDepth 100000
set_option maxHeartbeats 4000000
set_option pp.deepTerms false
set_option pp.deepTerms.threshold 5
set_option pp.maxSteps 20000
set_option linter.unusedSimpArgs false
set_option linter.unusedVariables false
namespace Mine
local macro_rules | `(tactic| walk_at "eval Name") => `(tactic| first
  | refine nmL (by assumption) (by first | rfl | assumption) ?_
  | refine nmG (by assumption) (by assumption) (by first | exact gl_twin_re_1 _ | exact gl_twin_re_2 _ | exact gl_CRLF _ | exact gl_quotedata _ | exact gl_fix_eols _ | exact gl_parse_varint _ | exact gl_law_numbers _ | exact gl_law_word _ | exact gl_law_spelled _ | exact gl_law_mails _ | exact gl_law_sent _ | exact gl_law_octets _ | exact gl_law_value _ | exact gl_law_primes _) ?_
  | refine nmB (by assumption) (by assumption) (by first | exact gb_next _ | exact gb_enumerate _ | exact gb_chr _ | exact gb_ord _ | exact gb_len _ | exact gb_sum _ | exact gb_range _ | exact gb_iter _ | exact gb_StopIteration _) (by boot_fast) ?_)
local macro_rules | `(tactic| walk_at "storeName") => `(tactic| (refine storeX_L (by assumption) (by assumption) ?_; intro h' F' N'; dsimp only at F' N' ⊢))

local macro_rules | `(tactic| walk_at "loadName") => `(tactic| refine wpAny_loadName_local rfl rfl (Fr.ns (by assumption)) (by first | rfl | assumption) ?_)



theorem spelled_spec {w : World} {A : Around} {E : Value → Shared → Prop} {s : Shared} {l : List Nat} {t u : Tok} {k : Int} (G : Gd w s.heap) (hA : A.depth < recursionLimit) (hh : A.handled = none)
    (hl : l.length ≤ 5) (hc : ∀ c ∈ l, c ≠ 13) :
    wpAny (model PP w) A (call (.ref 83) [.str (S l) t, .int k u]) (Ret (fun v => ∃ r t', v = .str (S r) t' ∧ fixF false r = phi l ∧ r.length ≤ 10) s) E s := by
  refine enter G hA (by rfl) (by rfl) (binds := [("word", .str (S l) t), ("turn", .int k u)]) (by rfl) (locs rfl) (by decide) rfl rfl rfl fun h₁ F => ?_
  have N : News s.heap s.heap.objs.size h₁ [] := News.nil
  walk1
  walk1
  walk1
  refine storeX_L F N (fun h₂ F N => ?_)
  dsimp only
  walk1
  refine For_inv s.heap rfl rfl ?_
  refine nmL F (by rfl) ?_
  refine for_str hh F N (fun i m => ∃ r t' k' u', m "text" = some (.str (S r) t') ∧ m "turn" = some (.int k' u') ∧ r.length ≤ 2 * i ∧ fixF false r = phi (l.take i) ∧ (endCR false r = true → k'.fmod 3 = 0))
    ⟨[], _, k, u, rfl, rfl, Nat.le_refl _, rfl, by simp [endCR]⟩ ?_ ?_
  · intro i c uc m₁ s₁ own hci hJ F₁ N₁
    obtain ⟨r, t', k', u', hT, hK, hlen, hfix, hend⟩ := hJ
    dsimp only at F₁ N₁ ⊢
    have r0 : 0 ≤ k'.fmod 3 := Int.fmod_nonneg_of_pos _ (by decide)
    have r1 : k'.fmod 3 < 3 := Int.fmod_lt_of_pos _ (by decide)
    repeat' walk1
    · rename (_ == _) = true => ha
      rename Fr _ _ _ _ => F₂
      rename News _ _ _ _ => N₂
      have hc10 : c = 10 := by
        have := eq_of_beq ha
        have h2 : (Str.mk #[c]).cps = (Str.ofString "\n").cps := by rw [this]
        have h3 : (Str.ofString "\n").cps = #[10] := by decide +kernel
        rw [h3] at h2
        simpa using h2
      subst hc10
      have hli : l[i]? = some 10 := by simpa [S] using hci
      have htake : phi (l.take (i + 1)) = phi (l.take i) ++ [13, 10] := by
        rw [List.take_add_one, hli, phi_append]; rfl
      have hlt : i < l.length := (List.getElem?_eq_some_iff.mp hli).1
      refine item_list' (fun v => ∃ p tp, v = .str (S p) tp ∧ p.length ≤ 2 ∧ fixF (endCR false r) p = [13, 10] ∧ (endCR (endCR false r) p = true → k'.fmod 3 = 2)) (News.isList N₂ (.head _)) r0 (by omega) ?_ ?_
      · generalize k'.fmod 3 = k at r0 r1 hend
        have hk : k = 0 ∨ k = 1 ∨ k = 2 := by omega
        rcases hk with rfl | rfl | rfl
        · exact ⟨_, rfl, [13, 10], _, rfl, by simp, by simp [fixF], by simp [endCR]⟩
        · refine ⟨_, rfl, [10], _, rfl, by simp, ?_, by simp [endCR]⟩
          have : endCR false r = false := by
            cases h : endCR false r with
            | false => rfl
            | true => exact absurd (hend h) (by decide)
          simp [fixF, this]
        · exact ⟨_, rfl, [13], _, rfl, by simp, by simp [fixF], by simp⟩
      · rintro v ⟨p, tp, rfl, hp1, hp2, hp3⟩
        refine PyProof.Rows.iadd_str (fun t' tk => ?_) (by rw [S_length, S_length, sizeLine_eq]; omega)
        refine storeX_L F₂ N₂ (fun h₃ F₃ N₃ => ?_)
        dsimp only
        walk1
        walk1
        walk1
        walk1
        walk1
        refine storeX_L F₃ N₃ (fun h₄ F₄ N₄ => ?_)
        walk1
        walk1
        refine LoopStep.intro F₄ (fun p hp => N₄ p (List.mem_cons_of_mem _ hp)) ⟨r ++ p, t', k' + 1, _, ?_, rfl, ?_, ?_, ?_⟩
        · rw [← S_append]; rfl
        · simp; omega
        · rw [fixF_append, hfix, hp2, htake]
        · intro h
          rw [endCR_append] at h
          have := hp3 h
          rw [Int.fmod_eq_emod_of_nonneg _ (by decide)] at this ⊢
          omega
    · rename (_ == _) = false => ha
      have hc10 : c ≠ 10 := by
        rintro rfl
        exact absurd ha (by decide +kernel)
      have hli : l[i]? = some c := by simpa [S] using hci
      have hc13 : c ≠ 13 := hc c (List.mem_of_getElem? hli)
      have htake : phi (l.take (i + 1)) = phi (l.take i) ++ [c] := by
        rw [List.take_add_one, hli, phi_append]; simp [phi, hc10]
      have hlt : i < l.length := (List.getElem?_eq_some_iff.mp hli).1
      refine PyProof.Rows.iadd_str (fun t' tk => ?_) (by rw [S_length, sizeLine_eq]; simp [Str.length]; omega)
      refine storeX_L F₁ N₁ (fun h₃ F₃ N₃ => ?_)
      walk1
      walk1
      refine LoopStep.intro F₃ N₃ ⟨r ++ [c], t', k', u', ?_, hK, ?_, ?_, ?_⟩
      · rw [← S_append]; rfl
      · simp; omega
      · rw [fixF_append, hfix, htake]; simp [fixF, hc10, hc13]
      · rw [endCR_append]
        have : (c == 13) = false := by simp [hc13]
        simp [endCR, this]
  · intro h' tk m' F' N' hJ
    obtain ⟨r, t', k', u', hT, hK, hlen, hfix, hend⟩ := hJ
    dsimp only at F' N' ⊢
    have hsz : (S l).cps.size = l.length := by simp [S]
    rw [hsz] at hlen hfix
    rw [List.take_length] at hfix
    repeat' walk1
    exact ⟨⟨r, t', rfl, hfix, by omega⟩, Keeps.of_fr F'⟩
end Mine
end
-- part B2
section
local macro_rules | `(tactic| walk_at "pad") => `(tactic| skip)
local macro_rules | `(tactic| walk_at "pad") => `(tactic| skip)
local macro_rules | `(tactic| walk_at "pad") => `(tactic| skip)
local macro_rules | `(tactic| walk_at "pad") => `(tactic| skip)
local macro_rules | `(tactic| walk_at "pad") => `(tactic| skip)
local macro_rules | `(tactic| walk_at "pad") => `(tactic| skip)
local macro_rules | `(tactic| walk_at "pad") => `(tactic| skip)
local macro_rules | `(tactic| walk_at "pad") => `(tactic| skip)
local macro_rules | `(tactic| walk_at "pad") => `(tactic| skip)
local macro_rules | `(tactic| walk_at "pad") => `(tactic| skip)
local macro_rules | `(tactic| walk_at "pad") => `(tactic| skip)
local macro_rules | `(tactic| walk_at "pad") => `(tactic| skip)
local macro_rules | `(tactic| walk_at "pad") => `(tactic| skip)
local macro_rules | `(tactic| walk_at "pad") => `(tactic| skip)
open PySem PySem.W PyProof.Rows
set_option Elab.async false
set_option maxRecDepth 100000
set_option maxHeartbeats 4000000
set_option linter.unusedVariables false
namespace Mine

/-- a comprehension's turns: an iterator by KTurns, what its target binds by Bd -/
structure CT (w : World) (A : Around) (target : PySem.Expr) (I : Addr) (fp wr : List Addr) (n : Nat) (cok : Env → Prop) (Bd : Nat → (Str → Option Value) → Prop) (St : Nat → Heap → Prop) : Prop where
  sub : ∀ b ∈ wr, b ∈ fp
  frame : ∀ i h h', St i h → (∀ b ∈ fp, ∀ o, h.get? b = some o → h'.get? b = some o) → St i h'
  item : ∀ i (s : Shared) (env : Env) (m : Str → Option Value) (Q : Shared → Prop) (E : Value → Shared → Prop), i < n → St i s.heap → cok env → env.locals ∉ fp → s.heap.Ns env.locals m →
    (∀ h' tk m', St (i + 1) h' → h'.Ns env.locals m' → Bd i m' → (∀ b o, b ≠ env.locals → b ∉ wr → s.heap.get? b = some o → h'.get? b = some o) → Q { s with heap := h', toks := tk }) →
    wpAny (model PP w) A (pyNext (.ref I)) (fun r s₁ => match r with
      | none => False
      | some v => wpAny (model PP w) A (letOwnedTupleGo target (.ref I) v) (fun _ s₂ => wpAny (model PP w) A (assign target env v) (fun _ s₃ => Q s₃) E s₂) E s₁) E s
  done : ∀ (s : Shared) (Q : Option Value → Shared → Prop) (E : Value → Shared → Prop), St n s.heap →
    (∀ h' tk, (∀ b o, b ∉ wr → s.heap.get? b = some o → h'.get? b = some o) → Q none { s with heap := h', toks := tk }) → wpAny (model PP w) A (pyNext (.ref I)) Q E s
  self : ∀ i (s : Shared) (Q : Value → Shared → Prop) (E : Value → Shared → Prop), St i s.heap → Q (.ref I) s → wpAny (model PP w) A (pyIter (.ref I)) Q E s

section
variable {w : World} {A : Around} {E : Value → Shared → Prop} {env : Env} {I : Addr} {fp wr : List Addr} {n : Nat} {St : Nat → Heap → Prop}

def okN (x : Str) (env : Env) : Prop := env.kindOf x = some .local ∧ (env.scope.kind == .class || (env.scope.kind == .module && env.locals != env.globals)) = false

theorem CT.name {x : Str} {px : Pos} {P : Nat → Value → Prop} (W : Walks PP w A I fp wr n P St) :
    CT w A (.Name x px) I fp wr n (okN x) (fun i m => ∃ v, P i v ∧ m x = some v) St where
  sub := W.sub
  frame := W.frame
  item := fun i s env m Q E hi st hc hL hn hQ => by
    refine W.item i s _ _ hi st fun v h₁ tk₁ hP st₁ hk₁ => ?_
    have hLw : env.locals ∉ wr := fun h => hL (W.sub _ h)
    refine wpAny_pure (wpAny_assign_Name (wpAny_storeName_local hc.1 (hn.at' fun o e => hk₁ _ o hLw e) (fun h₂ hn₂ hs₂ => ?_) hc.2))
    exact hQ h₂ _ _ (W.frame _ _ _ st₁ fun b hb o e => hs₂.extBut b o (fun q => hL (q ▸ hb)) e) hn₂ ⟨v, hP, by simp⟩ fun b o hb hw e => hs₂.extBut b o hb (hk₁ b o hw e)
  done := W.done
  self := W.self

def okNN (a b : Str) (env : Env) : Prop := env.kindOf a = some .local ∧ env.kindOf b = some .local ∧ (env.scope.kind == .class || (env.scope.kind == .module && env.locals != env.globals)) = false

theorem CT.pair {a b : Str} {pa pb tp : Pos} {kk : Nat} {x y : Nat → Tok → Value} {Mid : Nat → Addr → Heap → Prop} (hh : A.handled = none) (hab : ¬ a = b)
    (W : WalksU PP w A I fp wr n (fun i v => ∃ t u, v = #[x i t, y i u]) St Mid) :
    CT w A (.Tuple [.Name a pa, .Name b pb] kk tp) I fp wr n (okNN a b) (fun i m => ∃ t u, m a = some (x i t) ∧ m b = some (y i u)) St where
  sub := W.sub
  frame := W.frame
  item := fun i s env m Q E hi st hc hL hn hQ => by
    have hLw : env.locals ∉ wr := fun h => hL (W.sub _ h)
    refine W.item i s _ _ hi st fun T vals h₁ tk₁ hP hT hm hk₁ => ?_
    refine W.go _ _ _ i T _ _ _ hm fun h₂ st₂ hk₂ => ?_
    obtain ⟨t, u, rfl⟩ := hP
    have hT₂ : h₂.IsTuple T #[x i t, y i u] := hT.at fun o e => hk₂ T o (W.apart i T _ hm) e
    have hn₂ : h₂.Ns env.locals m := (hn.at' fun o e => hk₁ _ o hLw e).at' fun o e => hk₂ _ o hLw e
    refine kcp_assign hh hT₂ hc.1 hc.2.1 hc.2.2 hn₂ fun h₃ tk₃ hn₃ hk₃ => ?_
    refine hQ h₃ tk₃ _ (W.frame _ _ _ st₂ fun c hb o e => hk₃ c o (fun q => hL (q ▸ hb)) e) hn₃ ⟨t, u, ?_, ?_⟩ fun c o hc' hw e => hk₃ c o hc' (hk₂ c o hw (hk₁ c o hw e))
    · simp [hab]
    · simp
  done := W.done
  self := W.self

theorem comp_turns {elt target iter : PySem.Expr} {scope : Scope} {cl : List (Str × Addr)} {pos : Pos} {s₂ : Shared} {cok : Env → Prop} {Bd : Nat → (Str → Option Value) → Prop} {base : Heap}
    (T : CT w A target I fp wr n cok Bd St) (hsz : n ≤ sizeLine) (F : Nat → Value → Prop) {RR : Value → Addr → Result → Shared → Prop}
    (hcell : ∀ y ∈ scope.names, y.2 ≠ .cell) (hkind : scope.kind = .function) (hcok : ∀ C, cok (compEnvC scope cl C env)) (hst : St 0 s₂.heap) (hfp : ∀ b ∈ fp, b < s₂.heap.objs.size)
    (hb : ∀ b o, base.get? b = some o → s₂.heap.get? b = some o) (hbs : base.objs.size ≤ s₂.heap.objs.size) (hw : ∀ b ∈ wr, base.get? b = none)
    (helt : ∀ C i s₃ m₃ E', i < n → Bd i m₃ → Fr base C s₃.heap m₃ → wpAny (model PP w) A (eval elt (compEnvC scope cl C env)) (Ret (F i) s₃) E' s₃)
    (hRR : ∀ D C h' tk m' (ys : List Value), s₂.heap.get? D = none → s₂.heap.get? C = none → D ≠ C → h'.Ns C m' → h'.PlainList D ys.toArray → ys.length = n → (∀ i y, ys[i]? = some y → F i y) →
      (∀ b o, b ∉ wr → s₂.heap.get? b = some o → h'.get? b = some o) → RR (.ref D) C (.ok .next) { s₂ with heap := h', toks := tk }) :
    wpAny (model PP w) A (newList []) (fun acc s₃ => wpAny (model PP w) A (newFunctionEnv scope env.globals cl [] env.qual none .none (some env)) (fun cenv s₄ =>
      codeAny (model PP w) A (.compStart (.ListComp elt [⟨target, iter, [], 0⟩] scope pos) 0 (.ref I) acc { cenv with scope := relabel scope env }) (RR acc cenv.locals) s₄) E s₃) E s₂ := by
  refine wpAny_newObj_type (wpAny_newFunctionEnv hcell (by intro y hy; simp at hy) (fun h₁ hns₁ hsb₁ => ?_) hkind)
  dsimp only at hns₁ hsb₁ ⊢
  generalize hH2 : s₂.heap.push { cls := .type "list", dict := none, data := .seq ([] : List Value).toArray } = H2 at hns₁ hsb₁ ⊢
  have hC : H2.objs.size = s₂.heap.objs.size + 1 := by rw [← hH2, Heap.size_push]
  generalize hCC : H2.objs.size = C at hns₁ hsb₁ hC ⊢
  generalize hDD : s₂.heap.objs.size = D at hC hfp hbs ⊢
  have hDC : D ≠ C := by rw [hC]; exact Nat.ne_of_lt (Nat.lt_succ_self _)
  have below : ∀ b, b < D → b ≠ C ∧ b ≠ D := fun b hb => ⟨by omega, by omega⟩
  have hDf : D ∉ fp := fun hm => Nat.lt_irrefl _ (hfp _ hm)
  have hCf : C ∉ fp := fun hm => absurd (hfp _ hm) (by rw [hC]; exact Nat.not_lt.mpr (Nat.le_succ _))
  have lt2 : ∀ {b o}, s₂.heap.get? b = some o → b < D := fun e => hDD ▸ Heap.lt_size e
  have old : ∀ b o, s₂.heap.get? b = some o → h₁.get? b = some o := fun b o e => hsb₁.extBut b o (below b (lt2 e)).1 (Heap.get?_push_of_some _ (hH2 ▸ Heap.get?_push_of_some _ e))
  have hacc : h₁.PlainList D #[] := ⟨_, hsb₁.extBut _ _ hDC (Heap.get?_push_of_some _ (hH2 ▸ hDD ▸ Heap.get?_push_size _ rfl))⟩
  have hst₁ : St 0 h₁ := T.frame _ _ _ hst fun b _ o e => old b o e
  have fresh : ∀ a, D ≤ a → s₂.heap.get? a = none := fun a ha => by
    cases e : s₂.heap.get? a with
    | none => rfl
    | some o' => exact absurd (lt2 e) (Nat.not_lt.mpr ha)
  have hCw : C ∉ wr := fun h => hCf (T.sub _ h)
  have hDw : D ∉ wr := fun h => hDf (T.sub _ h)
  have bw : ∀ b o, base.get? b = some o → b ∉ wr := fun b o e h => by rw [hw b h] at e; cases e
  have loop : ∀ s₃ : Shared, s₃ = { s₂ with heap := h₁, toks := s₂.toks + ([] : List (Str × Value)).length } →
      codeAny (model PP w) A (.compLoop (.ListComp elt [⟨target, iter, [], 0⟩] scope pos) 0 (.ref I) (.ref D) (compEnvC scope cl C env)) (RR (.ref D) C) s₃ := by
    rintro s₃ rfl
    obtain ⟨Inv, hInv⟩ : ∃ Inv : Nat → Shared → Prop, ∀ k s', Inv k s' ↔ ∃ h' tk m', ∃ ys : List Value, s' = { s₂ with heap := h', toks := tk } ∧ St ys.length h' ∧ h'.PlainList D ys.toArray ∧ h'.Ns C m' ∧ (∀ i y, ys[i]? = some y → F i y) ∧ ys.length ≤ n ∧ k = n + 1 - ys.length ∧
        (∀ b o, b ∉ wr → s₂.heap.get? b = some o → h'.get? b = some o) := ⟨_, fun _ _ => Iff.rfl⟩
    refine kcp_loop Inv ?_ (n + 1) ((hInv _ _).mpr ⟨h₁, _, _, [], rfl, hst₁, hacc, hns₁, by simp, Nat.zero_le _, rfl, fun b o _ e => old b o e⟩)
    intro k s' hI
    obtain ⟨h', tk, m', ys, rfl, hst', hacc', hn', hF, hi, rfl, hk⟩ := (hInv _ _).mp hI
    by_cases hlt : ys.length < n
    · refine wpAny_mono (T.item ys.length _ (compEnvC scope cl C env) m' (fun s₃ => wpAny (model PP w) A (eval elt (compEnvC scope cl C env)) (fun x s₄ =>
          wpAny (model PP w) A (call (.builtin "list.append") [.ref D, x]) (fun _ s₅ => ∃ m, m < n + 1 - ys.length ∧ Inv m s₅) (notedBy (model PP w) A (compEnvC scope cl C env) fun e s' => RR (.ref D) C (.error e) s') s₄)
          (notedBy (model PP w) A (compEnvC scope cl C env) fun e s' => RR (.ref D) C (.error e) s') s₃) _ hlt hst' (hcok C) hCf hn' fun h₂ tk₂ m₂ hst₂ hn₂ hBd hk₂ => ?_) (fun r s₁ h => ?_) fun _ _ e => e
      rotate_left
      · cases r with
        | none => exact h.elim
        | some v => exact h
      have up₂ : ∀ b o, b ∉ wr → s₂.heap.get? b = some o → h₂.get? b = some o := fun b o hbf e => hk₂ b o (below b (lt2 e)).1 hbf (hk b o hbf e)
      have F₂ : Fr base C h₂ m₂ := ⟨hn₂, fun b o e => up₂ b o (bw b o e) (hb b o e), by omega⟩
      have hacc₂ : h₂.PlainList D ys.toArray := hacc'.at fun o e => hk₂ D o hDC hDw e
      refine wpAny_mono (helt C ys.length _ m₂ _ hlt hBd F₂) (fun y s₄ h₄ => ?_) fun _ _ e => e
      obtain ⟨hFy, h₄, tk₄, rfl, hk₄⟩ := h₄
      refine wpAny_list_append_plain (hsz := by rw [List.size_toArray]; omega) (hacc₂.at fun o e => hk₄ _ o e) fun h₅ hl₅ hs₅ => ?_
      refine ⟨n + 1 - (ys.length + 1), by omega, (hInv _ _).mpr ⟨h₅, tk₄, m₂, ys ++ [y], rfl, ?_, ?_, (hn₂.keeps hk₄).sameBut hs₅ (Ne.symm hDC), ?_, by simp; omega, by simp, fun b o hbf e => hs₅.extBut b o (below b (lt2 e)).2 (hk₄ b o (up₂ b o hbf e))⟩⟩
      · rw [List.length_append, List.length_singleton]
        exact T.frame _ _ _ hst₂ fun b hb o e => hs₅.extBut b o (fun q => hDf (q ▸ hb)) (hk₄ b o e)
      · simpa using hl₅
      · intro j z hz
        rcases Nat.lt_trichotomy j ys.length with h | h | h
        · exact hF j z (by rwa [List.getElem?_append_left h] at hz)
        · subst h; simp at hz; subst hz; exact hFy
        · rw [List.getElem?_eq_none (by simp; omega)] at hz; cases hz
    · have hin : ys.length = n := by omega
      refine T.done _ _ _ (hin ▸ hst') fun h₂ tk₂ hk₂ => ?_
      exact hRR D C h₂ tk₂ m' ys (fresh _ (Nat.le_refl _)) (fresh _ (by omega)) hDC (hn'.at' fun o e => hk₂ _ o hCw e) (hacc'.at fun o e => hk₂ _ o hDw e) hin hF fun b o hbf e => hk₂ b o hbf (hk b o hbf e)
  exact codeAny_compStart_list (loop _ rfl) (T.self 0 _ _ _ hst₁ (loop _ rfl))

/-- what a comprehension's source hands on -/
def LcI (w : World) (A : Around) (elt target : PySem.Expr) (scope : Scope) (cl : List (Str × Addr)) (env : Env) (Fin : Shared → List Addr → List Value → Prop) (it : Value) (s₂ : Shared) : Prop :=
  ∃ I fp wr n cok Bd St base, ∃ F : Nat → Value → Prop, it = .ref I ∧ CT w A target I fp wr n cok Bd St ∧ n ≤ sizeLine ∧ (∀ C, cok (compEnvC scope cl C env)) ∧ St 0 s₂.heap ∧ (∀ b ∈ fp, b < s₂.heap.objs.size) ∧
      (∀ b o, base.get? b = some o → s₂.heap.get? b = some o) ∧ base.objs.size ≤ s₂.heap.objs.size ∧ (∀ b ∈ wr, base.get? b = none) ∧
      (∀ C i s₃ m₃ E', i < n → Bd i m₃ → Fr base C s₃.heap m₃ → wpAny (model PP w) A (eval elt (compEnvC scope cl C env)) (Ret (F i) s₃) E' s₃) ∧
      ∀ ys : List Value, ys.length = n → (∀ i y, ys[i]? = some y → F i y) → Fin s₂ wr ys
def FinLc (Q : Value → Shared → Prop) (s₂ : Shared) (wr : List Addr) (ys : List Value) : Prop :=
  ∀ D h' tk, s₂.heap.get? D = none → h'.PlainList D ys.toArray → (∀ b o, b ∉ wr → s₂.heap.get? b = some o → h'.get? b = some o) → Q (.ref D) { s₂ with heap := h', toks := tk }
def FinLa (L : Addr) (y : Str) (Q : Flow → Shared → Prop) (s₂ : Shared) (wr : List Addr) (ys : List Value) : Prop :=
  L ∉ wr ∧ ∃ m, s₂.heap.Ns L m ∧ ∀ D h' tk, s₂.heap.get? D = none → h'.PlainList D ys.toArray → h'.Ns L (fun z => if z = y then some (.ref D) else m z) → (∀ b o, b ≠ L → b ∉ wr → s₂.heap.get? b = some o → h'.get? b = some o) → Q .next { s₂ with heap := h', toks := tk }

/-- a list comprehension of one clause without a test -/
theorem lc {s : Shared} {elt target iter : PySem.Expr} {scope : Scope} {cl : List (Str × Addr)} {pos : Pos} {Q : Value → Shared → Prop}
    (hclos : closureFor scope env = pure cl) (hcell : ∀ y ∈ scope.names, y.2 ≠ .cell) (hkind : scope.kind = .function)
    (hnames : ∀ y ∈ scope.names, y.2 = .local → scope.names.lookup y.1 = some .local)
    (h : wpAny (model PP w) A (eval iter env) (fun xv s₁ => wpAny (model PP w) A (pyIter xv) (LcI w A elt target scope cl env (FinLc Q)) E s₁) E s)
    (hs : ∀ x, foldedSetIterable iter env x = pure x := by intro _; rfl) :
    wpAny (model PP w) A (eval (.ListComp elt [⟨target, iter, [], 0⟩] scope pos) env) Q E s := by
  rw [eval_ListComp]
  refine wpAny_comprehension_free (use := none) rfl hs hclos hkind hnames (wpAny_mono h (fun xv s₁ h₁ => wpAny_mono h₁ (fun it s₂ h₂ => ?_) fun _ _ e => e) fun _ _ e => e)
  obtain ⟨I, fp, wr, n, cok, Bd, St, base, F, rfl, T, hsz, hcok, hst, hfp, hb, hbs, hw, helt, hQ⟩ := h₂
  refine comp_turns (RR := fun acc C => compPost (model PP w) A E none Q acc C) T hsz F hcell hkind hcok hst hfp hb hbs hw helt ?_
  intro D C h' tk m' ys hD hC hDC hn hpl hlen hF hk
  exact ⟨m', hn, fun h'' hs'' => hQ ys hlen hF D h'' tk hD (hpl.extBut hs''.extBut hDC) fun b o hbf e => hs''.extBut b o (by rintro rfl; rw [hC] at e; cases e) (hk b o hbf e)⟩

/-- the same, stored under a local name -/
theorem lcAssign {s : Shared} {elt target iter : PySem.Expr} {y : Str} {py : Pos} {scope : Scope} {cl : List (Str × Addr)} {pos spos : Pos} {Q : Flow → Shared → Prop}
    (hsw : swapsWith (.ListComp elt [⟨target, iter, [], 0⟩] scope pos) (some (.Name y py)) spos.line env = pure true)
    (hclos : closureFor scope env = pure cl) (hcell : ∀ y ∈ scope.names, y.2 ≠ .cell) (hkind : scope.kind = .function)
    (hnames : ∀ y ∈ scope.names, y.2 = .local → scope.names.lookup y.1 = some .local)
    (hy : env.kindOf y = some .local) (hp : (env.scope.kind == .class || (env.scope.kind == .module && env.locals != env.globals)) = false)
    (h : wpAny (model PP w) A (eval iter env) (fun xv s₁ => wpAny (model PP w) A (pyIter xv) (LcI w A elt target scope cl env (FinLa env.locals y Q)) E s₁) E s)
    (hs : ∀ x, foldedSetIterable iter env x = pure x := by intro _; rfl) :
    wpAny (model PP w) A (exec (.Assign [.Name y py] (.ListComp elt [⟨target, iter, [], 0⟩] scope pos) spos) env) Q E s := by
  rw [exec_Assign_Name_used _ _ _ _ hsw]
  refine wpAny_bind (wpAny_standAt (wpAny_bind ?_))
  show wpAny _ A (do let _ ← comprehension (.ListComp elt [⟨target, iter, [], 0⟩] scope pos) scope env _ (newList []) false (eval iter env) (some (assign (.Name y py) env))) _ _ s
  refine wpAny_bind (wpAny_mono (wpAny_comprehension_free (use := some (assign (.Name y py) env)) (Q := fun _ s' => Q .next s') rfl hs hclos hkind hnames
    (wpAny_mono h (fun xv s₁ h₁ => wpAny_mono h₁ (fun it s₂ h₂ => ?_) fun _ _ e => e) fun _ _ e => e)) (fun _ s' hq => wpAny_pure (wpAny_pure hq)) fun _ _ e => e)
  obtain ⟨I, fp, wr, n, cok, Bd, St, base, F, rfl, T, hsz, hcok, hst, hfp, hb, hbs, hw, helt, hQ⟩ := h₂
  refine comp_turns (RR := fun acc C => compPost (model PP w) A E (some (assign (.Name y py) env)) (fun _ s' => Q .next s') acc C) T hsz F hcell hkind hcok hst hfp hb hbs hw helt ?_
  intro D C h' tk m' ys hD hC hDC hnC hplD hlen hF hk
  obtain ⟨hLf, m, hn, hQ⟩ := hQ ys hlen hF
  have hLC : env.locals ≠ C := by rintro rfl; obtain ⟨o, _, _, ho, _⟩ := hn; rw [hC] at ho; cases ho
  have hLD : env.locals ≠ D := by rintro rfl; obtain ⟨o, _, _, ho, _⟩ := hn; rw [hD] at ho; cases ho
  show wpAny _ A (assign (.Name y py) env (.ref D)) _ _ _
  refine wpAny_assign_Name (wpAny_storeName_local hy (hn.at' fun o e => hk _ o hLf e) (fun h₂ hn₂ hs₂ => ?_) hp)
  refine ⟨m', hnC.sameBut hs₂ (Ne.symm hLC), fun h₃ hs₃ => ?_⟩
  exact hQ D h₃ _ hD ((hplD.extBut hs₂.extBut (Ne.symm hLD)).extBut hs₃.extBut hDC) (hn₂.sameBut hs₃ hLC) fun b o hbL hbf e =>
    hs₃.extBut b o (by rintro rfl; rw [hC] at e; cases e) (hs₂.extBut b o hbL (hk b o hbf e))
end

section
variable {w : World} {A : Around} {E : Value → Shared → Prop} {s s₂ : Shared} {env : Env} {h₀ : Heap} {L : Addr} {m : Str → Option Value} {news : List (Addr × Obj)} {elt : PySem.Expr} {scope : Scope} {cl : List (Str × Addr)} {Fin : Shared → List Addr → List Value → Prop} {wr : List Addr} {ys : List Value}

theorem fin_lc {Q : Value → Shared → Prop} (F : Fr h₀ L s.heap m) (N : News h₀ L s.heap news) (up : ∀ b o, s.heap.get? b = some o → s₂.heap.get? b = some o) (hw : ∀ b o, s.heap.get? b = some o → b ∉ wr)
    (e : s₂ = { s with heap := s₂.heap, toks := s₂.toks })
    (h : ∀ D k h' tk, Fr h₀ L h' m → News h₀ L h' ((D, { cls := .type "list", data := .seq ys.toArray k }) :: news) → Q (.ref D) { s with heap := h', toks := tk }) : FinLc Q s₂ wr ys := by
  intro D h' tk hD hpl hk
  have k1 : ∀ b o, s.heap.get? b = some o → h'.get? b = some o := fun b o e => hk b o (hw b o e) (up b o e)
  obtain ⟨k, hpl⟩ := hpl
  have hDs : s.heap.get? D = none := by
    cases q : s.heap.get? D with
    | none => rfl
    | some o => rw [up D o q] at hD; cases hD
  have := h D k h' tk (fr_up F k1) (fun p hp => by
    rcases List.mem_cons.mp hp with rfl | hp
    · refine ⟨hpl, fun q => ?_, ?_⟩
      · obtain ⟨o, _, _, ho, _⟩ := F.ns
        have q' : D = L := q
        rw [← q', hDs] at ho; cases ho
      · cases q : h₀.get? D with
        | none => rfl
        | some o => rw [F.keep D o q] at hDs; cases hDs
    · exact news_up N k1 p hp)
  rw [e]
  exact this

theorem fin_la {y : Str} {Q : Flow → Shared → Prop} (F : Fr h₀ L s.heap m) (N : News h₀ L s.heap news) (up : ∀ b o, s.heap.get? b = some o → s₂.heap.get? b = some o) (hw : ∀ b o, s.heap.get? b = some o → b ∉ wr)
    (e : s₂ = { s with heap := s₂.heap, toks := s₂.toks })
    (h : ∀ D k h' tk, Fr h₀ L h' (fun z => if z = y then some (.ref D) else m z) → News h₀ L h' ((D, { cls := .type "list", data := .seq ys.toArray k }) :: news) → Q .next { s with heap := h', toks := tk }) : FinLa L y Q s₂ wr ys := by
  have hLw : L ∉ wr := by obtain ⟨o, _, _, ho, _⟩ := F.ns; exact hw L o ho
  refine ⟨hLw, m, F.ns.keeps up, fun D h' tk hD hpl hn hk => ?_⟩
  have k1 : ∀ b o, b ≠ L → s.heap.get? b = some o → h'.get? b = some o := fun b o hb e => hk b o hb (hw b o e) (up b o e)
  obtain ⟨k, hpl⟩ := hpl
  have hDs : s.heap.get? D = none := by
    cases q : s.heap.get? D with
    | none => rfl
    | some o => rw [up D o q] at hD; cases hD
  have hold : ∀ b o, h₀.get? b = some o → h'.get? b = some o := fun b o q => k1 b o (Nat.ne_of_lt (Nat.lt_of_lt_of_le (Heap.lt_size q) F.above)) (F.keep b o q)
  have := h D k h' tk ⟨hn, hold, F.above⟩ (fun p hp => by
    rcases List.mem_cons.mp hp with rfl | hp
    · refine ⟨hpl, fun q => ?_, ?_⟩
      · obtain ⟨o, _, _, ho, _⟩ := F.ns
        have q' : D = L := q
        rw [← q', hDs] at ho; cases ho
      · cases q : h₀.get? D with
        | none => rfl
        | some o => rw [F.keep D o q] at hDs; cases hDs
    · exact ⟨k1 _ _ (N p hp).2.1 (N p hp).1, (N p hp).2⟩)
  rw [e]
  exact this

theorem src_list {x : Str} {px : Pos} {a : Addr} {items : Array Value} (hh : A.handled = none) (hl : s.heap.IsList a items) (hsz : items.size ≤ sizeLine) (F : Nat → Value → Prop)
    (hcok : ∀ C, okN x (compEnvC scope cl C env))
    (helt : ∀ C i v s₃ m₃ E', items[i]? = some v → m₃ x = some v → Fr s.heap C s₃.heap m₃ → wpAny (model PP w) A (eval elt (compEnvC scope cl C env)) (Ret (F i) s₃) E' s₃)
    (hF : ∀ (s₂ : Shared) (wr : List Addr) (ys : List Value), (∀ b o, s.heap.get? b = some o → s₂.heap.get? b = some o) → (∀ b o, s.heap.get? b = some o → b ∉ wr) → s₂ = { s with heap := s₂.heap, toks := s₂.toks } → ys.length = items.size → (∀ i y, ys[i]? = some y → F i y) → Fin s₂ wr ys) :
    wpAny (model PP w) A (pyIter (.ref a)) (LcI w A elt (.Name x px) scope cl env Fin) E s := by
  have haI : a < s.heap.objs.size := by obtain ⟨o, ho, _⟩ := hl; exact Heap.lt_size ho
  refine wpAny_pyIter_list hl ⟨s.heap.objs.size, _, _, _, _, _, _, s.heap, F, rfl, CT.name (Walks.list hh s.heap.objs.size a (Nat.ne_of_lt haI) items), hsz, hcok, ?_, ?_, ?_, ?_, ?_, ?_, ?_⟩
  · exact ⟨⟨_, Heap.get?_push_size _ rfl, rfl, rfl⟩, isList_up hl fun b o e => Heap.get?_push_of_some _ e⟩
  · intro b hb
    simp only [List.mem_cons, List.not_mem_nil, or_false] at hb
    rw [Heap.size_push]
    rcases hb with rfl | rfl
    · exact Nat.lt_succ_self _
    · exact Nat.lt_succ_of_lt haI
  · intro b o e; exact Heap.get?_push_of_some _ e
  · rw [Heap.size_push]; exact Nat.le_succ _
  · intro b hb
    simp only [List.mem_cons, List.not_mem_nil, or_false] at hb
    subst hb
    cases e : s.heap.get? s.heap.objs.size with
    | none => rfl
    | some o => exact absurd (Heap.lt_size e) (Nat.lt_irrefl _)
  · intro C i s₃ m₃ E' hi hBd F₃
    obtain ⟨v, hv, hm⟩ := hBd
    exact helt C i v s₃ m₃ E' hv hm F₃
  · intro ys hlen hys
    refine hF _ _ ys (fun b o e => Heap.get?_push_of_some _ e) (fun b o e hb => ?_) rfl hlen hys
    simp only [List.mem_cons, List.not_mem_nil, or_false] at hb
    exact Nat.ne_of_lt (Heap.lt_size e) hb
end
end Mine
end
-- part B3
section
open PySem PySem.W PyProof.Rows
set_option Elab.async false
namespace Mine
theorem item_head (z : Nat) (zr : List Nat) : Txt.item (S (z :: zr)) 0 = S [z] := by
  simp [Txt.item, Txt.charAt, seqIndex?, S, Str.length]
theorem item_last (z : Nat) (r : List Nat) : Txt.item (S (r ++ [z])) (-1) = S [z] := by
  have h : Txt.charAt (S (r ++ [z])) (-1) = some z := by
    unfold Txt.charAt seqIndex?
    have hl : (S (r ++ [z])).length = r.length + 1 := by rw [S_length]; simp
    rw [hl]
    have e : (-1 + ((r.length + 1 : Nat) : Int)) = r.length := by omega
    have e2 : (if (-1 : Int) < 0 then -1 + ((r.length + 1 : Nat) : Int) else -1) = r.length := by rw [if_pos (by decide), e]
    rw [e2]
    have h0 : (decide (0 ≤ (r.length : Int)) && decide ((r.length : Int) < ((r.length + 1 : Nat) : Int))) = true := by
      simp; omega
    rw [if_pos h0]
    simp [S]
  unfold Txt.item
  rw [h]
  rfl

section
variable {w : World} {A : Around} {E : Value → Shared → Prop} {s : Shared} {env : Env} {h₀ : Heap} {m : Str → Option Value} {body : List Stmt} {Q : Flow → Shared → Prop} {news : List (Addr × Obj)} {l : Addr} {items : Array Value}

theorem lsv {L : Addr} {wr : List Addr} {own : List (Addr × Obj)} {Jn : (Str → Option Value) → List (Addr × Obj) → Prop} {s s₂ : Shared} {h : Heap} {tk : Nat} {Qr : Value → Shared → Prop} {Qb : Shared → Prop} {f : Flow}
    (x : LoopStepV h₀ L wr own Jn s Qr Qb f s₂) : LoopStepV h₀ L wr own Jn { s with heap := h, toks := tk } Qr Qb f s₂ := by
  cases f <;> exact x

/-- for a, b in enumerate(list) -/
theorem for_enum {a b : Str} {pa pb tp : Pos} {kk : Nat} (hh : A.handled = none) (ha : env.kindOf a = some .local) (hb : env.kindOf b = some .local)
    (hp : (env.scope.kind == .class || (env.scope.kind == .module && env.locals != env.globals)) = false)
    (F : Fr h₀ env.locals s.heap m) (N : News h₀ env.locals s.heap news) (hl₀ : h₀.IsList l items)
    (J : Nat → (Str → Option Value) → List (Addr × Obj) → Prop) (h0 : J 0 m news)
    (step : ∀ i x t m₁ news₁ h₁ tk₁ own wr, items[i]? = some x → J i m₁ news₁ → (∀ p ∈ news₁, p.1 ∉ wr) → (∀ p ∈ own, ∀ q ∈ news₁, p.1 ≠ q.1) →
      Fr h₀ env.locals h₁ (fun z => if z = b then some x else if z = a then some (.int i t) else m₁ z) → News h₀ env.locals h₁ (own ++ news₁) →
      wpAny (model PP w) A (execs body env) (LoopStepV h₀ env.locals wr own (J (i + 1)) s (fun v s' => Q (.ret v) s') fun s' => Q .next s') E { s with heap := h₁, toks := tk₁ })
    (hQ : ∀ h' tk m' news', Fr h₀ env.locals h' m' → News h₀ env.locals h' news' → J items.size m' news' → Q .next { s with heap := h', toks := tk }) :
    wpAny (model PP w) A (call (.type "enumerate") [.ref l]) (fun xv s₁ => wpAny (model PP w) A (pyIter xv) (fun it s₂ => TurnsAt PP w A h₀ env (.Tuple [.Name a pa, .Name b pb] kk tp) body Q E it s₂) E s₁) E s := by
  have hl := isList_up hl₀ F.keep
  have hlL : l ≠ env.locals := by obtain ⟨o, ho, _⟩ := hl₀; exact Nat.ne_of_lt (Nat.lt_of_lt_of_le (Heap.lt_size ho) F.above)
  have hlt : l < s.heap.objs.size := by obtain ⟨o, ho, _⟩ := hl; exact Heap.lt_size ho
  have hLs : env.locals < s.heap.objs.size := lt_L F
  have hn0 : ∀ b : Addr, s.heap.objs.size ≤ b → h₀.get? b = none := fun b hb => by
    cases e : h₀.get? b with
    | none => rfl
    | some o => exact absurd (Heap.lt_size (F.keep _ _ e)) (Nat.not_lt.mpr hb)
  refine call_enumerate_list hl fun h' hE hI hsz hk => ?_
  refine wpAny_pyIter_enum hE ?_
  have W := WalksT.enumerate (prog := PP) (w := w) (A := A) hh (s.heap.objs.size + 1) s.heap.objs.size l (Nat.succ_ne_self _) (Nat.ne_of_lt (Nat.lt_succ_of_lt hlt)) (Nat.ne_of_lt hlt) items
  refine ⟨_, _, _, _, _, _, _, m, news, J, rfl, KTurns.ofWalksU W.toU, ?_, ?_, ?_, ⟨⟨_, hE⟩, hI, isList_up hl hk⟩, fr_up F hk, news_up N hk, h0, ?_, ?_⟩
  · intro hm
    simp only [List.mem_cons, List.not_mem_nil, or_false] at hm
    rcases hm with q | q | q
    · exact Nat.ne_of_lt (Nat.lt_succ_of_lt hLs) q
    · exact Nat.ne_of_lt hLs q
    · exact hlL q.symm
  · intro c hc
    simp only [List.mem_cons, List.not_mem_nil, or_false] at hc
    rcases hc with rfl | rfl
    · exact hn0 _ (Nat.le_succ _)
    · exact hn0 _ (Nat.le_refl _)
  · intro p hp' hc
    have := Heap.lt_size (N p hp').1
    simp only [List.mem_cons, List.not_mem_nil, or_false] at hc
    rcases hc with q | q
    · exact Nat.ne_of_lt (Nat.lt_succ_of_lt this) q
    · exact Nat.ne_of_lt this q
  · rintro i v m₁ news₁ h₁ tk₁ own hi ⟨T, vals, rfl, ⟨t, x, hx, rfl⟩, hT⟩ hJ hnw hof _ _ _ F₁ N₁
    have hown : ∀ p ∈ own, ∀ q ∈ news₁, p.1 ≠ q.1 := fun p hp' q hq e => by
      have h1 := hof p hp'
      have h2 := hnw q hq
      have h3 := (N₁ p (List.mem_append_left _ hp')).2.2
      simp only [List.mem_cons, List.not_mem_nil, or_false] at h1 h2
      rcases h1 with h | h | h
      · exact h2 (.inl (e ▸ h))
      · exact h2 (.inr (e ▸ h))
      · obtain ⟨o, ho, _⟩ := hl₀
        rw [h, ho] at h3; cases h3
    refine kcp_assign hh hT ha hb hp F₁.ns fun h₂ tk₂ hn₂ hk₂ => ?_
    exact wpAny_mono (step i x t m₁ news₁ h₂ tk₂ own _ hx hJ hnw hown ⟨hn₂, fun c o e => hk₂ c o (Nat.ne_of_lt (Nat.lt_of_lt_of_le (Heap.lt_size e) F.above)) (F₁.keep c o e), F.above⟩ fun p hp' => ⟨hk₂ _ _ (N₁ p hp').2.1 (N₁ p hp').1, (N₁ p hp').2⟩) (fun _ _ x => lsv x) fun _ _ x => x
  · intro h'' tk m' news' F' N' _ hJ
    exact hQ h'' tk m' news' F' N' hJ
end

theorem keptK (s : Shared) : KeptH (fun h => ∀ b o, s.heap.get? b = some o → h.get? b = some o) := fun _ _ h b o e => Heap.get?_push_of_some _ (h b o e)
theorem slice_ns_k {w : World} {A : Around} {E : Value → Shared → Prop} {s : Shared} {value slice : PySem.Expr} {x : Str} {t : Tok} {Q : Value → Shared → Prop} {j : Int} {uj : Tok}
    (h : ∀ h' t' k, (∀ b o, s.heap.get? b = some o → h'.get? b = some o) → Q (.str (Txt.slice x none (some j)) t') { s with heap := h', toks := k })
    (hsz : x.length ≤ sizeLine)
    (hs : subscripted slice false (.str x t) (.ref s.heap.objs.size) = operate [.ref s.heap.objs.size, .str x t] (getItem (.str x t) (.ref s.heap.objs.size)) := by with_unfolding_all rfl)
    (ht : ∀ r, letTemporaryGo value (.str x t) r = pure () := by intro _; with_unfolding_all rfl) :
    wpAny (model PP w) A (subscriptTail value slice (.str x t) (.ref s.heap.objs.size)) Q E { s with heap := s.heap.push { cls := .type "slice", data := .fields #[.none, .int j uj, .none] } } :=
  tail_of_ItemOn (SBH.sliceItem_ns (keptK s) (fun _ _ e => e) h hsz) hs ht
theorem slice_take (p : List Nat) (k : Nat) (h : k ≤ p.length) : Txt.slice (S p) none (some (k : Int)) = S (p.take k) := by
  have := eq_of_beq (slice_closes_to (x := S p) (j := (k : Int)) ⟨by omega, by simp [S]; exact h⟩)
  rw [this]
  simp [S]
theorem slice_one (p : List Nat) : Txt.slice (S p) none (some 1) = S (p.take 1) := by
  cases p with
  | nil => rfl
  | cons c r => exact slice_take (c :: r) 1 (by simp)
end Mine
end
-- part F4
section
local macro_rules | `(tactic| walk_at "pad") => `(tactic| skip)
local macro_rules | `(tactic| walk_at "pad") => `(tactic| skip)
local macro_rules | `(tactic| walk_at "pad") => `(tactic| skip)
local macro_rules | `(tactic| walk_at "pad") => `(tactic| skip)
local macro_rules | `(tactic| walk_at "pad") => `(tactic| skip)
local macro_rules | `(tactic| walk_at "pad") => `(tactic| skip)
local macro_rules | `(tactic| walk_at "pad") => `(tactic| skip)
local macro_rules | `(tactic| walk_at "pad") => `(tactic| skip)
local macro_rules | `(tactic| walk_at "pad") => `(tactic| skip)
local macro_rules | `(tactic| walk_at "pad") => `(tactic| skip)
local macro_rules | `(tactic| walk_at "pad") => `(tactic| skip)
local macro_rules | `(tactic| walk_at "pad") => `(tactic| skip)
local macro_rules | `(tactic| walk_at "pad") => `(tactic| skip)
local macro_rules | `(tactic| walk_at "pad") => `(tactic| skip)
open PySem PySem.W PyProof.Rows
set_option Elab.async false
set_option maxRecDepth 100000
set_option maxHeartbeats 4000000
set_option pp.deepTerms false
set_option pp.deepTerms.threshold 5
set_option pp.maxSteps 20000
set_option linter.unusedSimpArgs false
set_option linter.unusedVariables false
namespace Mine
local macro_rules | `(tactic| walk_at "eval Name") => `(tactic| first
  | refine nmL (by assumption) (by first | rfl | assumption) ?_
  | refine nmG (by assumption) (by assumption) (by first | exact gl_twin_re_1 _ | exact gl_twin_re_2 _ | exact gl_CRLF _ | exact gl_quotedata _ | exact gl_fix_eols _ | exact gl_parse_varint _ | exact gl_law_numbers _ | exact gl_law_word _ | exact gl_law_spelled _ | exact gl_law_mails _ | exact gl_law_sent _ | exact gl_law_octets _ | exact gl_law_value _ | exact gl_law_primes _) ?_
  | refine nmB (by assumption) (by assumption) (by first | exact gb_next _ | exact gb_enumerate _ | exact gb_chr _ | exact gb_ord _ | exact gb_len _ | exact gb_sum _ | exact gb_range _ | exact gb_iter _ | exact gb_StopIteration _) (by boot_fast) ?_)
local macro_rules | `(tactic| walk_at "storeName") => `(tactic| (refine storeX_L (by assumption) (by assumption) ?_; intro h' F' N'; dsimp only at F' N' ⊢))

local macro_rules | `(tactic| walk_at "loadName") => `(tactic| refine wpAny_loadName_local rfl rfl (Fr.ns (by assumption)) (by first | rfl | assumption) ?_)
local macro_rules | `(tactic| walk_at "callWith ref") => `(tactic| refine callWith_K (Gd.X (by assumption)) (by kernel_rfl) ?_)
local macro_rules | `(tactic| walk_at "And") => `(tactic| ((with_reducible show Frag.In _ _ ∧ _); refine ⟨Frag.In.keeps (Gd.X (by assumption)) (Fr.keep (by assumption)), ?_⟩; (try dsimp only [List.nil_append, List.cons_append])))
local macro_rules | `(tactic| walk_at "eval ListComp") => `(tactic| refine lc (by with_unfolding_all first | exact closureFor_none (by decide) | rfl) (by decide) (by with_unfolding_all rfl) (by decide) ?_ (by intro _; with_unfolding_all rfl))


theorem IntsAre.set {n : Int} {t : Tok} : ∀ {vs : List Value} {ns : List Int} {j : Nat}, IntsAre vs ns → IntsAre (vs.set j (.int n t)) (ns.set j n)
  | _, _, _, .nil => .nil
  | _, _, 0, .cons _ _ h => .cons _ _ h
  | _, _, _ + 1, .cons _ _ h => .cons _ _ (IntsAre.set h)

theorem numbers_spec {w : World} {A : Around} {E : Value → Shared → Prop} {s : Shared} {a : Addr} {vs : List Value} {ns : List Int} (G : Gd w s.heap) (hA : A.depth < recursionLimit) (hh : A.handled = none)
    (hl : s.heap.IsList a vs.toArray) (hi : IntsAre vs ns) (hn : ns.length ≤ 63) :
    wpAny (model PP w) A (call (.ref 69) [.ref a]) (RetL (fun items => ∃ ms : List Int, IntsAre items ms ∧ ms.length = 10) s) E s := by
  refine enter G hA (by rfl) (by rfl) (binds := [("script", .ref a)]) (by rfl) (locs rfl) (by decide) rfl rfl rfl fun h₁ F => ?_
  have N : News s.heap s.heap.objs.size h₁ [] := News.nil
  have haL : a ≠ s.heap.objs.size := by obtain ⟨o, ho, _⟩ := hl; exact Nat.ne_of_lt (Heap.lt_size ho)
  iterate 27 walk1
  rename Fr _ _ _ _ => F
  rename News _ _ _ _ => N
  refine For_turns F ?_
  walk1
  walk1
  walk1
  walk1
  walk1
  walk1
  refine for_enum hh rfl rfl rfl F N hl (fun i m news => ∃ c o k items ms, news = [(c, o)] ∧ o.cls = .type "list" ∧ o.data = .seq (List.toArray items) k ∧ m "numbers" = some (.ref c) ∧ IntsAre items ms ∧ ms.length = 10) ?_ ?_ ?_
  · exact ⟨_, _, _, _, [1, 2, 2, 1, 0, 2, 0, 0, 0, 0], rfl, rfl, rfl, rfl, by repeat constructor, rfl⟩
  · rintro i x t m₁ news₁ h₂ tk₁ own wr hx ⟨c, o, k, items, ms, rfl, hoc, hod, hm, hms, hlen⟩ hw hown F₂ N₂
    obtain ⟨n, tn, rfl, _⟩ := IntsAre.at hi i x (by simpa using hx)
    dsimp only at F₂ N₂ ⊢
    repeat' walk1
    have r0 : 0 ≤ ((i : Int)).fmod 10 := Int.fmod_nonneg_of_pos _ (by decide)
    have r1 : ((i : Int)).fmod 10 < 10 := Int.fmod_lt_of_pos _ (by decide)
    generalize ((i : Int)).fmod 10 = j at r0 r1
    have hlen2 : items.length = 10 := by rw [← hlen]; exact IntsAre.length hms
    obtain ⟨v, hv⟩ : ∃ v, items[j.toNat]? = some v := ⟨_, List.getElem?_eq_getElem (by omega)⟩
    obtain ⟨n₀, t₀, rfl, hn₀⟩ := IntsAre.at hms _ _ hv
    have hlc : h₂.IsList c items.toArray := ⟨o, N₂.get (List.mem_append_right _ (.head _)), hoc, k, hod⟩
    refine wpAny_getItem_list hlc r0 (by omega) (by simpa using hv) ?_
    repeat' walk1
    refine wpAny_setItem_list hlc r0 (by omega) (by simp; omega) fun h₃ hl₃ hs₃ => ?_
    refine wpAny_execs_nil ?_
    obtain ⟨o', ho', hoc', k', hod'⟩ := hl₃
    have hcL : c ≠ s.heap.objs.size := (N₂ _ (List.mem_append_right _ (.head _))).2.1
    have hc0 : s.heap.get? c = none := (N₂ _ (List.mem_append_right _ (.head _))).2.2
    rw [List.setIfInBounds_toArray] at hod'
    refine LoopStepU.intro (news₂ := [(c, o')]) (m₂ := _) ⟨F₂.ns.sameBut hs₃ (Ne.symm hcL), fun b ob e => hs₃.extBut b ob (fun q => by rw [q, hc0] at e; cases e) (F₂.keep b ob e), F₂.above⟩ (News.setAt N₂ (fun p hp => hown p hp _ (.head _)) (by simp) hs₃ ho') ?_ ⟨c, o', k', _, ms.set j.toNat (n₀ + n), rfl, hoc', hod', hm, ?_, by simpa using hlen⟩
    · intro p hp
      have := hw (c, o) (.head _)
      rw [List.mem_singleton.mp hp]; exact this
    · exact IntsAre.set hms
  · rintro h' tk m' news' F' N' ⟨c, o, k, items, ms, rfl, hoc, hod, hm, hms, hlen⟩
    dsimp only at F' N' ⊢
    repeat' walk1
    exact retL_of F' N' (.head _) ⟨ms, hms, hlen⟩ hoc hod
end Mine
end
-- part M1
section
/-! Texts and lists of codes: split, join, replace. -/
open PySem PySem.W PyProof.Rows
namespace Mine

def jn (sep : List Nat) : List (List Nat) → List Nat
  | [] => []
  | [p] => p
  | p :: q :: r => p ++ sep ++ jn sep (q :: r)
def dotrow (p : List Nat) : List Nat := if p.head? = some 46 then 46 :: p else p

theorem join_S (sep : List Nat) : ∀ ps : List (List Nat), Str.join (S sep) (ps.map S) = S (jn sep ps)
  | [] => rfl
  | [p] => rfl
  | p :: q :: r => by
    have ih := join_S sep (q :: r)
    show S p ++ S sep ++ Str.join (S sep) ((q :: r).map S) = _
    rw [ih, S_append, S_append]; rfl
theorem S_inj {a b : List Nat} (h : S a = S b) : a = b := by
  have : a.toArray = b.toArray := Str.mk.inj h
  simpa using this
theorem S_toList (x : Str) : S x.cps.toList = x := by simp [S]
theorem S_cps (l : List Nat) : (S l).cps.toList = l := by simp [S]
theorem S_beq (a b : List Nat) : (S a == S b) = decide (a = b) := by
  by_cases h : a = b
  · subst h; simp
  · have : S a ≠ S b := fun e => h (S_inj e)
    simp [h, this]

theorem phi_plain : ∀ {p : List Nat}, 10 ∉ p → phi p = p
  | [], _ => rfl
  | c :: r, h => by
    have h1 : c ≠ 10 := fun e => h (e ▸ .head _)
    rw [phi, if_neg h1, phi_plain fun e => h (.tail _ e)]
theorem phi_jn : ∀ {ps : List (List Nat)}, (∀ p ∈ ps, 10 ∉ p) → phi (jn [10] ps) = jn [13, 10] ps
  | [], _ => rfl
  | [p], h => phi_plain (h p (.head _))
  | p :: q :: r, h => by
    have ih := phi_jn (ps := q :: r) fun x hx => h x (.tail _ hx)
    simp only [jn]
    rw [phi_append, phi_append, phi_plain (h p (.head _)), ih]; rfl
theorem dotF_plain {r : List Nat} : ∀ {p : List Nat}, 10 ∉ p → dotF false (p ++ 13 :: 10 :: r) = p ++ 13 :: 10 :: dotF true r
  | [], _ => by simp [dotF]
  | c :: p, h => by
    have h1 : (c == 10) = false := by
      have : c ≠ 10 := fun e => h (e ▸ .head _)
      simp [this]
    simp only [List.cons_append, dotF, Bool.false_and, Bool.false_eq_true, if_false, h1]
    rw [dotF_plain fun e => h (.tail _ e)]
theorem dotF_plain0 : ∀ {p : List Nat}, 10 ∉ p → dotF false p = p
  | [], _ => rfl
  | c :: p, h => by
    have h1 : (c == 10) = false := by
      have : c ≠ 10 := fun e => h (e ▸ .head _)
      simp [this]
    simp only [dotF, Bool.false_and, Bool.false_eq_true, if_false, h1]
    rw [dotF_plain0 fun e => h (.tail _ e)]
theorem dotF_row0 {p : List Nat} (h : 10 ∉ p) : dotF true p = dotrow p := by
  cases p with
  | nil => rfl
  | cons c p =>
    have hp : 10 ∉ p := fun e => h (.tail _ e)
    have h1 : (c == 10) = false := by
      have : c ≠ 10 := fun e => h (e ▸ .head _)
      simp [this]
    by_cases h46 : c = 46
    · subst h46; simp [dotF, dotrow, dotF_plain0 hp]
    · simp [dotF, dotrow, h46, h1, dotF_plain0 hp]
theorem dotF_row {p r : List Nat} (h : 10 ∉ p) : dotF true (p ++ 13 :: 10 :: r) = dotrow p ++ 13 :: 10 :: dotF true r := by
  cases p with
  | nil => simp [dotF, dotrow]
  | cons c p =>
    have hp : 10 ∉ p := fun e => h (.tail _ e)
    have h1 : (c == 10) = false := by
      have : c ≠ 10 := fun e => h (e ▸ .head _)
      simp [this]
    by_cases h46 : c = 46
    · subst h46; simp [dotF, dotrow, dotF_plain hp]
    · simp [dotF, dotrow, h46, h1, dotF_plain hp]
theorem dot_jn : ∀ {ps : List (List Nat)}, (∀ p ∈ ps, 10 ∉ p) → dotF true (jn [13, 10] ps) = jn [13, 10] (ps.map dotrow)
  | [], _ => rfl
  | [p], h => dotF_row0 (h p (.head _))
  | p :: q :: r, h => by
    have ih := dot_jn (ps := q :: r) fun x hx => h x (.tail _ hx)
    simp only [jn, List.map_cons] at ih ⊢
    rw [List.append_assoc, List.append_assoc, ← ih]
    exact dotF_row (h p (.head _))

theorem nl_S : Str.ofString "\n" = S [10] := rfl
theorem crlf_S : Str.ofString "\r\n" = S [13, 10] := rfl
/-- a split by the end of a line -/
theorem split_S (l : List Nat) : ∃ ps : List (List Nat), Txt.split (S l) (Str.ofString "\n") = ps.map S ∧ (∀ p ∈ ps, 10 ∉ p) ∧ jn [10] ps = l := by
  refine ⟨(Txt.split (S l) (Str.ofString "\n")).map (fun x => x.cps.toList), ?_, ?_, ?_⟩
  · rw [List.map_map]
    conv => lhs; rw [← List.map_id (Txt.split (S l) (Str.ofString "\n"))]
    refine List.map_congr_left fun x _ => (S_toList x).symm
  · intro p hp
    obtain ⟨x, hx, rfl⟩ := List.mem_map.mp hp
    exact StrLaws.split_free (S l) 10 x hx
  · refine S_inj ?_
    rw [← join_S, List.map_map]
    have e : (Txt.split (S l) (Str.ofString "\n")).map (S ∘ fun x => x.cps.toList) = Txt.split (S l) (Str.ofString "\n") := by
      conv => rhs; rw [← List.map_id (Txt.split (S l) (Str.ofString "\n"))]
      exact List.map_congr_left fun x _ => S_toList x
    rw [e]
    exact StrLaws.join_split (S l) (S [10])
theorem replace_S (l : List Nat) : Txt.replace (S l) (Str.ofString "\n") (Str.ofString "\r\n") = S (phi l) := by
  obtain ⟨ps, h1, h2, h3⟩ := split_S l
  have e := StrLaws.replace_one (S l) (S [13, 10]) 10
  rw [crlf_S]
  refine Eq.trans e ?_
  have h1' : Txt.split (S l) ⟨#[10]⟩ = ps.map S := h1
  rw [h1', join_S, ← phi_jn h2, h3]
theorem jn_count (sep : List Nat) (hs : sep ≠ []) : ∀ ps : List (List Nat), ps.length ≤ (jn sep ps).length + 1
  | [] => Nat.zero_le _
  | [p] => by simp
  | p :: q :: r => by
    have ih := jn_count sep hs (q :: r)
    have : 1 ≤ sep.length := by cases sep with | nil => exact absurd rfl hs | cons a b => simp
    simp only [jn, List.length_append, List.length_cons] at ih ⊢
    omega
end Mine
namespace Mine
open PySem PySem.W PyProof.Rows
theorem jn_mem_length {sep p : List Nat} : ∀ {ps : List (List Nat)}, p ∈ ps → p.length ≤ (jn sep ps).length
  | [q], h => by rcases List.mem_singleton.mp h with rfl; exact Nat.le_refl _
  | q :: r :: t, h => by
    simp only [jn, List.length_append]
    rcases List.mem_cons.mp h with rfl | h
    · omega
    · have := jn_mem_length (sep := sep) h
      omega
theorem strs_of : ∀ (g : List Str) (ys : List Value), ys.length = g.length → (∀ (i : Nat) (y : Value), ys[i]? = some y → ∃ x t, g[i]? = some x ∧ y = .str x t) → ∃ lq : List (Str × Tok), strValues lq = ys ∧ lq.map (·.1) = g
  | [], [], _, _ => ⟨[], rfl, rfl⟩
  | x :: g, y :: ys, hl, h => by
    obtain ⟨lq, h1, h2⟩ := strs_of g ys (by simpa using hl) fun i z hz => by simpa using h (i + 1) z (by simpa using hz)
    obtain ⟨x', t, e1, rfl⟩ := h 0 y rfl
    simp at e1
    subst e1
    exact ⟨(x, t) :: lq, by simp [strValues] at h1 ⊢; exact h1, by simp [h2]⟩
end Mine

namespace Mine
open PySem PySem.W PyProof.Rows
theorem ints_of : ∀ (g : List Int) (ys : List Value), ys.length = g.length → (∀ (i : Nat) (y : Value), ys[i]? = some y → ∃ x t, g[i]? = some x ∧ y = .int x t) → IntsAre ys g
  | [], [], _, _ => .nil
  | x :: g, y :: ys, hl, h => by
    have ih := ints_of g ys (by simpa using hl) fun i z hz => by simpa using h (i + 1) z (by simpa using hz)
    obtain ⟨x', t, e1, rfl⟩ := h 0 y rfl
    simp at e1
    subst e1
    exact .cons _ _ ih

/-- the octets of a text -/
def octAt (n i c : Nat) : Int := (c : Int) + (((i % 2 : Nat) : Int) * 128) + (if i + 1 < n then 64 else 0)
def octs (l : List Nat) : List Int := l.mapIdx fun i c => octAt l.length i c
/-- the number of a text to the base 64 -/
def val (l : List Nat) : Nat := l.foldl (fun a c => a * 64 + c) 0
end Mine
end
-- part B4
section
local macro_rules | `(tactic| walk_at "pad") => `(tactic| skip)
local macro_rules | `(tactic| walk_at "pad") => `(tactic| skip)
local macro_rules | `(tactic| walk_at "pad") => `(tactic| skip)
local macro_rules | `(tactic| walk_at "pad") => `(tactic| skip)
local macro_rules | `(tactic| walk_at "pad") => `(tactic| skip)
local macro_rules | `(tactic| walk_at "pad") => `(tactic| skip)
local macro_rules | `(tactic| walk_at "pad") => `(tactic| skip)
local macro_rules | `(tactic| walk_at "pad") => `(tactic| skip)
local macro_rules | `(tactic| walk_at "pad") => `(tactic| skip)
local macro_rules | `(tactic| walk_at "pad") => `(tactic| skip)
local macro_rules | `(tactic| walk_at "pad") => `(tactic| skip)
local macro_rules | `(tactic| walk_at "pad") => `(tactic| skip)
local macro_rules | `(tactic| walk_at "pad") => `(tactic| skip)
local macro_rules | `(tactic| walk_at "pad") => `(tactic| skip)
open PySem PySem.W PyProof.Rows
set_option Elab.async false
set_option maxRecDepth 100000
set_option maxHeartbeats 4000000
set_option linter.unusedVariables false
namespace Mine

section
variable {w : World} {A : Around} {E : Value → Shared → Prop} {s : Shared} {name qual : Str} {params : Arguments} {body : List Stmt} {scope : Scope} {dV kV doc pm cdv ct oc : Value} {an od : Option Addr} {osl : Array (Option Value)} {f : Addr} {args : List Value} {binds : List (Str × Value)} {Q : Value → Shared → Prop}
/-- a call of a function with captured names -/
theorem enterC (G : Gd w s.heap) (hroom : A.depth < recursionLimit)
    (ho : (KK w).lookup f = some ⟨oc, od, .func (fnX name qual params body scope [] dV kV doc pm an cdv ct), osl⟩) (hcd : codeIn (KK w) cdv qual = true)
    (hbind : bindArgs (fnX name qual params body scope [] dV kV doc pm an cdv ct) ⟨args, []⟩ = pure binds)
    (hkind : ∀ n, ∀ x ∈ binds, scope.names.lookup x.1 = some .local ∨ (scope.names.lookup x.1 = some .cell ∧ ((cellsFrom n scope.names []).lookup x.1).isSome = true))
    (hnd : ((cellsFrom 0 scope.names []).map (·.1)).Nodup) (hco : scope.isCoroutine = false) (hgen : scope.isGenerator = false) (hk : scope.kind = .function)
    (h : ∀ h₁ tk cells, Fr s.heap s.heap.objs.size h₁ (bindL (envOfC qual scope s.heap.objs.size f cdv).kindOf binds fun _ => none) → News s.heap s.heap.objs.size h₁ cells →
      CellsAre (bindC (envOfC qual scope s.heap.objs.size f cdv).kindOf binds fun _ => none) (cellsFrom (s.heap.objs.size + 1) scope.names []) cells →
      wpAny (model PP w) (A.deeper (envX qual scope s.heap.objs.size f cdv (cellsFrom (s.heap.objs.size + 1) scope.names []))) (execs body (envX qual scope s.heap.objs.size f cdv (cellsFrom (s.heap.objs.size + 1) scope.names [])))
        (fun fl s' => Q (match fl with | .ret v => v | _ => .none) s') (fun _ _ => False) { s with heap := h₁, toks := tk }) :
    wpAny (model PP w) A (call (.ref f) args) Q E s := by
  refine wpAny_call (codeAny_call_function (fd := fnX name qual params body scope [] dV kV doc pm an cdv ct) hroom (G.X _ _ ho) rfl hco hgen rfl (codeRec_of G.X hcd) ?_)
  refine BindsTo.of_eq hbind _ _ _ _ ?_
  refine wpAny_newFunctionEnv_cells hk (hkind _) fun env' he s' x => ?_
  subst he
  refine ⟨G.lim.keeps x.toInCall.keep, codeAny_func ?_⟩
  obtain ⟨h₁, tk, rfl, _⟩ := x.done
  have hk₁ := x.toInCall.keep
  obtain ⟨cells, NC, Y⟩ := Cl.news (h₀ := s.heap) (Nat.le_refl _) fun n c hm => ⟨x.cell n c (lookup_of_mem_nodup (cellsFrom_names scope.names 0 (s.heap.objs.size + 1) [] [] rfl ▸ hnd) hm), x.above n c hm⟩
  exact wpAny_mono (h h₁ tk cells ⟨x.toInCall.ns, hk₁, Nat.le_refl _⟩ NC Y) (fun _ _ y => y) (fun _ _ y => y.elim)
end

section
variable {w : World} {A : Around} {E : Value → Shared → Prop} {s : Shared} {env : Env} {x : Str} {pos : Pos} {v : Value} {c : Addr} {Q : Value → Shared → Prop}
theorem nmC {M : Model} (hv : s.heap.IsCell c (some v)) (hc : env.cells.lookup x = some c) (h : Q v s)
    (hk : env.scope.kind = .function := by rfl) (hx : env.kindOf x = some .cell := by rfl) (hd : (x == ("__debug__" : Str)) = false := by decide) :
    wpAny M A (eval (.Name x pos) env) Q E s := wpAny_Name (wpAny_loadName_cell hk hx hc hv h) hd
end

section
variable {w : World} {A : Around} {E : Value → Shared → Prop} {env : Env} {I : Addr} {fp wr : List Addr} {n : Nat} {St : Nat → Heap → Prop}
theorem CT.pair2 {a b : Str} {pa pb tp : Pos} {kk : Nat} {Pt : Nat → Array Value → Prop} {P2 : Nat → Value → Value → Prop} {Mid : Nat → Addr → Heap → Prop} (hh : A.handled = none) (hab : ¬ a = b)
    (W : WalksU PP w A I fp wr n Pt St Mid) (hP2 : ∀ i v, i < n → Pt i v → ∃ x y, v = #[x, y] ∧ P2 i x y) :
    CT w A (.Tuple [.Name a pa, .Name b pb] kk tp) I fp wr n (okNN a b) (fun i m => ∃ x y, P2 i x y ∧ m a = some x ∧ m b = some y) St where
  sub := W.sub
  frame := W.frame
  item := fun i s env m Q E hi st hc hL hn hQ => by
    have hLw : env.locals ∉ wr := fun h => hL (W.sub _ h)
    refine W.item i s _ _ hi st fun T vals h₁ tk₁ hP hT hm hk₁ => ?_
    refine W.go _ _ _ i T _ _ _ hm fun h₂ st₂ hk₂ => ?_
    obtain ⟨x, y, rfl, hxy⟩ := hP2 i vals hi hP
    have hT₂ : h₂.IsTuple T #[x, y] := hT.at fun o e => hk₂ T o (W.apart i T _ hm) e
    have hn₂ : h₂.Ns env.locals m := (hn.at' fun o e => hk₁ _ o hLw e).at' fun o e => hk₂ _ o hLw e
    refine kcp_assign hh hT₂ hc.1 hc.2.1 hc.2.2 hn₂ fun h₃ tk₃ hn₃ hk₃ => ?_
    refine hQ h₃ tk₃ _ (W.frame _ _ _ st₂ fun c hb o e => hk₃ c o (fun q => hL (q ▸ hb)) e) hn₃ ⟨x, y, hxy, ?_, ?_⟩ fun c o hc' hw e => hk₃ c o hc' (hk₂ c o hw (hk₁ c o hw e))
    · simp [hab]
    · simp
  done := W.done
  self := W.self
end

section
variable {w : World} {A : Around} {E : Value → Shared → Prop} {s : Shared} {env : Env} {elt : PySem.Expr} {scope : Scope} {cl : List (Str × Addr)} {Fin : Shared → List Addr → List Value → Prop}

theorem get_none_of_le {h : Heap} {a : Addr} (ha : h.objs.size ≤ a) : h.get? a = none := Heap.get?_none_of_le ha

/-- for a, b in enumerate(text) -/
theorem src_enum_str {a b : Str} {pa pb tp : Pos} {kk : Nat} {l : List Nat} {t : Tok} (hh : A.handled = none) (hab : ¬ a = b) (hsz : l.length ≤ sizeLine) (F : Nat → Value → Prop)
    (hasc : strIterType (S l) = "str_ascii_iterator") (hcok : ∀ C, okNN a b (compEnvC scope cl C env))
    (helt : ∀ C i c t u s₃ m₃ E', l[i]? = some c → m₃ a = some (.int i t) → m₃ b = some (.str (S [c]) u) → Fr s.heap C s₃.heap m₃ → wpAny (model PP w) A (eval elt (compEnvC scope cl C env)) (Ret (F i) s₃) E' s₃)
    (hF : ∀ (s₂ : Shared) (wr : List Addr) (ys : List Value), (∀ b o, s.heap.get? b = some o → s₂.heap.get? b = some o) → (∀ b o, s.heap.get? b = some o → b ∉ wr) → s₂ = { s with heap := s₂.heap, toks := s₂.toks } → ys.length = l.length → (∀ i y, ys[i]? = some y → F i y) → Fin s₂ wr ys) :
    wpAny (model PP w) A (call (.type "enumerate") [.str (S l) t]) (fun xv s₁ => wpAny (model PP w) A (pyIter xv) (LcI w A elt (.Tuple [.Name a pa, .Name b pb] kk tp) scope cl env Fin) E s₁) E s := by
  refine call_enumerate_str fun h' hE hI hz hk => ?_
  refine wpAny_pyIter_enum hE ?_
  rw [hasc] at hI
  have hne : s.heap.objs.size + 1 ≠ s.heap.objs.size := Nat.succ_ne_self _
  have W := (WalksT.enumerateD (Draws.strAscii (prog := PP) (w := w) (A := A.in1) hh s.heap.objs.size (S l) t) (s.heap.objs.size + 1) hne (by simp) (by simp)).toU
  have hcs : (S l).cps.size = l.length := by simp [S]
  refine ⟨_, _, _, _, _, _, _, s.heap, F, rfl, CT.pair2 (P2 := fun i x y => ∃ c t u, l[i]? = some c ∧ x = .int i t ∧ y = .str (S [c]) u) hh hab W ?_, by rw [hcs]; exact hsz, hcok, ⟨⟨_, hE⟩, hI⟩, ?_, hk, ?_, ?_, ?_, ?_⟩
  · rintro i v hi ⟨t, x, ⟨c, u, hc, rfl⟩, rfl⟩
    exact ⟨_, _, rfl, c, t, u, by simpa [S] using hc, rfl, rfl⟩
  · intro b hb
    simp only [List.mem_cons, List.not_mem_nil, or_false] at hb
    dsimp only
    rw [hz]
    rcases hb with rfl | rfl
    · exact Nat.lt_succ_self _
    · exact Nat.lt_succ_of_lt (Nat.lt_succ_self _)
  · dsimp only; rw [hz]; omega
  · intro b hb
    simp only [List.mem_cons, List.not_mem_nil, or_false] at hb
    rcases hb with rfl | rfl
    · exact get_none_of_le (Nat.le_succ _)
    · exact get_none_of_le (Nat.le_refl _)
  · rintro C i s₃ m₃ E' hi ⟨x, y, ⟨c, t, u, hc, rfl, rfl⟩, hx, hy⟩ F₃
    exact helt C i c t u s₃ m₃ E' hc hx hy F₃
  · intro ys hlen hys
    refine hF _ _ ys hk (fun b o e hb => ?_) rfl (by rw [hlen, hcs]) hys
    have := Heap.lt_size e
    simp only [List.mem_cons, List.not_mem_nil, or_false] at hb
    rcases hb with h | h
    · rw [h] at this; exact Nat.not_lt.mpr (Nat.le_succ _) this
    · rw [h] at this; exact Nat.lt_irrefl _ this

/-- for x in range(a, b), of the made range -/
theorem src_range {x : Str} {px : Pos} {r : Addr} {a b : Int} {t u v : Tok} (hh : A.handled = none) (hr : IsRange s.heap r a b 1 t u v) (hab : a ≤ b) (ha : -(2 ^ 62) ≤ a) (hb : b < 2 ^ 62) (hsz : (b - a).toNat ≤ sizeLine) (F : Nat → Value → Prop)
    (hcok : ∀ C, okN x (compEnvC scope cl C env))
    (helt : ∀ C i t s₃ m₃ E', i < (b - a).toNat → m₃ x = some (.int (a + i) t) → Fr s.heap C s₃.heap m₃ → wpAny (model PP w) A (eval elt (compEnvC scope cl C env)) (Ret (F i) s₃) E' s₃)
    (hF : ∀ (s₂ : Shared) (wr : List Addr) (ys : List Value), (∀ b o, s.heap.get? b = some o → s₂.heap.get? b = some o) → (∀ b o, s.heap.get? b = some o → b ∉ wr) → s₂ = { s with heap := s₂.heap, toks := s₂.toks } → ys.length = (b - a).toNat → (∀ i y, ys[i]? = some y → F i y) → Fin s₂ wr ys) :
    wpAny (model PP w) A (pyIter (.ref r)) (LcI w A elt (.Name x px) scope cl env Fin) E s := by
  refine wpAny_pyIter_range hr (small_one ha (by omega) (by omega) hb) ?_
  have hn : Builtin.Range.rangeSize a b 1 = ((b - a).toNat : Int) := by rw [rangeSize_one]; split <;> omega
  refine ⟨s.heap.objs.size, _, _, _, _, _, _, s.heap, F, rfl, CT.name (Walks.range hh s.heap.objs.size a 1 (b - a).toNat), hsz, hcok, ?_, ?_, ?_, ?_, ?_, ?_, ?_⟩
  · rw [hn]
    have := Heap.get?_push_size s.heap (o := { cls := .type "range_iterator", data := .fields #[rawInt a, rawInt ((b - a).toNat : Int), rawInt 1] }) rfl
    simpa [IsRangeIter] using this
  · intro b hb
    simp only [List.mem_cons, List.not_mem_nil, or_false] at hb
    rw [Heap.size_push, hb]; exact Nat.lt_succ_self _
  · intro b o e; exact Heap.get?_push_of_some _ e
  · rw [Heap.size_push]; exact Nat.le_succ _
  · intro b hb
    simp only [List.mem_cons, List.not_mem_nil, or_false] at hb
    subst hb
    exact get_none_of_le (Nat.le_refl _)
  · rintro C i s₃ m₃ E' hi ⟨v, ⟨t, rfl⟩, hm⟩ F₃
    refine helt C i t s₃ m₃ E' hi ?_ F₃
    simpa using hm
  · intro ys hlen hys
    refine hF _ _ ys (fun b o e => Heap.get?_push_of_some _ e) (fun b o e hb => ?_) rfl hlen hys
    simp only [List.mem_cons, List.not_mem_nil, or_false] at hb
    exact Nat.ne_of_lt (Heap.lt_size e) hb

/-- for a, b in a list of pairs -/
theorem src_pairs {a b : Str} {pa pb tp : Pos} {kk : Nat} {ax : Addr} {items : Array Value} {Ts : Nat → Addr} {vals : Nat → Array Value} (hh : A.handled = none) (hab : ¬ a = b) (hl : s.heap.IsList ax items) (hsz : items.size ≤ sizeLine)
    (hit : ∀ j, j < items.size → items[j]? = some (.ref (Ts j))) (htu : ∀ j, j < items.size → s.heap.IsTuple (Ts j) (vals j)) (P2 : Nat → Value → Value → Prop) (hP2 : ∀ j, j < items.size → ∃ x y, vals j = #[x, y] ∧ P2 j x y) (F : Nat → Value → Prop)
    (hcok : ∀ C, okNN a b (compEnvC scope cl C env))
    (helt : ∀ C i x y s₃ m₃ E', i < items.size → P2 i x y → m₃ a = some x → m₃ b = some y → Fr s.heap C s₃.heap m₃ → wpAny (model PP w) A (eval elt (compEnvC scope cl C env)) (Ret (F i) s₃) E' s₃)
    (hF : ∀ (s₂ : Shared) (wr : List Addr) (ys : List Value), (∀ b o, s.heap.get? b = some o → s₂.heap.get? b = some o) → (∀ b o, s.heap.get? b = some o → b ∉ wr) → s₂ = { s with heap := s₂.heap, toks := s₂.toks } → ys.length = items.size → (∀ i y, ys[i]? = some y → F i y) → Fin s₂ wr ys) :
    wpAny (model PP w) A (pyIter (.ref ax)) (LcI w A elt (.Tuple [.Name a pa, .Name b pb] kk tp) scope cl env Fin) E s := by
  have haI : ax < s.heap.objs.size := by obtain ⟨o, ho, _⟩ := hl; exact Heap.lt_size ho
  have hTI : ∀ j, j < items.size → Ts j < s.heap.objs.size := fun j hj => by obtain ⟨o, ho, _⟩ := htu j hj; exact Heap.lt_size ho
  refine wpAny_pyIter_list hl ⟨s.heap.objs.size, _, _, _, _, _, _, s.heap, F, rfl, CT.pair2 (P2 := P2) hh hab (WalksU.listOfTuples hh s.heap.objs.size ax (Nat.ne_of_lt haI) items Ts vals hit fun j hj => Nat.ne_of_lt (hTI j hj)) ?_, hsz, hcok, ?_, ?_, ?_, ?_, ?_, ?_, ?_⟩
  · rintro i v hi rfl
    exact hP2 i hi
  · exact ⟨⟨_, Heap.get?_push_size _ rfl, rfl, rfl⟩, isList_up hl fun b o e => Heap.get?_push_of_some _ e, fun k hk => (htu k hk).at fun o e => Heap.get?_push_of_some _ e⟩
  · intro b hb
    rw [Heap.size_push]
    simp only [List.mem_cons, List.mem_map, List.mem_range] at hb
    rcases hb with rfl | rfl | ⟨j, hj, rfl⟩
    · exact Nat.lt_succ_self _
    · exact Nat.lt_succ_of_lt haI
    · exact Nat.lt_succ_of_lt (hTI j hj)
  · intro b o e; exact Heap.get?_push_of_some _ e
  · rw [Heap.size_push]; exact Nat.le_succ _
  · intro b hb
    simp only [List.mem_cons, List.not_mem_nil, or_false] at hb
    subst hb
    exact get_none_of_le (Nat.le_refl _)
  · rintro C i s₃ m₃ E' hi ⟨x, y, hxy, hx, hy⟩ F₃
    exact helt C i x y s₃ m₃ E' hi hxy hx hy F₃
  · intro ys hlen hys
    refine hF _ _ ys (fun b o e => Heap.get?_push_of_some _ e) (fun b o e hb => ?_) rfl hlen hys
    simp only [List.mem_cons, List.not_mem_nil, or_false] at hb
    exact Nat.ne_of_lt (Heap.lt_size e) hb
end
end Mine
end
-- part F7
section
open PySem PySem.W PyProof.Rows
set_option Elab.async false
set_option maxRecDepth 100000
set_option maxHeartbeats 4000000
set_option pp.deepTerms false
set_option pp.deepTerms.threshold 5
set_option pp.maxSteps 20000
set_option linter.unusedSimpArgs false
set_option linter.unusedVariables false
namespace Mine
local macro_rules | `(tactic| walk_at "eval Name") => `(tactic| first
  | refine nmL (by assumption) (by first | rfl | assumption) ?_
  | refine nmC (by assumption) (by rfl) ?_
  | refine nmG (by assumption) (by assumption) (by first | exact gl_twin_re_1 _ | exact gl_twin_re_2 _ | exact gl_CRLF _ | exact gl_quotedata _ | exact gl_fix_eols _ | exact gl_parse_varint _ | exact gl_law_numbers _ | exact gl_law_word _ | exact gl_law_spelled _ | exact gl_law_mails _ | exact gl_law_sent _ | exact gl_law_octets _ | exact gl_law_value _ | exact gl_law_primes _) ?_
  | refine nmB (by assumption) (by assumption) (by first | exact gb_next _ | exact gb_enumerate _ | exact gb_chr _ | exact gb_ord _ | exact gb_len _ | exact gb_sum _ | exact gb_range _ | exact gb_iter _ | exact gb_StopIteration _) (by boot_fast) ?_)
local macro_rules | `(tactic| walk_at "storeName") => `(tactic| (refine storeX_L (by assumption) (by assumption) ?_; intro h' F' N'; dsimp only at F' N' ⊢))

local macro_rules | `(tactic| walk_at "loadName") => `(tactic| refine wpAny_loadName_local rfl rfl (Fr.ns (by assumption)) (by first | rfl | assumption) ?_)
local macro_rules | `(tactic| walk_at "callWith ref") => `(tactic| refine callWith_K (Gd.X (by assumption)) (by kernel_rfl) ?_)
local macro_rules | `(tactic| walk_at "And") => `(tactic| ((with_reducible show Frag.In _ _ ∧ _); refine ⟨Frag.In.keeps (Gd.X (by assumption)) (Fr.keep (by assumption)), ?_⟩; (try dsimp only [List.nil_append, List.cons_append])))
local macro_rules | `(tactic| walk_at "eval ListComp") => `(tactic| refine lc (by with_unfolding_all first | exact closureFor_none (by decide) | rfl) (by decide) (by with_unfolding_all rfl) (by decide) ?_ (by intro _; with_unfolding_all rfl))


theorem asc_S {l : List Nat} (h : ∀ c ∈ l, c < 64) : strIterType (S l) = "str_ascii_iterator" := by
  unfold strIterType
  rw [if_pos]
  rw [Array.all_eq_true']
  intro c hc
  have := h c (by simpa [S] using hc)
  simp; omega

theorem octets_spec {w : World} {A : Around} {E : Value → Shared → Prop} {s : Shared} {l : List Nat} {t : Tok} (G : Gd w s.heap) (hA : A.depth < recursionLimit) (hh : A.handled = none)
    (hl : l.length ≤ 100) (hc : ∀ c ∈ l, c < 64) :
    wpAny (model PP w) A (call (.ref 98) [.str (S l) t]) (RetL (fun items => IntsAre items (octs l)) s) E s := by
  refine enterC G hA (by rfl) (by rfl) (binds := [("even", .str (S l) t)]) (by rfl) (by intro n x hx; rcases List.mem_singleton.mp hx with rfl; exact .inr ⟨rfl, rfl⟩) (by decide) rfl rfl rfl fun h₁ tk cells F N Y => ?_
  obtain ⟨o, rfl, hd⟩ := CellsAre.one Y
  clear Y
  have hcell : h₁.IsCell (s.heap.objs.size + 1) (some (.str (S l) t)) := ⟨o, N.get (.head _), hd⟩
  iterate 9 walk1
  refine src_enum_str hh (by decide) (by rw [sizeLine_eq]; omega) (fun i v => ∃ c t, l[i]? = some c ∧ v = .int (octAt l.length i c) t) (asc_S hc) (fun C => ⟨rfl, rfl, rfl⟩) ?_ ?_
  · intro C i c ti tc s₃ m₃ E' hci hmk hms F₃
    have hcell₃ := hcell.keeps F₃.keep
    have G₃ := G.keeps (fun b o e => F₃.keep b o (F.keep b o e))
    have hc64 := hc c (List.mem_of_getElem? hci)
    have hi : i < l.length := (List.getElem?_eq_some_iff.mp hci).1
    have GF := G.keeps F.keep
    dsimp only at F₃ hcell₃
    repeat' walk1
    refine PySem.P.len_str (by rw [S_length]; omega) ?_
    rw [S_length]
    repeat' walk1
    all_goals
      refine ⟨⟨c, _, hci, congrArg (Value.int · _) ?_⟩, _, _, rfl, fun _ _ e => e⟩
      have h2 : ((i : Int)).fmod 2 = ((i % 2 : Nat) : Int) := by rw [Int.fmod_eq_emod_of_nonneg _ (by decide)]; omega
      rw [octAt, h2]
      congr 1
      split <;> first | rfl | omega
  · intro s₄ wr ys up hw e hlen hys
    refine fin_lc F N up hw e fun D k h' tk F₅ N₅ => ?_
    refine retL_of F₅ N₅ (.head _) (ints_of _ _ (by rw [hlen]; simp [octs]) fun i y hy => ?_)
    obtain ⟨c, t, h1, h2⟩ := hys i y hy
    exact ⟨_, t, by simp [octs, List.getElem?_mapIdx, h1], h2⟩
end Mine
end
-- part F6
section
local macro_rules | `(tactic| walk_at "pad") => `(tactic| skip)
local macro_rules | `(tactic| walk_at "pad") => `(tactic| skip)
local macro_rules | `(tactic| walk_at "pad") => `(tactic| skip)
local macro_rules | `(tactic| walk_at "pad") => `(tactic| skip)
local macro_rules | `(tactic| walk_at "pad") => `(tactic| skip)
local macro_rules | `(tactic| walk_at "pad") => `(tactic| skip)
local macro_rules | `(tactic| walk_at "pad") => `(tactic| skip)
local macro_rules | `(tactic| walk_at "pad") => `(tactic| skip)
local macro_rules | `(tactic| walk_at "pad") => `(tactic| skip)
local macro_rules | `(tactic| walk_at "pad") => `(tactic| skip)
local macro_rules | `(tactic| walk_at "pad") => `(tactic| skip)
local macro_rules | `(tactic| walk_at "pad") => `(tactic| skip)
local macro_rules | `(tactic| walk_at "pad") => `(tactic| skip)
local macro_rules | `(tactic| walk_at "pad") => `(tactic| skip)
open PySem PySem.W PyProof.Rows
set_option Elab.async false
set_option maxRecDepth 100000
set_option maxHeartbeats 4000000
set_option pp.deepTerms false
set_option pp.deepTerms.threshold 5
set_option pp.maxSteps 20000
set_option linter.unusedSimpArgs false
set_option linter.unusedVariables false
namespace Mine
local macro_rules | `(tactic| walk_at "eval Name") => `(tactic| first
  | refine nmL (by assumption) (by first | rfl | assumption) ?_
  | refine nmG (by assumption) (by assumption) (by first | exact gl_twin_re_1 _ | exact gl_twin_re_2 _ | exact gl_CRLF _ | exact gl_quotedata _ | exact gl_fix_eols _ | exact gl_parse_varint _ | exact gl_law_numbers _ | exact gl_law_word _ | exact gl_law_spelled _ | exact gl_law_mails _ | exact gl_law_sent _ | exact gl_law_octets _ | exact gl_law_value _ | exact gl_law_primes _) ?_
  | refine nmB (by assumption) (by assumption) (by first | exact gb_next _ | exact gb_enumerate _ | exact gb_chr _ | exact gb_ord _ | exact gb_len _ | exact gb_sum _ | exact gb_range _ | exact gb_iter _ | exact gb_StopIteration _) (by boot_fast) ?_)
local macro_rules | `(tactic| walk_at "storeName") => `(tactic| (refine storeX_L (by assumption) (by assumption) ?_; intro h' F' N'; dsimp only at F' N' ⊢))

local macro_rules | `(tactic| walk_at "loadName") => `(tactic| refine wpAny_loadName_local rfl rfl (Fr.ns (by assumption)) (by first | rfl | assumption) ?_)
local macro_rules | `(tactic| walk_at "callWith ref") => `(tactic| refine callWith_K (Gd.X (by assumption)) (by kernel_rfl) ?_)
local macro_rules | `(tactic| walk_at "And") => `(tactic| ((with_reducible show Frag.In _ _ ∧ _); refine ⟨Frag.In.keeps (Gd.X (by assumption)) (Fr.keep (by assumption)), ?_⟩; (try dsimp only [List.nil_append, List.cons_append])))
local macro_rules | `(tactic| walk_at "eval ListComp") => `(tactic| refine lc (by with_unfolding_all first | exact closureFor_none (by decide) | rfl) (by decide) (by with_unfolding_all rfl) (by decide) ?_ (by intro _; with_unfolding_all rfl))



theorem sent_spec {w : World} {A : Around} {E : Value → Shared → Prop} {s : Shared} {l : List Nat} {t : Tok} (G : Gd w s.heap) (hA : A.depth < recursionLimit) (hh : A.handled = none)
    (hl : l.length ≤ 100) :
    wpAny (model PP w) A (call (.ref 93) [.str (S l) t]) (Ret (fun v => ∃ t', v = .str (S (dotF true (phi l))) t') s) E s := by
  refine enter G hA (by rfl) (by rfl) (binds := [("word", .str (S l) t)]) (by rfl) (locs rfl) (by decide) rfl rfl rfl fun h₁ F => ?_
  have N : News s.heap s.heap.objs.size h₁ [] := News.nil
  repeat' walk1
  refine splitN1A F N (by decide +kernel) (fun lp h₂ k₂ hsplit hstrs hlen hL₂ F₂ N₂ => ?_) (by rw [S_length, sizeLine_eq]; omega)
  obtain ⟨ps, hps, hfree, hjn⟩ := split_S l
  rw [hps] at hsplit
  have hcount : ps.length ≤ 101 := by
    have := jn_count [10] (by simp) ps
    rw [hjn] at this
    omega
  have hlpl : lp.length = ps.length := by
    have := congrArg List.length hsplit
    simpa using this
  have hlp : ∀ (i : Nat) (v : Value), (strValues lp).toArray[i]? = some v → ∃ p tp, v = .str (S p) tp ∧ ps[i]? = some p ∧ p.length ≤ 100 := by
    intro i v hv
    have hv' : lp[i]?.map (fun p => Value.str p.1 p.2) = some v := by simpa [strValues] using hv
    obtain ⟨q, hq, rfl⟩ := Option.map_eq_some_iff.mp hv'
    have hm : (lp.map (·.1))[i]? = some q.1 := by simp [hq]
    have hl1 := hlen q.1 (List.mem_of_getElem? hm)
    rw [S_length] at hl1
    rw [hsplit, List.getElem?_map] at hm
    obtain ⟨p, hp, hpq⟩ := Option.map_eq_some_iff.mp hm
    rw [← hpq] at hl1 ⊢
    rw [S_length] at hl1
    exact ⟨p, q.2, rfl, hp, by omega⟩
  refine src_list hh hL₂ ?_ (fun i v => ∃ p t, ps[i]? = some p ∧ v = .str (S (dotrow p)) t) ?_ ?_ ?_
  · rw [sizeLine_eq, List.size_toArray]; simp [strValues]; omega
  · exact fun C => ⟨rfl, rfl⟩
  · intro C i v s₃ m₃ E' hv hm F₃
    obtain ⟨p, tp, rfl, hpi, hpl⟩ := hlp i v hv
    iterate 9 walk1
    refine slice_ns_k (fun h₄ t₄ k₄ up₄ => ?_) (by rw [S_length, sizeLine_eq]; omega)
    replace F₃ := fr_up F₃ up₄
    rw [slice_one]
    dsimp only at F₃ ⊢
    repeat' walk1
    · rename (_ == _) = true => ha
      rw [show Str.ofString "." = S [46] from rfl] at ha ⊢
      have h46 : p.head? = some 46 := by
        have h1 := eq_of_beq ha
        cases p with
        | nil => simp [S] at h1
        | cons c r => simp [S] at h1; simp [h1]
      refine PyProof.Rows.add_str (fun t' tk => ?_) (by rw [S_length, S_length, sizeLine_eq]; simp; omega)
      refine ⟨⟨p, t', hpi, ?_⟩, _, _, rfl, up₄⟩
      rw [S_append, dotrow, if_pos h46]; rfl
    · rename (_ == _) = false => ha
      rw [show Str.ofString "." = S [46] from rfl] at ha
      have h46 : p.head? ≠ some 46 := by
        intro h
        cases p with
        | nil => simp at h
        | cons c r =>
          simp at h; subst h
          exact absurd ha (by simp)
      refine ⟨⟨p, tp, hpi, ?_⟩, _, _, rfl, up₄⟩
      rw [dotrow, if_neg h46]
  · intro s₄ wr ys up hw e hlen2 hys
    refine fin_lc F₂ N₂ up hw e fun D k h' tk F₅ N₅ => ?_
    repeat' walk1
    obtain ⟨lq, hq1, hq2⟩ := strs_of (ps.map (fun p => S (dotrow p))) ys (by rw [hlen2]; simp [strValues, hlpl]) fun i y hy => by
      obtain ⟨p, t, h1, h2⟩ := hys i y hy
      exact ⟨S (dotrow p), t, by simp [h1], h2⟩
    subst hq1
    have hjl : ∀ p ∈ ps, p.length ≤ 100 := by
      intro p hp
      have : p.length ≤ (jn [10] ps).length := jn_mem_length hp
      rw [hjn] at this; omega
    refine SC.join (News.isList N₅ (.head _)) hq2 ?_ (fun t' k' => ?_)
    · unfold JoinOk
      rw [Bool.not_eq_true']
      refine StrLaws.joinFits (B := 101) ?_ ?_
      · intro y hy
        obtain ⟨p, hp, rfl⟩ := List.mem_map.mp hy
        rw [S_length]
        have := hjl p hp
        unfold dotrow
        split
        · simp; omega
        · omega
      · rw [show (Str.ofString "\r\n").length = 2 from rfl, List.length_map]; omega
    · refine ⟨⟨t', ?_⟩, Keeps.trans (Keeps.of_fr F₅) (keeps_tk _ _)⟩
      show Value.str (Builtin.Str.glued _ _) t' = _
      rw [StrLaws.glued_eq_join, crlf_S]
      have : ps.map (fun p => S (dotrow p)) = (ps.map dotrow).map S := by rw [List.map_map]; rfl
      rw [this, join_S, ← dot_jn hfree, ← phi_jn hfree, hjn]
end Mine
end
-- part F5a
section
open PySem PySem.W PyProof.Rows
set_option Elab.async false
set_option maxRecDepth 100000
set_option maxHeartbeats 4000000
set_option linter.unusedSimpArgs false
set_option linter.unusedVariables false
namespace Mine
open PySem.Builtin PySem.Builtin.Re

theorem pat2_code (w : World) : ∃ items, (KK w).lookup 40 = some { cls := .type "tuple", data := .seq items } ∧ (items.map reRawOf).map (·.toNat) = C2 := ⟨_, rfl, by decide +kernel⟩
theorem pat1_code (w : World) : ∃ items, (KK w).lookup 35 = some { cls := .type "tuple", data := .seq items } ∧ (items.map reRawOf).map (·.toNat) = C1 := ⟨_, rfl, by decide +kernel⟩
theorem pat2_obj (w : World) : (KK w).lookup 41 = some { cls := .type "re.Pattern", data := .fields #[.str (Str.ofString "(?:\\r\\n|\\n|\\r(?!\\n))") 301, .int 32 340, .int 0 0, .none, .none, .ref 40, .int 0 0] } := by rfl
theorem pat1_obj (w : World) : (KK w).lookup 36 = some { cls := .type "re.Pattern", data := .fields #[.str (Str.ofString "(?m)^\\.") 285, .int 40 298, .int 0 0, .none, .none, .ref 35, .int 0 0] } := by rfl
theorem pat_method2 (w : World) (pl : Sem Bool) : peek (KK w) ⟨PP, w.params⟩ (getMethod (.ref 41) "sub" pl) = some (.builtin "re.Pattern.sub", [.ref 41]) := by kernel_rfl
theorem pat_method1 (w : World) (pl : Sem Bool) : peek (KK w) ⟨PP, w.params⟩ (getMethod (.ref 36) "sub" pl) = some (.builtin "re.Pattern.sub", [.ref 36]) := by kernel_rfl
theorem slot_sub : Slot "re.Pattern" "sub" "re.Pattern.sub" :=
  .of (owner := "re.Pattern") (n := "sub") (by rw [typeLookup_type, builtinLookup_eq_fast]; kernel_rfl) (by decide +kernel) (by decide +kernel) (by decide +kernel)
    (by first | exact .inl (by decide +kernel) | exact .inr (by decide +kernel)) (by rw [isSubtype_type]; kernel_rfl)
theorem entry_sub : entryFor table "re.Pattern.sub" = some Builtin.«re.Pattern.sub» := entryFor_of_fast (by kernel_rfl)
theorem args_sub (a b c : Value) : argsOk "re.Pattern.sub" ⟨[a, b, c], []⟩ := by unfold argsOk; kernel_rfl
theorem plain_sub : plainId "re.Pattern.sub" = true := by decide +kernel
theorem entry_subloop : entryFor table "re.Pattern.sub.loop" = some Builtin.«re.Pattern.sub.loop» := entryFor_of_fast (by kernel_rfl)
theorem plain_subloop : plainId "re.Pattern.sub.loop" = true := by decide +kernel
theorem named_sub (a b : Value) : reNamed "re.Pattern.sub" "sub" ["repl", "string", "count"] 2 [a, b] [] = pure [some a, some b, none] := by kernel_rfl
theorem nocall_str : typeLookup (.type "str") "__call__" = pure none := by rw [typeLookup_type, builtinLookup_eq_fast]; kernel_rfl

end Mine
end
-- part F5b
section
local macro_rules | `(tactic| walk_at "pad") => `(tactic| skip)
local macro_rules | `(tactic| walk_at "pad") => `(tactic| skip)
local macro_rules | `(tactic| walk_at "pad") => `(tactic| skip)
local macro_rules | `(tactic| walk_at "pad") => `(tactic| skip)
local macro_rules | `(tactic| walk_at "pad") => `(tactic| skip)
local macro_rules | `(tactic| walk_at "pad") => `(tactic| skip)
local macro_rules | `(tactic| walk_at "pad") => `(tactic| skip)
local macro_rules | `(tactic| walk_at "pad") => `(tactic| skip)
local macro_rules | `(tactic| walk_at "pad") => `(tactic| skip)
local macro_rules | `(tactic| walk_at "pad") => `(tactic| skip)
local macro_rules | `(tactic| walk_at "pad") => `(tactic| skip)
local macro_rules | `(tactic| walk_at "pad") => `(tactic| skip)
local macro_rules | `(tactic| walk_at "pad") => `(tactic| skip)
local macro_rules | `(tactic| walk_at "pad") => `(tactic| skip)
open PySem PySem.W PyProof.Rows
set_option Elab.async false
set_option maxRecDepth 100000
set_option maxHeartbeats 4000000
set_option linter.unusedSimpArgs false
set_option linter.unusedVariables false
namespace Mine
open PySem.Builtin PySem.Builtin.Re

section
variable {M : Model} {A : Around} {E : Value → Shared → Prop} {s : Shared}

theorem reach_some {m m' : Sre.M} {k : Nat} (r : Reach m k m') : m'.outcome.isSome = true := by
  induction r with
  | done h => exact h
  | step _ _ ih => exact ih

theorem wp_drive {Q : Sre.M → Shared → Prop} : ∀ (turns : Nat) {m m' : Sre.M} {k : Nat}, Reach m k m' → k < 4 * turns → Q m' s → wpAny M A (reDrive turns m) Q E s
  | 0, _, _, _, _, h, _ => absurd h (Nat.not_lt_zero _)
  | t + 1, m, m', k, r, h, q => by
    have e := runFor_reach 4 r
    unfold reDrive
    show wpAny M A (if (m.runFor 4).outcome.isSome = true then pure (m.runFor 4) else do rule "sre.turn"; reDrive t (m.runFor 4)) Q E s
    by_cases hk : k ≤ 4
    · rw [e.1 hk, if_pos (reach_some r)]
      exact wpAny_pure q
    · have r' := e.2 (by omega)
      have hn : ¬ (m.runFor 4).outcome.isSome = true := by
        obtain ⟨j, hj⟩ : ∃ j, k - 4 = j + 1 := ⟨k - 5, by omega⟩
        rw [hj] at r'
        cases r' with
        | step h _ => rw [h]; decide
      rw [if_neg hn]
      exact wpAny_bind (wpAny_rule (wp_drive t r' (by omega) q))

theorem wp_runToEnd {Q : Option Sre.M → Shared → Prop} {m m' : Sre.M} {k : Nat} (r : Reach m k m') (hk : k < 2 ^ 66)
    (h : (m'.outcome = some .matched ∧ Q (some m') s) ∨ (m'.outcome = some .failed ∧ Q none s)) : wpAny M A (reRunToEnd m) Q E s := by
  unfold reRunToEnd
  refine wpAny_bind (wp_drive _ r (by omega) ?_)
  refine wpAny_bind (wpAny_forIn_list _ (fun _ _ s' => s' = s) _ (fun x rest b s' e => ?_) (fun _ s' e => ?_) _ _ rfl)
  · subst e
    split
    · exact wpAny_bind (wpAny_rule (wpAny_pure rfl))
    · exact wpAny_pure rfl
  subst e
  rcases h with ⟨e, q⟩ | ⟨e, q⟩ <;> rw [e] <;> exact wpAny_pure q

/-- a compiled pattern at a, its code C -/
def PatAt (h : Heap) (a : Addr) (C : Array Nat) : Prop := ∃ f0 f1 c items n, h.get? a = some { cls := .type "re.Pattern", data := .fields #[f0, f1, .int 0 0, .none, .none, .ref c, .int 0 0] } ∧ h.get? c = some { cls := .type "tuple", data := .seq items n } ∧ (items.map reRawOf).map (·.toNat) = C

theorem patAt2 {w : World} (X : (KK w).In s.heap) : PatAt s.heap 41 C2 := by
  obtain ⟨items, h1, h2⟩ := pat2_code w
  exact ⟨_, _, 40, items, 0, X _ _ (pat2_obj w), X _ _ h1, h2⟩
theorem patAt1 {w : World} (X : (KK w).In s.heap) : PatAt s.heap 36 C1 := by
  obtain ⟨items, h1, h2⟩ := pat1_code w
  exact ⟨_, _, 35, items, 0, X _ _ (pat1_obj w), X _ _ h1, h2⟩
theorem PatAt.up {h h' : Heap} {a : Addr} {C : Array Nat} (p : PatAt h a C) (k : ∀ b o, h.get? b = some o → h'.get? b = some o) : PatAt h' a C := by
  obtain ⟨f0, f1, c, items, n, h1, h2, h3⟩ := p
  exact ⟨f0, f1, c, items, n, k _ _ h1, k _ _ h2, h3⟩

theorem wp_target {a : Addr} {C : Array Nat} {x : Str} {t : Tok} {Q : ReTarget → Shared → Prop} (p : PatAt s.heap a C) (h : Q ⟨.ref a, .str x t, C, x.cps, 0, 0, 0, x.cps.size⟩ s) :
    wpAny M A (reWholeTarget (.ref a) (.str x t)) Q E s := by
  obtain ⟨f0, f1, c, items, n, h1, h2, h3⟩ := p
  unfold reWholeTarget
  refine wpAny_bind (wpAny_fieldsOf h1 rfl ?_)
  refine wpAny_bind (wpAny_pure (a := (x.cps, 0)) ?_)
  show wpAny M A (do
    reNoCollectionInside (.str x t) 0
    pure { pattern := .ref a, string := .str x t, code := (← reRawItems (.ref c)).map (·.toNat), text := x.cps, kind := 0, groups := 0, pos := 0, lim := x.cps.size }) Q E s
  refine wpAny_bind (wpAny_pure ?_)
  unfold reRawItems
  refine wpAny_bind (wpAny_bind (wpAny_seqItems h2 rfl (wpAny_pure ?_)))
  show wpAny M A (pure (_ : ReTarget)) Q E s
  refine wpAny_pure ?_
  show Q ⟨_, _, (items.map reRawOf).map (·.toNat), _, _, _, _, _⟩ s
  rw [h3]
  exact h
end
end Mine
end
-- part F5c
section
open PySem PySem.W PyProof.Rows
set_option Elab.async false
set_option maxRecDepth 100000
set_option maxHeartbeats 4000000
set_option linter.unusedSimpArgs false
set_option linter.unusedVariables false
set_option pp.deepTerms false
set_option pp.deepTerms.threshold 6
namespace Mine
open PySem.Builtin PySem.Builtin.Re

/-- what a pattern's sub makes of l, from pos on -/
inductive SubR (l repl : List Nat) (Hit : Nat → Nat → Nat → Prop) (Miss : Nat → Prop) : Nat → List Nat → Prop
  | stop {pos : Nat} (h : Miss pos) : SubR l repl Hit Miss pos (l.drop pos)
  | more {pos s e : Nat} {out : List Nat} (h : Hit pos s e) (hs : pos ≤ s) (hl : s ≤ l.length) (r : SubR l repl Hit Miss e out) : SubR l repl Hit Miss pos ((l.take s).drop pos ++ repl ++ out)

/-- a search that finds what Hit says, or nothing where Miss says so -/
def Srch (C : Array Nat) (l : List Nat) (Hit : Nat → Nat → Nat → Prop) (Miss : Nat → Prop) : Prop := ∀ pos, pos ≤ l.length →
  (∃ s e k m', Hit pos s e ∧ pos ≤ s ∧ s < e ∧ e ≤ l.length ∧ k < 2 ^ 66 ∧ Reach (Sre.forSearch C l.toArray 0 pos l.length false) k m' ∧ m'.outcome = some .matched ∧ m'.start = s ∧ m'.handed = e) ∨
  (∃ k m', Miss pos ∧ k < 2 ^ 66 ∧ Reach (Sre.forSearch C l.toArray 0 pos l.length false) k m' ∧ m'.outcome = some .failed)

theorem strsAre_length : ∀ {vs : List Value} {ys : List Str}, StrsAre vs ys → vs.length = ys.length
  | _, _, .nil => rfl
  | _, _, .cons _ _ h => by simp [strsAre_length h]
theorem strs_push {vs : List Value} {ys : List Str} {y : Str} {t : Tok} : StrsAre vs ys → StrsAre (vs ++ [.str y t]) (ys ++ [y]) := by
  intro h
  induction h with
  | nil => exact .cons _ _ .nil
  | cons y t _ ih => exact .cons _ _ ih


theorem wp_push {M : Model} {A : Around} {E : Value → Shared → Prop} {s : Shared} {P : Addr} {items : List Value} {k : Nat} {v : Value} {Q : Unit → Shared → Prop} (hL : s.heap.get? P = some { cls := .type "list", data := .seq items.toArray k }) (hsz : items.length ≤ 5000)
    (h : ∀ h' k', h'.get? P = some { cls := .type "list", data := .seq (items ++ [v]).toArray k' } → (∀ b o, b ≠ P → s.heap.get? b = some o → h'.get? b = some o) → Q () { s with heap := h' }) : wpAny M A (updateSeq P (fun x => x.push v)) Q E s := by
  refine wpAny_updateSeq hL rfl (h _ (k + 1) ?_ ?_) (by rw [List.size_toArray, sizeLine_eq]; omega) (by rw [Array.size_push, List.size_toArray, sizeLine_eq]; omega)
  · rw [Heap.get?_update_self _ hL rfl]
    simp [Obj.mapSeq]
  · intro b o hb e
    rw [Heap.get?_update_other _ _ (Ne.symm hb)]; exact e

theorem glued_nil (ys : List (List Nat)) : Txt.join (S []) (ys.map S) = S ys.flatten := by
  have key : ∀ (zs : List (List Nat)) (acc : List Nat), (zs.map S).foldl (fun acc p => acc ++ (S []).cps ++ p.cps) acc.toArray = (acc ++ zs.flatten).toArray := by
    intro zs
    induction zs with
    | nil => intro acc; simp
    | cons z zs ih =>
      intro acc
      simp only [List.map_cons, List.foldl_cons, List.flatten_cons]
      have : acc.toArray ++ (S []).cps ++ (S z).cps = (acc ++ z).toArray := by simp [S]
      rw [this, ih]
      simp
  show Str.mk _ = Str.mk _
  cases ys with
  | nil => rfl
  | cons y ys =>
    have := key ys y
    simpa [S] using this
theorem sum_len {B : Nat} : ∀ (ys : List (List Nat)), (∀ y ∈ ys, y.length ≤ B) → ((ys.map S).map (·.length)).sum ≤ B * ys.length
  | [], _ => by simp
  | y :: ys, h => by
    have h1 := h y (.head _)
    have h2 := sum_len ys fun z hz => h z (.tail _ hz)
    simp only [List.map_cons, List.sum_cons, List.length_cons, S_length] at h2 ⊢
    rw [Nat.mul_add]
    omega

theorem wp_slice {M : Model} {A : Around} {E : Value → Shared → Prop} {s : Shared} {l : List Nat} {b e : Nat} {Q : Value → Shared → Prop} (hl : l.length ≤ 1000) (h : Q (.str (S ((l.take e).drop b)) s.toks) { s with toks := s.toks + 1 }) : wpAny M A (reSlice (S l).cps 0 b e) Q E s := by
  have e1 : (⟨(S l).cps.extract b e⟩ : Str) = S ((l.take e).drop b) := by
    simp [S, List.extract_toArray, List.extract_eq_take_drop, List.drop_take]
  show wpAny M A (mkStr ⟨(S l).cps.extract b e⟩) Q E s
  rw [e1]
  refine wpAny_mkStr h (by rw [S_length, sizeLine_eq, List.length_drop, List.length_take]; omega)

section
variable {w : World} {A : Around} {a P : Addr} {C : Array Nat} {l r : List Nat} {t tr : Tok} {Hit : Nat → Nat → Nat → Prop} {Miss : Nat → Prop} {h₀ : Heap} {R : Result → Shared → Prop}

theorem sub_loop (p : PatAt h₀ a C) (Sr : Srch C l Hit Miss) (hl : l.length ≤ 1000) (hr : r.length ≤ 100) (hP : h₀.get? P = none) :
    ∀ (d pos : Nat) (n : Int) (s : Shared) (items : List Value) (k : Nat) (ys : List (List Nat)), l.length - pos = d → pos ≤ l.length → s.heap.get? P = some { cls := .type "list", data := .seq items.toArray k } → StrsAre items (ys.map S) → ys.length ≤ 2 * pos → (∀ y ∈ ys, y.length ≤ 1000) →
      (∀ b o, h₀.get? b = some o → s.heap.get? b = some o) →
      (∀ out t' h' tk, SubR l r Hit Miss pos out → (∀ b o, h₀.get? b = some o → h'.get? b = some o) → R (.ok (.ret (.str (S (ys.flatten ++ out)) t'))) { s with heap := h', toks := tk }) →
      codeAny (model PP w) A (.builtin "re.Pattern.sub.loop" ⟨[.ref a, .str (S l) t, .str (S r) tr, rawInt 0, rawInt 0, rawInt n, rawInt pos, rawInt pos, .bool false, .ref P, .bool false], []⟩) R s := by
  intro d
  induction d using Nat.strongRecOn with
  | ind d ih =>
    intro pos n s items k ys hd hpos hL hys hyl hyb hk hR
    have hil : items.length = ys.length := by have := strsAre_length hys; simpa using this
    refine codeAny_builtin entry_subloop ?_
    rw [Around.under_plainId plain_subloop]
    show wpAny _ _ (reWholeTarget (.ref a) (.str (S l) t) >>= _) _ _ s
    refine wpAny_bind (wp_target (p.up hk) ?_)
    show wpAny _ _ (reLiteralCannotBeTurned (.str (S r) tr) >>= _) _ _ s
    refine wpAny_bind (wpAny_pure ?_)
    show wpAny _ _ (reNextFound ⟨.ref a, .str (S l) t, C, l.toArray, 0, 0, 0, l.toArray.size⟩ pos false >>= _) _ _ s
    refine wpAny_bind ?_
    unfold reNextFound
    rw [List.size_toArray]
    have hPk : ∀ {h h' : Heap}, (∀ b o, b ≠ P → h.get? b = some o → h'.get? b = some o) → (∀ b o, h₀.get? b = some o → h.get? b = some o) → ∀ b o, h₀.get? b = some o → h'.get? b = some o := fun x y b o e => x b o (fun q => by rw [q, hP] at e; cases e) (y b o e)
    rcases Sr pos hpos with ⟨b, e, kk, m', hHit, h1, h2, h3, hkk, hr', ho, hb, he⟩ | ⟨kk, m', hMiss, hkk, hr', ho⟩
    · refine wp_runToEnd hr' hkk (.inl ⟨ho, ?_⟩)
      dsimp only
      rw [Int.toNat_natCast, hb, he]
      have next : ∀ (s₁ : Shared) (items₁ : List Value) (k₁ : Nat) (ys₁ : List (List Nat)), s₁ = { s with heap := s₁.heap, toks := s₁.toks } → s₁.heap.get? P = some { cls := .type "list", data := .seq items₁.toArray k₁ } → StrsAre items₁ (ys₁.map S) → ys₁.length ≤ 2 * e → (∀ y ∈ ys₁, y.length ≤ 1000) →
          (∀ b o, h₀.get? b = some o → s₁.heap.get? b = some o) → ys₁.flatten = ys.flatten ++ (l.take b).drop pos ++ r →
          codeAny (model PP w) A (.builtin "re.Pattern.sub.loop" ⟨[.ref a, .str (S l) t, .str (S r) tr, rawInt 0, rawInt 0, rawInt (n + 1), rawInt e, rawInt e, .bool false, .ref P, .bool false], []⟩) R s₁ := by
        intro s₁ items₁ k₁ ys₁ e₁ hL₁ hys₁ hyl₁ hyb₁ hk₁ hfl
        refine ih (l.length - e) (by omega) e (n + 1) s₁ items₁ k₁ ys₁ rfl h3 hL₁ hys₁ hyl₁ hyb₁ hk₁ fun out t' h' tk hout hk' => ?_
        have := hR _ t' h' tk (.more hHit h1 (by omega) hout) hk'
        rw [e₁, hfl]
        simpa [List.append_assoc] using this
      have tail : ∀ (s₁ : Shared) (items₁ : List Value) (k₁ : Nat) (ys₁ : List (List Nat)), s₁ = { s with heap := s₁.heap, toks := s₁.toks } → s₁.heap.get? P = some { cls := .type "list", data := .seq items₁.toArray k₁ } → StrsAre items₁ (ys₁.map S) → ys₁.length ≤ 2 * pos + 1 → (∀ y ∈ ys₁, y.length ≤ 1000) →
          (∀ b o, h₀.get? b = some o → s₁.heap.get? b = some o) → ys₁.flatten = ys.flatten ++ (l.take b).drop pos →
          wpAny (model PP w) A.in1 (updateSeq P (fun x => x.push (.str (S r) tr)) >>= fun _ => again (.builtin "re.Pattern.sub.loop" ⟨[.ref a, .str (S l) t, .str (S r) tr, rawInt 0, rawInt 0, rawInt (n + 1), rawInt e, rawInt e, .bool (e == b), .ref P, .bool false], []⟩))
            (fun fin s' => match fin with | .done f => R (.ok f) s' | .again c' => c'.quiet = true ∧ codeAny (model PP w) A c' R s') (fun e s' => R (.error e) s') s₁ := by
        intro s₁ items₁ k₁ ys₁ e₁ hL₁ hys₁ hyl₁ hyb₁ hk₁ hfl
        have hil₁ : items₁.length = ys₁.length := by have := strsAre_length hys₁; simpa using this
        refine wpAny_bind (wp_push hL₁ (by omega) fun h₂ k₂ hL₂ hk₂ => wpAny_pure ⟨plainId_quiet plain_subloop _, ?_⟩)
        have hne : (e == b) = false := by simp; omega
        rw [hne]
        refine next _ _ _ (ys₁ ++ [r]) ?_ hL₂ ?_ ?_ ?_ (hPk hk₂ hk₁) ?_
        · rw [e₁]
        · rw [List.map_append]; exact strs_push hys₁
        · simp; omega
        · intro y hy
          rcases List.mem_append.mp hy with h | h
          · exact hyb₁ y h
          · rw [List.mem_singleton.mp h]; omega
        · simp [hfl]
      by_cases hlt : pos < b
      · rw [if_pos hlt]
        refine wpAny_bind (wp_slice hl ?_)
        refine wpAny_bind (wp_push hL (by omega) fun h₂ k₂ hL₂ hk₂ => ?_)
        refine tail _ _ _ (ys ++ [(l.take b).drop pos]) rfl hL₂ ?_ ?_ ?_ (hPk hk₂ hk) ?_
        · rw [List.map_append]; exact strs_push hys
        · simp; omega
        · intro y hy
          rcases List.mem_append.mp hy with h | h
          · exact hyb y h
          · rw [List.mem_singleton.mp h, List.length_drop, List.length_take]; omega
        · simp
      · rw [if_neg hlt]
        refine tail _ _ _ ys rfl hL hys (by omega) hyb hk ?_
        obtain rfl : pos = b := by omega
        simp
    · refine wp_runToEnd hr' hkk (.inr ⟨ho, ?_⟩)
      dsimp only
      rw [Int.toNat_natCast]
      have hsz : (S l).cps.size = l.length := by simp [S]
      rw [hsz]
      have tail : ∀ (s₁ : Shared) (items₁ : List Value) (k₁ : Nat) (ys₁ : List (List Nat)), s₁ = { s with heap := s₁.heap, toks := s₁.toks } → s₁.heap.get? P = some { cls := .type "list", data := .seq items₁.toArray k₁ } → StrsAre items₁ (ys₁.map S) → ys₁.length ≤ 2 * pos + 1 → (∀ y ∈ ys₁, y.length ≤ 1000) →
          (∀ b o, h₀.get? b = some o → s₁.heap.get? b = some o) → ys₁.flatten = ys.flatten ++ l.drop pos →
          wpAny (model PP w) A.in1 (do
            let joiner ← reSlice (S l).cps 0 0 0
            let q ← seqItems? (.ref P)
            if (q.getD #[]).isEmpty = true then ret joiner else do ret (← call (.builtin "str.join") [joiner, .ref P]))
            (fun fin s' => match fin with | .done f => R (.ok f) s' | .again c' => c'.quiet = true ∧ codeAny (model PP w) A c' R s') (fun e s' => R (.error e) s') s₁ := by
        intro s₁ items₁ k₁ ys₁ e₁ hL₁ hys₁ hyl₁ hyb₁ hk₁ hfl
        have hil₁ : items₁.length = ys₁.length := by have := strsAre_length hys₁; simpa using this
        refine wpAny_bind (wp_slice hl ?_)
        refine wpAny_bind (wpAny_seqItems hL₁ rfl ?_)
        have fin : ∀ t' tk, R (.ok (.ret (.str (S ys₁.flatten) t'))) { s₁ with toks := tk } := by
          intro t' tk
          have := hR _ t' s₁.heap tk (.stop hMiss) hk₁
          rw [hfl, e₁]
          exact this
        by_cases hz : items₁ = []
        · subst hz
          have : ys₁ = [] := by simpa using hil₁.symm
          subst this
          exact wpAny_pure (fin _ _)
        · have hne : ((some items₁.toArray).getD #[]).isEmpty = false := by
            simp [hz]
          rw [if_neg (by rw [hne]; decide)]
          have hok := sum_len ys₁ hyb₁
          refine wpAny_bind (join_list ⟨_, hL₁, rfl, _, rfl⟩ hys₁ ?_ fun t' tk => ?_)
          · rw [S_length, List.length_map]
            simp only [List.take_zero, List.drop_nil, List.length_nil, Nat.mul_zero, Nat.add_zero]
            have : 1000 * ys₁.length ≤ 1000 * 2001 := Nat.mul_le_mul_left _ (by omega)
            omega
          · show wpAny _ _ (ret (.str (Txt.join (S []) (ys₁.map S)) t')) _ _ _
            rw [glued_nil]
            exact wpAny_pure (fin _ _)
      by_cases hlt : pos < l.length
      · rw [if_pos hlt]
        refine wpAny_bind (wp_slice hl ?_)
        refine wpAny_bind (wp_push hL (by omega) fun h₂ k₂ hL₂ hk₂ => ?_)
        refine tail _ _ _ (ys ++ [(l.take l.length).drop pos]) rfl hL₂ ?_ ?_ ?_ (hPk hk₂ hk) ?_
        · rw [List.map_append]; exact strs_push hys
        · simp; omega
        · intro y hy
          rcases List.mem_append.mp hy with h | h
          · exact hyb y h
          · rw [List.mem_singleton.mp h, List.length_drop, List.length_take]; omega
        · simp
      · rw [if_neg hlt]
        refine tail _ _ _ ys rfl hL hys (by omega) hyb hk ?_
        rw [List.drop_eq_nil_of_le (by omega)]; simp

theorem codeAny_builtin' {A : Around} {s : Shared} {id : String} {args : Args} {b : Builtin} (hb : entryFor table id = some b) (hp : plainId id = true)
    (h : wpAny (model PP w) A.in1 (b args) (fun fin s' => match fin with | .done f => R (.ok f) s' | .again c' => c'.quiet = true ∧ codeAny (model PP w) A c' R s') (fun e s' => R (.error e) s') s) :
    codeAny (model PP w) A (.builtin id args) R s := by
  refine codeAny_builtin hb ?_
  rw [Around.under_plainId hp]
  exact h

theorem sub_call {E : Value → Shared → Prop} {s : Shared} (p : PatAt s.heap a C) (Sr : Srch C l Hit Miss) (hl : l.length ≤ 1000) (hr : r.length ≤ 100) (h92 : (S r).cps.contains 92 = false) :
    wpAny (model PP w) A (call (.builtin "re.Pattern.sub") [.ref a, .str (S r) tr, .str (S l) t]) (Ret (fun v => ∃ out t', SubR l r Hit Miss 0 out ∧ v = .str (S out) t') s) E s := by
  have hT : s.TypeIs (.ref a) "re.Pattern" := by
    obtain ⟨f0, f1, c, items, n, h1, h2, h3⟩ := p
    exact ⟨_, h1, rfl⟩
  refine wpAny_call (codeAny_call_builtin_code (plainId_quiet plain_sub _) (slot_sub.check _ _ _ _ _ _ _ _ hT (args_sub _ _ _) (codeAny_builtin' entry_sub plain_sub ?_)))
  show wpAny _ _ (reNamed "re.Pattern.sub" "sub" ["repl", "string", "count"] 2 [.str (S r) tr, .str (S l) t] [] >>= _) _ _ s
  rw [named_sub]
  refine wpAny_bind (wpAny_pure ?_)
  dsimp only
  refine wpAny_bind (wpAny_pure ?_)
  refine wpAny_bind (wpAny_specialOf (typeIs_str s _ _) nocall_str ?_)
  rw [if_neg (by decide)]
  refine wpAny_bind (wpAny_pure (a := some (S r)) ?_)
  dsimp only
  rw [h92]
  refine wpAny_bind (wpAny_pure ?_)
  rw [if_neg (by decide), if_pos (by decide)]
  refine wpAny_bind (wpAny_pure ?_)
  dsimp only
  show wpAny _ _ (holding [.str (S r) tr] (reWholeTarget (.ref a) (.str (S l) t)) >>= _) _ _ s
  refine wpAny_bind (wpAny_holding (wp_target p ?_))
  show wpAny _ _ (newList [] >>= _) _ _ s
  refine wpAny_bind (wpAny_newObj_type ?_)
  refine wpAny_pure ⟨plainId_quiet plain_subloop _, ?_⟩
  refine sub_loop (h₀ := s.heap) p Sr hl hr ?_ _ 0 0 _ [] 0 [] rfl (Nat.zero_le _) (Heap.get?_push_size _ rfl) .nil (Nat.le_refl _) (by simp) (fun b o e => Heap.get?_push_of_some _ e) ?_
  · cases e : s.heap.get? s.heap.objs.size with
    | none => rfl
    | some o => exact absurd (Heap.lt_size e) (Nat.lt_irrefl _)
  · intro out t' h' tk hout hk
    exact ⟨⟨out, t', hout, rfl⟩, h', tk, rfl, hk⟩
end
end Mine
end
-- part F5d
section
local macro_rules | `(tactic| walk_at "pad") => `(tactic| skip)
local macro_rules | `(tactic| walk_at "pad") => `(tactic| skip)
local macro_rules | `(tactic| walk_at "pad") => `(tactic| skip)
local macro_rules | `(tactic| walk_at "pad") => `(tactic| skip)
local macro_rules | `(tactic| walk_at "pad") => `(tactic| skip)
local macro_rules | `(tactic| walk_at "pad") => `(tactic| skip)
local macro_rules | `(tactic| walk_at "pad") => `(tactic| skip)
local macro_rules | `(tactic| walk_at "pad") => `(tactic| skip)
local macro_rules | `(tactic| walk_at "pad") => `(tactic| skip)
local macro_rules | `(tactic| walk_at "pad") => `(tactic| skip)
local macro_rules | `(tactic| walk_at "pad") => `(tactic| skip)
local macro_rules | `(tactic| walk_at "pad") => `(tactic| skip)
local macro_rules | `(tactic| walk_at "pad") => `(tactic| skip)
local macro_rules | `(tactic| walk_at "pad") => `(tactic| skip)
open PySem PySem.W PyProof.Rows
set_option Elab.async false
set_option maxRecDepth 100000
set_option maxHeartbeats 4000000
set_option linter.unusedSimpArgs false
set_option linter.unusedVariables false
set_option pp.deepTerms false
set_option pp.deepTerms.threshold 6
namespace Mine
open PySem.Builtin PySem.Builtin.Re

theorem fixF_plain : ∀ {r : List Nat}, (∀ c ∈ r, c ≠ 10 ∧ c ≠ 13) → fixF false r = r
  | [], _ => rfl
  | c :: r, h => by
    have h1 := h c (.head _)
    rw [fixF, if_neg h1.2, if_neg h1.1, fixF_plain fun d hd => h d (.tail _ hd)]
theorem endCR_plain : ∀ {r : List Nat}, (∀ c ∈ r, c ≠ 10 ∧ c ≠ 13) → endCR false r = false
  | [], _ => rfl
  | c :: r, h => by
    have h1 : (c == 13) = false := by simp [(h c (.head _)).2]
    rw [endCR, h1, endCR_plain fun d hd => h d (.tail _ hd)]
theorem fixF_head {r : List Nat} (h : r.head? ≠ some 10) : fixF true r = fixF false r := by
  cases r with
  | nil => rfl
  | cons c r =>
    have : c ≠ 10 := by simpa using h
    simp [fixF, this]

/-- the first end from pos on begins at s and ends at e -/
def Hit2 (l : List Nat) (pos s e : Nat) : Prop := pos ≤ s ∧ s < l.length ∧ (l.getD s 0 = 10 ∨ l.getD s 0 = 13) ∧ (∀ j, pos ≤ j → j < s → l.getD j 0 ≠ 10 ∧ l.getD j 0 ≠ 13) ∧ e = if l.getD s 0 = 13 ∧ s + 1 < l.length ∧ l.getD (s + 1) 0 = 10 then s + 2 else s + 1
def Miss2 (l : List Nat) (pos : Nat) : Prop := ∀ j, pos ≤ j → j < l.length → l.getD j 0 ≠ 10 ∧ l.getD j 0 ≠ 13

theorem getD_arr (l : List Nat) (j : Nat) : l.toArray.getD j 0 = l.getD j 0 := by
  rw [List.getD_eq_getElem?_getD, Array.getD_eq_getD_getElem?]; simp

theorem srch2 (l : List Nat) : Srch C2 l (Hit2 l) (Miss2 l) := by
  intro pos hp
  have hsz : l.toArray.size = l.length := by simp
  rcases search2 (text := l.toArray) pos (by rw [hsz]; exact hp) false with ⟨s, k, m', h1, h2, h3, h4, h5, h6, h7, h8, h9⟩ | ⟨k, m', h1, h2, h3, h4⟩
  · rw [hsz] at h2 h6 h9
    simp only [getD_arr, endAt] at h3 h4 h9
    refine .inl ⟨s, _, k, m', ⟨h1, h2, h3, h4, rfl⟩, h1, ?_, ?_, by omega, h6, h7, h8, h9⟩
    · split <;> omega
    · split
      · rename_i h; omega
      · omega
  · rw [hsz] at h1 h3
    simp only [getD_arr] at h1
    exact .inr ⟨k, m', h1, by omega, h3, h4⟩

theorem plain_of {l : List Nat} {pos s : Nat} (hs : s ≤ l.length) (h : ∀ j, pos ≤ j → j < s → l.getD j 0 ≠ 10 ∧ l.getD j 0 ≠ 13) : ∀ c ∈ (l.take s).drop pos, c ≠ 10 ∧ c ≠ 13 := by
  intro c hc
  obtain ⟨i, hi, rfl⟩ := List.mem_iff_getElem.mp hc
  simp only [List.length_drop, List.length_take] at hi
  have := h (pos + i) (by omega) (by omega)
  rw [List.getD_eq_getElem?_getD, List.getElem?_eq_getElem (by omega)] at this
  simpa using this
theorem drop_cut {l : List Nat} {pos s : Nat} (h1 : pos ≤ s) (h2 : s < l.length) : l.drop pos = (l.take s).drop pos ++ l.getD s 0 :: l.drop (s + 1) := by
  have e : l = l.take s ++ l.drop s := (List.take_append_drop s l).symm
  have e2 : l.drop s = l.getD s 0 :: l.drop (s + 1) := by
    rw [List.drop_eq_getElem_cons h2, List.getD_eq_getElem?_getD, List.getElem?_eq_getElem h2]; rfl
  conv => lhs; rw [e]
  rw [List.drop_append, e2]
  simp [List.length_take]
  have : pos - min s l.length = 0 := by omega
  rw [this]; rfl

theorem sub2 {l : List Nat} : ∀ {pos : Nat} {out : List Nat}, SubR l [13, 10] (Hit2 l) (Miss2 l) pos out → out = fixF false (l.drop pos) := by
  intro pos out r
  induction r with
  | @stop pos h =>
    symm
    refine fixF_plain ?_
    have := plain_of (l := l) (pos := pos) (s := l.length) (Nat.le_refl _) h
    simpa using this
  | @more pos s e out h hs hl _ ih =>
    obtain ⟨h1, h2, h3, h4, h5⟩ := h
    have hp := plain_of hl h4
    rw [ih, drop_cut h1 h2, fixF_append, fixF_plain hp, endCR_plain hp, List.append_assoc]
    congr 1
    by_cases h13 : l.getD s 0 = 13
    · by_cases hn : s + 1 < l.length ∧ l.getD (s + 1) 0 = 10
      · rw [if_pos ⟨h13, hn⟩] at h5
        subst h5
        have e3 : l.drop (s + 1) = 10 :: l.drop (s + 2) := by
          rw [List.drop_eq_getElem_cons hn.1]
          have := hn.2
          rw [List.getD_eq_getElem?_getD, List.getElem?_eq_getElem hn.1] at this
          simp at this
          rw [this]
        rw [h13, e3]
        simp [fixF]
      · rw [if_neg (fun h => hn h.2)] at h5
        subst h5
        have hh : (l.drop (s + 1)).head? ≠ some 10 := by
          rw [List.head?_drop]
          intro h
          apply hn
          obtain ⟨hlt, hv⟩ := List.getElem?_eq_some_iff.mp h
          refine ⟨hlt, ?_⟩
          rw [List.getD_eq_getElem?_getD, h]; rfl
        rw [h13]
        simp [fixF, fixF_head hh]
    · have h10 : l.getD s 0 = 10 := by omega
      rw [if_neg (fun h => h13 h.1)] at h5
      subst h5
      rw [h10]
      simp [fixF]

/-- a row begins at p -/
def bolL (l : List Nat) (p : Nat) : Bool := p == 0 || l.getD (p - 1) 0 == 10
def Hit1 (l : List Nat) (pos s e : Nat) : Prop := pos ≤ s ∧ s < l.length ∧ bolL l s = true ∧ l.getD s 0 = 46 ∧ (∀ j, pos ≤ j → j < s → ¬ (bolL l j = true ∧ l.getD j 0 = 46)) ∧ e = s + 1
def Miss1 (l : List Nat) (pos : Nat) : Prop := ∀ j, pos ≤ j → j < l.length → ¬ (bolL l j = true ∧ l.getD j 0 = 46)

theorem srch1 (l : List Nat) (hl : l.length ≤ 1000) : Srch C1 l (Hit1 l) (Miss1 l) := by
  intro pos hp
  have hsz : l.toArray.size = l.length := by simp
  have hb : ∀ j, bol l.toArray j = bolL l j := fun j => by simp only [bol, bolL, getD_arr]
  rcases search1 (text := l.toArray) pos (by rw [hsz]; exact hp) with ⟨s, k, m', h1, h2, h3, h4, h5, h6, h7, h8, h9, h10⟩ | ⟨k, m', h1, h2, h3, h4⟩
  · rw [hsz] at h2 h6 h7
    simp only [getD_arr, hb] at h3 h4 h5
    exact .inl ⟨s, s + 1, k, m', ⟨h1, h2, h3, h4, h5, rfl⟩, h1, by omega, by omega, by omega, h7, h8, h9, h10⟩
  · rw [hsz] at h1 h2 h3
    simp only [getD_arr, hb] at h1
    exact .inr ⟨k, m', h1, by omega, h3, h4⟩

theorem dot_step {l : List Nat} {p : Nat} (h : p < l.length) : dotF (bolL l p) (l.drop p) = (if bolL l p = true ∧ l.getD p 0 = 46 then [46, 46] else [l.getD p 0]) ++ dotF (bolL l (p + 1)) (l.drop (p + 1)) := by
  have e2 : l.drop p = l.getD p 0 :: l.drop (p + 1) := by
    rw [List.drop_eq_getElem_cons h, List.getD_eq_getElem?_getD, List.getElem?_eq_getElem h]; rfl
  have e3 : bolL l (p + 1) = (l.getD p 0 == 10) := by simp [bolL]
  rw [e2, e3, dotF]
  by_cases hc : bolL l p = true ∧ l.getD p 0 = 46
  · rw [if_pos hc, if_pos (by rw [hc.1, hc.2]; rfl)]
    rw [hc.2]; rfl
  · rw [if_neg hc, if_neg (by simpa using hc)]; rfl
theorem dot_run {l : List Nat} {pos : Nat} : ∀ (d s : Nat), s = pos + d → s ≤ l.length → (∀ j, pos ≤ j → j < s → ¬ (bolL l j = true ∧ l.getD j 0 = 46)) →
    dotF (bolL l pos) (l.drop pos) = (l.take s).drop pos ++ dotF (bolL l s) (l.drop s)
  | 0, s, hs, hl, _ => by
    obtain rfl : s = pos := by omega
    simp
  | d + 1, s, hs, hl, hj => by
    obtain ⟨q, rfl⟩ : ∃ q, s = q + 1 := ⟨s - 1, by omega⟩
    rw [dot_run d q (by omega) (by omega) fun j a b => hj j a (by omega), dot_step (by omega), if_neg (hj q (by omega) (by omega)), ← List.append_assoc]
    congr 1
    rw [List.take_add_one, List.drop_append, List.getElem?_eq_getElem (by omega), List.getD_eq_getElem?_getD, List.getElem?_eq_getElem (by omega)]
    simp [List.length_take]
    have : pos - min q l.length = 0 := by omega
    rw [this]; rfl

theorem sub1 {l : List Nat} : ∀ {pos : Nat} {out : List Nat}, SubR l [46, 46] (Hit1 l) (Miss1 l) pos out → pos ≤ l.length → out = dotF (bolL l pos) (l.drop pos) := by
  intro pos out r
  induction r with
  | @stop pos h =>
    intro hp
    rw [dot_run (l.length - pos) l.length (by omega) (Nat.le_refl _) h]
    simp [dotF]
  | @more pos s e out h hs hl _ ih =>
    intro hp
    obtain ⟨h1, h2, h3, h4, h5, rfl⟩ := h
    rw [ih (by omega), dot_run (s - pos) s (by omega) hl h5, dot_step h2, if_pos ⟨h3, h4⟩]
    simp
end Mine
end
-- part F5
section
open PySem PySem.W PyProof.Rows
set_option Elab.async false
set_option maxRecDepth 100000
set_option maxHeartbeats 4000000
set_option pp.deepTerms false
set_option pp.deepTerms.threshold 5
set_option pp.maxSteps 20000
set_option linter.unusedSimpArgs false
set_option linter.unusedVariables false
namespace Mine
local macro_rules | `(tactic| walk_at "eval Name") => `(tactic| first
  | refine nmL (by assumption) (by first | rfl | assumption) ?_
  | refine nmG (by assumption) (by assumption) (by first | exact gl_twin_re_1 _ | exact gl_twin_re_2 _ | exact gl_CRLF _ | exact gl_quotedata _ | exact gl_fix_eols _ | exact gl_parse_varint _ | exact gl_law_numbers _ | exact gl_law_word _ | exact gl_law_spelled _ | exact gl_law_mails _ | exact gl_law_sent _ | exact gl_law_octets _ | exact gl_law_value _ | exact gl_law_primes _) ?_
  | refine nmB (by assumption) (by assumption) (by first | exact gb_next _ | exact gb_enumerate _ | exact gb_chr _ | exact gb_ord _ | exact gb_len _ | exact gb_sum _ | exact gb_range _ | exact gb_iter _ | exact gb_StopIteration _) (by boot_fast) ?_)
local macro_rules | `(tactic| walk_at "storeName") => `(tactic| (refine storeX_L (by assumption) (by assumption) ?_; intro h' F' N'; dsimp only at F' N' ⊢))

local macro_rules | `(tactic| walk_at "loadName") => `(tactic| refine wpAny_loadName_local rfl rfl (Fr.ns (by assumption)) (by first | rfl | assumption) ?_)
local macro_rules | `(tactic| walk_at "callWith ref") => `(tactic| refine callWith_K (Gd.X (by assumption)) (by kernel_rfl) ?_)
local macro_rules | `(tactic| walk_at "And") => `(tactic| ((with_reducible show Frag.In _ _ ∧ _); refine ⟨Frag.In.keeps (Gd.X (by assumption)) (Fr.keep (by assumption)), ?_⟩; (try dsimp only [List.nil_append, List.cons_append])))
local macro_rules | `(tactic| walk_at "eval ListComp") => `(tactic| refine lc (by with_unfolding_all first | exact closureFor_none (by decide) | rfl) (by decide) (by with_unfolding_all rfl) (by decide) ?_ (by intro _; with_unfolding_all rfl))


theorem fix_spec {w : World} {A : Around} {E : Value → Shared → Prop} {s : Shared} {l : List Nat} {t : Tok} (G : Gd w s.heap) (hA : A.depth < recursionLimit)
    (hl : l.length ≤ 1000) :
    wpAny (model PP w) A (call (.ref 55) [.str (S l) t]) (Ret (fun v => ∃ t', v = .str (S (fixF false l)) t') s) E s := by
  refine enter G hA (by rfl) (by rfl) (binds := [("data", .str (S l) t)]) (by rfl) (locs rfl) (by decide) rfl rfl rfl fun h₁ F => ?_
  have N : News s.heap s.heap.objs.size h₁ [] := News.nil
  repeat' walk1
  refine Looks.here (Looks.of_peek (G.X.keeps F.keep) (pat_method2 w _)) ?_
  repeat' walk1
  rw [show Str.ofString "\r\n" = S [13, 10] from rfl]
  refine wpAny_mono (sub_call (patAt2 (G.X.keeps F.keep)) (srch2 l) hl (by decide) (by decide +kernel)) (fun v s' r => ?_) (fun _ _ x => x)
  obtain ⟨⟨out, t', hout, rfl⟩, kp⟩ := r
  exact ⟨⟨t', by rw [sub2 hout]; rfl⟩, Keeps.trans (Keeps.of_fr F) kp⟩

theorem fixF_length : ∀ (l : List Nat) (b : Bool), (fixF b l).length ≤ 2 * l.length
  | [], _ => Nat.le_refl _
  | c :: r, b => by
    have h1 := fixF_length r true
    have h2 := fixF_length r false
    simp only [fixF, List.length_cons]
    repeat' split
    all_goals (try simp only [List.length_cons])
    all_goals omega

theorem quote_spec {w : World} {A : Around} {E : Value → Shared → Prop} {s : Shared} {l : List Nat} {t : Tok} (G : Gd w s.heap) (hA : A.depth < recursionLimit)
    (hl : l.length ≤ 500) :
    wpAny (model PP w) A (call (.ref 48) [.str (S l) t]) (Ret (fun v => ∃ t', v = .str (S (dotF true (fixF false l))) t') s) E s := by
  refine enter G hA (by rfl) (by rfl) (binds := [("data", .str (S l) t)]) (by rfl) (locs rfl) (by decide) rfl rfl rfl fun h₁ F => ?_
  have N : News s.heap s.heap.objs.size h₁ [] := News.nil
  have hf := fixF_length l false
  repeat' walk1
  refine Looks.here (Looks.of_peek (G.X.keeps F.keep) (pat_method1 w _)) ?_
  repeat' walk1
  refine Looks.here (Looks.of_peek (G.X.keeps F.keep) (pat_method2 w _)) ?_
  repeat' walk1
  rw [show Str.ofString "\r\n" = S [13, 10] from rfl]
  refine wpAny_mono (sub_call (patAt2 (G.X.keeps F.keep)) (srch2 l) (by omega) (by decide) (by decide +kernel)) (fun v s' r => ?_) (fun _ _ x => x)
  obtain ⟨⟨out, t', hout, rfl⟩, h₂, tk₂, rfl, k₂⟩ := r
  have F₂ := fr_up F k₂
  obtain rfl : out = fixF false l := sub2 hout
  dsimp only at F₂ ⊢
  repeat' walk1
  rw [show Str.ofString ".." = S [46, 46] from rfl]
  refine wpAny_mono (sub_call (patAt1 (G.X.keeps F₂.keep)) (srch1 _ (by omega)) (by omega) (by decide) (by decide +kernel)) (fun v s' r => ?_) (fun _ _ x => x)
  obtain ⟨⟨out, t', hout, rfl⟩, kp⟩ := r
  exact ⟨⟨t', by rw [sub1 hout (Nat.zero_le _)]; rfl⟩, Keeps.trans (Keeps.of_fr F₂) kp⟩
end Mine
end
-- part F3
section
local macro_rules | `(tactic| walk_at "pad") => `(tactic| skip)
local macro_rules | `(tactic| walk_at "pad") => `(tactic| skip)
local macro_rules | `(tactic| walk_at "pad") => `(tactic| skip)
local macro_rules | `(tactic| walk_at "pad") => `(tactic| skip)
local macro_rules | `(tactic| walk_at "pad") => `(tactic| skip)
local macro_rules | `(tactic| walk_at "pad") => `(tactic| skip)
local macro_rules | `(tactic| walk_at "pad") => `(tactic| skip)
local macro_rules | `(tactic| walk_at "pad") => `(tactic| skip)
local macro_rules | `(tactic| walk_at "pad") => `(tactic| skip)
local macro_rules | `(tactic| walk_at "pad") => `(tactic| skip)
local macro_rules | `(tactic| walk_at "pad") => `(tactic| skip)
local macro_rules | `(tactic| walk_at "pad") => `(tactic| skip)
local macro_rules | `(tactic| walk_at "pad") => `(tactic| skip)
local macro_rules | `(tactic| walk_at "pad") => `(tactic| skip)
open PySem PySem.W PyProof.Rows
set_option Elab.async false
set_option maxRecDepth 100000
set_option maxHeartbeats 4000000
set_option pp.deepTerms false
set_option pp.deepTerms.threshold 5
set_option pp.maxSteps 20000
set_option linter.unusedSimpArgs false
set_option linter.unusedVariables false
namespace Mine
local macro_rules | `(tactic| walk_at "eval Name") => `(tactic| first
  | refine nmL (by assumption) (by first | rfl | assumption) ?_
  | refine nmG (by assumption) (by assumption) (by first | exact gl_twin_re_1 _ | exact gl_twin_re_2 _ | exact gl_CRLF _ | exact gl_quotedata _ | exact gl_fix_eols _ | exact gl_parse_varint _ | exact gl_law_numbers _ | exact gl_law_word _ | exact gl_law_spelled _ | exact gl_law_mails _ | exact gl_law_sent _ | exact gl_law_octets _ | exact gl_law_value _ | exact gl_law_primes _) ?_
  | refine nmB (by assumption) (by assumption) (by first | exact gb_next _ | exact gb_enumerate _ | exact gb_chr _ | exact gb_ord _ | exact gb_len _ | exact gb_sum _ | exact gb_range _ | exact gb_iter _ | exact gb_StopIteration _) (by boot_fast) ?_)
local macro_rules | `(tactic| walk_at "storeName") => `(tactic| (refine storeX_L (by assumption) (by assumption) ?_; intro h' F' N'; dsimp only at F' N' ⊢))

local macro_rules | `(tactic| walk_at "loadName") => `(tactic| refine wpAny_loadName_local rfl rfl (Fr.ns (by assumption)) (by first | rfl | assumption) ?_)
local macro_rules | `(tactic| walk_at "callWith ref") => `(tactic| refine callWith_K (Gd.X (by assumption)) (by kernel_rfl) ?_)
local macro_rules | `(tactic| walk_at "And") => `(tactic| ((with_reducible show Frag.In _ _ ∧ _); refine ⟨Frag.In.keeps (Gd.X (by assumption)) (Fr.keep (by assumption)), ?_⟩; (try dsimp only [List.nil_append, List.cons_append])))
local macro_rules | `(tactic| walk_at "eval ListComp") => `(tactic| refine lc (by with_unfolding_all first | exact closureFor_none (by decide) | rfl) (by decide) (by with_unfolding_all rfl) (by decide) ?_ (by intro _; with_unfolding_all rfl))

def Okx (x y : List Nat) : Prop := (endCR false x = true ∨ endCR false y = true) → x.head? ≠ some 10 ∧ y.head? ≠ some 10


def finE (z : List Nat) : List Nat := if endCR false z then z ++ [10] else z
theorem finE_fix (z : List Nat) : fixF false (finE z) = fixF false z := by
  unfold finE
  split
  · rename_i h; rw [fixF_append, h]; simp [fixF]
  · rfl
theorem finE_end (z : List Nat) : endCR false (finE z) = false := by
  unfold finE
  split
  · rw [endCR_append]; simp [endCR]
  · rename_i h; simpa using h
theorem finE_len (z : List Nat) : (finE z).length ≤ z.length + 1 := by
  unfold finE
  split <;> simp

theorem mails_spec {w : World} {A : Around} {E : Value → Shared → Prop} {s : Shared} {l₁ l₂ : List Nat} {t₁ t₂ u : Tok} {k : Int} (G : Gd w s.heap) (hA : A.depth + 1 < recursionLimit) (hh : A.handled = none)
    (n₁ : l₁ ≠ []) (n₂ : l₂ ≠ []) (h₁ : l₁.length ≤ 5) (h₂ : l₂.length ≤ 5) (c₁ : ∀ c ∈ l₁, c ≠ 13) (c₂ : ∀ c ∈ l₂, c ≠ 13) :
    wpAny (model PP w) A (call (.ref 88) [.str (S l₁) t₁, .str (S l₂) t₂, .int k u])
      (RetL (fun items => ∃ x y tx ty, items = [.str (S x) tx, .str (S y) ty] ∧ fixF false x = phi l₁ ∧ fixF false y = phi l₂ ∧ x.length ≤ 11 ∧ y.length ≤ 11 ∧ Okx x y) s) E s := by
  refine enter G (by omega) (by rfl) (by rfl) (binds := [("one", .str (S l₁) t₁), ("other", .str (S l₂) t₂), ("turn", .int k u)]) (by rfl) (locs rfl) (by decide) rfl rfl rfl fun hp F => ?_
  have N : News s.heap s.heap.objs.size hp [] := News.nil
  repeat' walk1
  refine wpAny_mono (spelled_spec (G.keeps F.keep) (by show A.depth + 1 < _; omega) hh h₁ c₁) (fun v s' r => ?_) (fun _ _ x => x)
  obtain ⟨⟨x, tx, rfl, hx, lx⟩, g₂, tk₂, rfl, k₂⟩ := r
  replace F := fr_up F k₂
  replace N := news_up N k₂
  dsimp only at F N ⊢
  repeat' walk1
  refine wpAny_mono (spelled_spec (G.keeps F.keep) (by show A.depth + 1 < _; omega) hh h₂ c₂) (fun v s' r => ?_) (fun _ _ x => x)
  obtain ⟨⟨y, ty, rfl, hy, ly⟩, g₃, tk₃, rfl, k₃⟩ := r
  replace F := fr_up F k₃
  replace N := news_up N k₃
  dsimp only at F N ⊢
  clear k₂ k₃ g₂
  have nx : x ≠ [] := by rintro rfl; exact n₁ (phi_eq_nil hx.symm)
  have ny : y ≠ [] := by rintro rfl; exact n₂ (phi_eq_nil hy.symm)
  obtain ⟨x0, xr, rfl⟩ := List.exists_cons_of_ne_nil nx
  obtain ⟨y0, yr, rfl⟩ := List.exists_cons_of_ne_nil ny
  repeat' walk1
  rename Fr _ _ _ _ => F₂
  rename News _ _ _ _ => N₂
  refine src_list hh (News.isList N₂ (.head _)) ?_ (fun i v => ∃ t, v = .str (S [if i = 0 then x0 else y0]) t) ?_ ?_ ?_
  · rw [sizeLine_eq]; simp
  · exact fun C => ⟨rfl, rfl⟩
  · intro C i v s₃ m₃ E' hv hm F₃
    have hv' : ∃ z zr tz, v = .str (S (z :: zr)) tz ∧ z = (if i = 0 then x0 else y0) := by
      rcases i with _ | _ | i
      · simp at hv; exact ⟨_, _, _, hv.symm, rfl⟩
      · simp at hv; exact ⟨_, _, _, hv.symm, rfl⟩
      · simp at hv
    obtain ⟨z, zr, tz, rfl, hz⟩ := hv'
    repeat' walk1
    refine item_str (by decide) (by rw [S_length, List.length_cons]; omega) (by rw [S_length, List.length_cons]; omega) (fun _ => ?_)
    exact ⟨⟨_, by rw [item_head, hz]⟩, keeps_tk _ _⟩
  · intro s₄ wr ys up hw e hlen hys
    refine fin_lc F₂ N₂ up hw e fun D k h' tk F₅ N₅ => ?_
    obtain ⟨v₁, v₂, rfl⟩ : ∃ v₁ v₂, ys = [v₁, v₂] := by
      match ys, hlen with
      | [v₁, v₂], _ => exact ⟨v₁, v₂, rfl⟩
    obtain ⟨ta, rfl⟩ := hys 0 v₁ rfl
    obtain ⟨tb, rfl⟩ := hys 1 v₂ rfl
    refine in_list_strs (News.isList N₅ (.head _)) (.cons _ _ (.cons _ _ .nil)) ?_
    dsimp only
    walk1
    walk1
    · clear F₂ N₂ up hw e
      repeat' walk1
      refine src_list hh (News.isList N₅ (.tail _ (.head _))) ?_ (fun i v => ∃ t, v = .str (S (finE (if i = 0 then x0 :: xr else y0 :: yr))) t) ?_ ?_ ?_
      · rw [sizeLine_eq]; simp
      · exact fun C => ⟨rfl, rfl⟩
      · intro C i v s₃ m₃ E' hv hm F₃
        have hv' : ∃ z tz, v = .str (S z) tz ∧ z = (if i = 0 then x0 :: xr else y0 :: yr) := by
          rcases i with _ | _ | i
          · simp at hv; exact ⟨_, _, hv.symm, rfl⟩
          · simp at hv; exact ⟨_, _, hv.symm, rfl⟩
          · simp at hv
        obtain ⟨z, tz, rfl, hz⟩ := hv'
        have hzn : z ≠ [] := by rw [hz]; split <;> simp
        have hzl : z.length ≤ 10 := by rw [hz]; split <;> assumption
        rw [← hz]
        clear hz
        obtain ⟨zi, zl, rfl⟩ : ∃ zi zl, z = zi ++ [zl] := ⟨z.dropLast, z.getLast hzn, (List.dropLast_concat_getLast hzn).symm⟩
        have hend : endCR false (zi ++ [zl]) = (zl == 13) := by rw [endCR_append]; rfl
        repeat' walk1
        refine item_str (by decide) (by rw [S_length, List.length_append, List.length_singleton]; omega) (by rw [S_length, List.length_append, List.length_singleton]; omega) (fun _ => ?_)
        rw [item_last]
        repeat' walk1
        · rename (_ == _) = true => ha
          have hz13 : zl = 13 := by
            have h1 := eq_of_beq ha
            rw [show Str.ofString "\r" = S [13] from rfl] at h1
            simpa [S] using h1
          refine PyProof.Rows.add_str (fun t' tk => ?_) (by rw [S_length, show Str.ofString "\n" = S [10] from rfl, S_length, sizeLine_eq, List.length_append, List.length_singleton]; simp at hzl ⊢; omega)
          refine ⟨⟨t', ?_⟩, keeps_tk _ _⟩
          rw [show Str.ofString "\n" = S [10] from rfl, S_append]
          have : endCR false (zi ++ [13]) = true := by rw [endCR_append]; rfl
          subst hz13
          simp [finE, this]
        · rename (_ == _) = false => ha
          have hz13 : zl ≠ 13 := by
            rintro rfl
            exact absurd ha (by decide +kernel)
          refine ⟨⟨tz, ?_⟩, keeps_tk _ _⟩
          have : (zl == 13) = false := by simp [hz13]
          rw [this] at hend
          simp [finE, hend]
      · intro s₄ wr ys up hw e hlen hys
        refine fin_lc F₅ N₅ up hw e fun D k h' tk F₆ N₆ => ?_
        obtain ⟨v₁, v₂, rfl⟩ : ∃ v₁ v₂, ys = [v₁, v₂] := by
          match ys, hlen with
          | [v₁, v₂], _ => exact ⟨v₁, v₂, rfl⟩
        obtain ⟨ta, rfl⟩ := hys 0 v₁ rfl
        obtain ⟨tb, rfl⟩ := hys 1 v₂ rfl
        have q₁ := finE_len (x0 :: xr)
        have q₂ := finE_len (y0 :: yr)
        refine retL_of F₆ N₆ (.head _) ⟨finE (x0 :: xr), finE (y0 :: yr), ta, tb, rfl, by rw [finE_fix, hx], by rw [finE_fix, hy], by omega, by omega, ?_⟩
        intro h
        rw [finE_end, finE_end] at h
        simp at h
    · rename (List.any _ _ = false) => ha
      have hx0 : x0 ≠ 10 := by rintro rfl; revert ha; simp [show Str.ofString "\n" = S [10] from rfl]
      have hy0 : y0 ≠ 10 := by rintro rfl; revert ha; simp [show Str.ofString "\n" = S [10] from rfl]
      repeat' walk1
      exact retL_of F₅ N₅ (.tail _ (.head _)) ⟨x0 :: xr, y0 :: yr, tx, ty, rfl, hx, hy, by omega, by omega, fun _ => ⟨by simp [hx0], by simp [hy0]⟩⟩
end Mine
end
-- part B5
section
open PySem PySem.W PyProof.Rows
set_option Elab.async false
set_option maxRecDepth 100000
set_option maxHeartbeats 4000000
set_option linter.unusedVariables false
namespace Mine
section
variable {w : World} {A : Around} {E : Value → Shared → Prop} {s : Shared}
theorem sum_K {l : Addr} {vs : List Value} {ns : List Int} {Q : Value → Shared → Prop} (hh : A.handled = none) (hl : s.heap.IsList l vs.toArray) (hi : IntsAre vs ns)
    (h : ∀ h' tk t', (∀ b o, s.heap.get? b = some o → h'.get? b = some o) → Q (.int ns.sum t') { s with heap := h', toks := tk }) :
    wpAny (model PP w) A (call (.builtin "sum") [.ref l]) Q E s := by
  obtain ⟨xs, hxs⟩ := hi.allInts.items
  have e : ns.sum = preSum (numAt xs) xs.size := by
    have h1 := hi.numsOf
    have h2 : numsOf vs = numsOf vs.toArray.toList := rfl
    rw [← h1, h2, hxs, nums_intItems, preSum_eq, List.take_of_length_le (by simp)]
  rw [hxs] at hl
  rw [e] at h
  exact sum_intListG hh hl h
end
end Mine
end
-- part M2
section
local macro_rules | `(tactic| walk_at "pad") => `(tactic| skip)
local macro_rules | `(tactic| walk_at "pad") => `(tactic| skip)
local macro_rules | `(tactic| walk_at "pad") => `(tactic| skip)
local macro_rules | `(tactic| walk_at "pad") => `(tactic| skip)
local macro_rules | `(tactic| walk_at "pad") => `(tactic| skip)
local macro_rules | `(tactic| walk_at "pad") => `(tactic| skip)
local macro_rules | `(tactic| walk_at "pad") => `(tactic| skip)
local macro_rules | `(tactic| walk_at "pad") => `(tactic| skip)
local macro_rules | `(tactic| walk_at "pad") => `(tactic| skip)
local macro_rules | `(tactic| walk_at "pad") => `(tactic| skip)
local macro_rules | `(tactic| walk_at "pad") => `(tactic| skip)
local macro_rules | `(tactic| walk_at "pad") => `(tactic| skip)
local macro_rules | `(tactic| walk_at "pad") => `(tactic| skip)
local macro_rules | `(tactic| walk_at "pad") => `(tactic| skip)
open PySem PySem.W PyProof.Rows
/-! Numbers to the base 64. -/
namespace Mine
theorem val_acc (l : List Nat) : ∀ a, l.foldl (fun a c => a * 64 + c) a = a * 64 ^ l.length + val l := by
  induction l with
  | nil => intro a; simp [val]
  | cons c r ih =>
    intro a
    simp only [List.foldl_cons, List.length_cons, val]
    rw [ih, ih (0 * 64 + c), Nat.pow_succ, Nat.add_mul, Nat.zero_mul, Nat.zero_add, Nat.mul_assoc, Nat.mul_comm 64, Nat.add_assoc]
theorem val_append (a b : List Nat) : val (a ++ b) = val a * 64 ^ b.length + val b := by
  rw [val, List.foldl_append, val_acc]; rfl
theorem val_cons (c : Nat) (r : List Nat) : val (c :: r) = c * 64 ^ r.length + val r := by
  rw [show c :: r = [c] ++ r from rfl, val_append]; simp [val]
def vals : List Nat → List Int
  | [] => []
  | c :: r => (c : Int) * 64 ^ r.length :: vals r
theorem vals_length : ∀ l, (vals l).length = l.length
  | [] => rfl
  | c :: r => by simp [vals, vals_length r]
theorem vals_get : ∀ (l : List Nat) (i c : Nat), l[i]? = some c → (vals l)[i]? = some ((c : Int) * 64 ^ (l.length - 1 - i))
  | c :: r, 0, d, h => by
    simp at h; subst h; simp [vals]
  | c :: r, i + 1, d, h => by
    have h' : r[i]? = some d := by simpa using h
    have := vals_get r i d h'
    have hi : i < r.length := (List.getElem?_eq_some_iff.mp h').1
    simp only [vals, List.getElem?_cons_succ, List.length_cons]
    rw [this]
    congr 3
    omega
theorem vals_sum : ∀ l, (vals l).sum = (val l : Int)
  | [] => rfl
  | c :: r => by
    rw [vals, List.sum_cons, vals_sum r, val_cons]
    simp
end Mine
end
-- part F8
section
open PySem PySem.W PyProof.Rows
set_option Elab.async false
set_option maxRecDepth 100000
set_option maxHeartbeats 4000000
set_option pp.deepTerms false
set_option pp.deepTerms.threshold 5
set_option pp.maxSteps 20000
set_option linter.unusedSimpArgs false
set_option linter.unusedVariables false
namespace Mine
local macro_rules | `(tactic| walk_at "eval Name") => `(tactic| first
  | refine nmL (by assumption) (by first | rfl | assumption) ?_
  | refine nmC (by assumption) (by rfl) ?_
  | refine nmG (by assumption) (by assumption) (by first | exact gl_twin_re_1 _ | exact gl_twin_re_2 _ | exact gl_CRLF _ | exact gl_quotedata _ | exact gl_fix_eols _ | exact gl_parse_varint _ | exact gl_law_numbers _ | exact gl_law_word _ | exact gl_law_spelled _ | exact gl_law_mails _ | exact gl_law_sent _ | exact gl_law_octets _ | exact gl_law_value _ | exact gl_law_primes _) ?_
  | refine nmB (by assumption) (by assumption) (by first | exact gb_next _ | exact gb_enumerate _ | exact gb_chr _ | exact gb_ord _ | exact gb_len _ | exact gb_sum _ | exact gb_range _ | exact gb_iter _ | exact gb_StopIteration _) (by boot_fast) ?_)
local macro_rules | `(tactic| walk_at "storeName") => `(tactic| (refine storeX_L (by assumption) (by assumption) ?_; intro h' F' N'; dsimp only at F' N' ⊢))

local macro_rules | `(tactic| walk_at "loadName") => `(tactic| refine wpAny_loadName_local rfl rfl (Fr.ns (by assumption)) (by first | rfl | assumption) ?_)
local macro_rules | `(tactic| walk_at "callWith ref") => `(tactic| refine callWith_K (Gd.X (by assumption)) (by kernel_rfl) ?_)
local macro_rules | `(tactic| walk_at "And") => `(tactic| ((with_reducible show Frag.In _ _ ∧ _); refine ⟨Frag.In.keeps (Gd.X (by assumption)) (Fr.keep (by assumption)), ?_⟩; (try dsimp only [List.nil_append, List.cons_append])))
local macro_rules | `(tactic| walk_at "eval ListComp") => `(tactic| refine lc (by with_unfolding_all first | exact closureFor_none (by decide) | rfl) (by decide) (by with_unfolding_all rfl) (by decide) ?_ (by intro _; with_unfolding_all rfl))


theorem value_spec {w : World} {A : Around} {E : Value → Shared → Prop} {s : Shared} {l : List Nat} {t : Tok} (G : Gd w s.heap) (hA : A.depth < recursionLimit) (hh : A.handled = none)
    (hl : l.length ≤ 100) (hc : ∀ c ∈ l, c < 64) :
    wpAny (model PP w) A (call (.ref 103) [.str (S l) t]) (Ret (fun v => ∃ t', v = .int (val l : Int) t') s) E s := by
  refine enterC G hA (by rfl) (by rfl) (binds := [("even", .str (S l) t)]) (by rfl) (by intro n x hx; rcases List.mem_singleton.mp hx with rfl; exact .inr ⟨rfl, rfl⟩) (by decide) rfl rfl rfl fun h₁ tk cells F N Y => ?_
  obtain ⟨o, rfl, hd⟩ := CellsAre.one Y
  clear Y
  have hcell : h₁.IsCell (s.heap.objs.size + 1) (some (.str (S l) t)) := ⟨o, N.get (.head _), hd⟩
  iterate 13 walk1
  refine src_enum_str hh (by decide) (by rw [sizeLine_eq]; omega) (fun i v => ∃ c t, l[i]? = some c ∧ v = .int ((c : Int) * 64 ^ (l.length - 1 - i)) t) (asc_S hc) (fun C => ⟨rfl, rfl, rfl⟩) ?_ ?_
  · intro C i c ti tc s₃ m₃ E' hci hmk hms F₃
    have hcell₃ := hcell.keeps F₃.keep
    have G₃ := G.keeps (fun b o e => F₃.keep b o (F.keep b o e))
    have hc64 := hc c (List.mem_of_getElem? hci)
    have hi : i < l.length := (List.getElem?_eq_some_iff.mp hci).1
    have GF := G.keeps F.keep
    dsimp only at F₃ hcell₃
    repeat' walk1
    refine PySem.P.len_str (by rw [S_length]; omega) ?_
    rw [S_length]
    iterate 4 walk1
    refine pow_int_small (by omega) (by omega) (by decide) ?_
    refine mul_int ?_ (.of_left (intBits_le_64 (by omega) (by omega)))
    refine ⟨⟨c, _, hci, congrArg (Value.int · _) ?_⟩, _, _, rfl, fun _ _ e => e⟩
    have h2 : ((l.length : Int) - 1 - (i : Int)).toNat = l.length - 1 - i := by omega
    rw [h2]
  · intro s₄ wr ys up hw e hlen hys
    refine fin_lc F N up hw e fun D k h' tk F₅ N₅ => ?_
    walk1
    have hi : IntsAre ys (vals l) := ints_of _ _ (by rw [hlen, vals_length]) fun i y hy => by
      obtain ⟨c, t, h1, h2⟩ := hys i y hy
      exact ⟨_, t, vals_get l i c h1, h2⟩
    refine sum_K hh (News.isList N₅ (.head _)) hi fun h'' tk t' hk => ?_
    exact ⟨⟨t', by rw [vals_sum]⟩, Keeps.of_fr (fr_up F₅ hk)⟩
end Mine
end
-- part B6
section
local macro_rules | `(tactic| walk_at "pad") => `(tactic| skip)
local macro_rules | `(tactic| walk_at "pad") => `(tactic| skip)
local macro_rules | `(tactic| walk_at "pad") => `(tactic| skip)
local macro_rules | `(tactic| walk_at "pad") => `(tactic| skip)
local macro_rules | `(tactic| walk_at "pad") => `(tactic| skip)
local macro_rules | `(tactic| walk_at "pad") => `(tactic| skip)
local macro_rules | `(tactic| walk_at "pad") => `(tactic| skip)
local macro_rules | `(tactic| walk_at "pad") => `(tactic| skip)
local macro_rules | `(tactic| walk_at "pad") => `(tactic| skip)
local macro_rules | `(tactic| walk_at "pad") => `(tactic| skip)
local macro_rules | `(tactic| walk_at "pad") => `(tactic| skip)
local macro_rules | `(tactic| walk_at "pad") => `(tactic| skip)
local macro_rules | `(tactic| walk_at "pad") => `(tactic| skip)
local macro_rules | `(tactic| walk_at "pad") => `(tactic| skip)
open PySem PySem.W PyProof.Rows
set_option Elab.async false
set_option maxRecDepth 100000
set_option maxHeartbeats 4000000
set_option linter.unusedVariables false
namespace Mine

/-- a comprehension's turns; tn: the names that its target binds -/
structure CT2 (w : World) (A : Around) (target : PySem.Expr) (I : Addr) (fp wr : List Addr) (n : Nat) (cok : Env → Prop) (Bd : Nat → (Str → Option Value) → Prop) (St : Nat → Heap → Prop) (tn : List Str) : Prop where
  sub : ∀ b ∈ wr, b ∈ fp
  frame : ∀ i h h', St i h → (∀ b ∈ fp, ∀ o, h.get? b = some o → h'.get? b = some o) → St i h'
  item : ∀ i (s : Shared) (env : Env) (m : Str → Option Value) (Q : Shared → Prop) (E : Value → Shared → Prop), i < n → St i s.heap → cok env → env.locals ∉ fp → s.heap.Ns env.locals m →
    (∀ h' tk m', St (i + 1) h' → h'.Ns env.locals m' → Bd i m' → (∀ z, z ∉ tn → m' z = m z) → (∀ b o, b ≠ env.locals → b ∉ wr → s.heap.get? b = some o → h'.get? b = some o) → Q { s with heap := h', toks := tk }) →
    wpAny (model PP w) A (pyNext (.ref I)) (fun r s₁ => match r with
      | none => False
      | some v => wpAny (model PP w) A (letOwnedTupleGo target (.ref I) v) (fun _ s₂ => wpAny (model PP w) A (assign target env v) (fun _ s₃ => Q s₃) E s₂) E s₁) E s
  done : ∀ (s : Shared) (Q : Option Value → Shared → Prop) (E : Value → Shared → Prop), St n s.heap →
    (∀ h' tk, (∀ b o, b ∉ wr → s.heap.get? b = some o → h'.get? b = some o) → Q none { s with heap := h', toks := tk }) → wpAny (model PP w) A (pyNext (.ref I)) Q E s
  self : ∀ i (s : Shared) (Q : Value → Shared → Prop) (E : Value → Shared → Prop), St i s.heap → Q (.ref I) s → wpAny (model PP w) A (pyIter (.ref I)) Q E s

section
variable {w : World} {A : Around} {E : Value → Shared → Prop} {env : Env} {I : Addr} {fp wr : List Addr} {n : Nat} {St : Nat → Heap → Prop}

theorem CT2.name {x : Str} {px : Pos} {P : Nat → Value → Prop} (W : Walks PP w A I fp wr n P St) :
    CT2 w A (.Name x px) I fp wr n (okN x) (fun i m => ∃ v, P i v ∧ m x = some v) St [x] where
  sub := W.sub
  frame := W.frame
  item := fun i s env m Q E hi st hc hL hn hQ => by
    refine W.item i s _ _ hi st fun v h₁ tk₁ hP st₁ hk₁ => ?_
    have hLw : env.locals ∉ wr := fun h => hL (W.sub _ h)
    refine wpAny_pure (wpAny_assign_Name (wpAny_storeName_local hc.1 (hn.at' fun o e => hk₁ _ o hLw e) (fun h₂ hn₂ hs₂ => ?_) hc.2))
    exact hQ h₂ _ _ (W.frame _ _ _ st₁ fun b hb o e => hs₂.extBut b o (fun q => hL (q ▸ hb)) e) hn₂ ⟨v, hP, by simp⟩ (fun z hz => by simp at hz; simp [hz]) fun b o hb hw e => hs₂.extBut b o hb (hk₁ b o hw e)
  done := W.done
  self := W.self

theorem CT2.pair2 {a b : Str} {pa pb tp : Pos} {kk : Nat} {Pt : Nat → Array Value → Prop} {P2 : Nat → Value → Value → Prop} {Mid : Nat → Addr → Heap → Prop} (hh : A.handled = none) (hab : ¬ a = b)
    (W : WalksU PP w A I fp wr n Pt St Mid) (hP2 : ∀ i v, i < n → Pt i v → ∃ x y, v = #[x, y] ∧ P2 i x y) :
    CT2 w A (.Tuple [.Name a pa, .Name b pb] kk tp) I fp wr n (okNN a b) (fun i m => ∃ x y, P2 i x y ∧ m a = some x ∧ m b = some y) St [a, b] where
  sub := W.sub
  frame := W.frame
  item := fun i s env m Q E hi st hc hL hn hQ => by
    have hLw : env.locals ∉ wr := fun h => hL (W.sub _ h)
    refine W.item i s _ _ hi st fun T vals h₁ tk₁ hP hT hm hk₁ => ?_
    refine W.go _ _ _ i T _ _ _ hm fun h₂ st₂ hk₂ => ?_
    obtain ⟨x, y, rfl, hxy⟩ := hP2 i vals hi hP
    have hT₂ : h₂.IsTuple T #[x, y] := hT.at fun o e => hk₂ T o (W.apart i T _ hm) e
    have hn₂ : h₂.Ns env.locals m := (hn.at' fun o e => hk₁ _ o hLw e).at' fun o e => hk₂ _ o hLw e
    refine kcp_assign hh hT₂ hc.1 hc.2.1 hc.2.2 hn₂ fun h₃ tk₃ hn₃ hk₃ => ?_
    refine hQ h₃ tk₃ _ (W.frame _ _ _ st₂ fun c hb o e => hk₃ c o (fun q => hL (q ▸ hb)) e) hn₃ ⟨x, y, hxy, ?_, ?_⟩ (fun z hz => ?_) fun c o hc' hw e => hk₃ c o hc' (hk₂ c o hw (hk₁ c o hw e))
    · simp [hab]
    · simp
    · simp at hz; simp [hz.1, hz.2]
  done := W.done
  self := W.self
end

/-- the rule of one level's loop; B: what a turn does behind the target -/
def LoopRule (w : World) (A : Around) (target : PySem.Expr) (it : Value) (env : Env) (e : PySem.Expr) (d : Nat) (acc : Value) (R : Result → Shared → Prop) (B : (Shared → Prop) → Shared → Prop) : Prop :=
  ∀ (J : Nat → Shared → Prop), (∀ n s, J n s → wpAny (model PP w) A (pyNext it) (fun r s₁ => match r with
      | none => R (.ok .next) s₁
      | some v => wpAny (model PP w) A (letOwnedTupleGo target it v) (fun _ s₀ => wpAny (model PP w) A (assign target env v) (fun _ s₂ => B (fun s₅ => ∃ m, m < n ∧ J m s₅) s₂)
          (notedBy (model PP w) A env fun e s' => R (.error e) s') s₀) (notedBy (model PP w) A env fun e s' => R (.error e) s') s₁) (notedBy (model PP w) A env fun e s' => R (.error e) s') s) →
    ∀ n s, J n s → codeAny (model PP w) A (.compLoop e d it acc env) R s

section
variable {w : World} {A : Around} {env : Env} {it acc : Value} {R : Result → Shared → Prop} {elt target iter target₂ iter₂ : PySem.Expr} {scope : Scope} {pos : Pos}

theorem rule_plain : LoopRule w A target it env (.ListComp elt [⟨target, iter, [], 0⟩] scope pos) 0 acc R (fun K s₂ => wpAny (model PP w) A (eval elt env) (fun x s₄ =>
    wpAny (model PP w) A (call (.builtin "list.append") [acc, x]) (fun _ s₅ => K s₅) (notedBy (model PP w) A env fun e s' => R (.error e) s') s₄) (notedBy (model PP w) A env fun e s' => R (.error e) s') s₂) :=
  fun J turn n s h => kcp_loop J turn n h

theorem rule_test {ct : PySem.Expr} : LoopRule w A target it env (.ListComp elt [⟨target, iter, [ct], 0⟩] scope pos) 0 acc R (fun K s₂ => wpAny (model PP w) A (isTrue ct env (eval ct env)) (fun ok s₃ => if ok = true then wpAny (model PP w) A (eval elt env) (fun x s₄ =>
    wpAny (model PP w) A (call (.builtin "list.append") [acc, x]) (fun _ s₅ => K s₅) (notedBy (model PP w) A env fun e s' => R (.error e) s') s₄) (notedBy (model PP w) A env fun e s' => R (.error e) s') s₃ else K s₃) (notedBy (model PP w) A env fun e s' => R (.error e) s') s₂) := by
  intro I turn n s h
  refine codeAny_loop rfl I (fun n s hI => ?_) n h
  show wpAny _ A ((compTurn (.ListComp elt [⟨target, iter, [ct], 0⟩] scope pos) 0 it acc env).onRaise (fun x => do noteFrame x env; theTreesLotGoes x)) _ _ s
  refine wpAny_noted ?_
  rw [compTurn_list]
  refine wpAny_bind (wpAny_standAt (wpAny_bind (wpAny_mono (turn n s hI) (fun r s₁ h₁ => ?_) fun _ _ h' => h')))
  cases r with
  | none => exact wpAny_pure h₁
  | some v =>
    refine wpAny_bind (wpAny_mono h₁ (fun _ s₀ h₀' => ?_) fun _ _ h' => h')
    refine wpAny_bind (wpAny_mono h₀' (fun _ s₂ h₂ => ?_) fun _ _ h' => h')
    refine wpAny_bind (wpAny_tests_one (wpAny_mono h₂ (fun ok s₃ h₃ => ?_) fun _ _ h' => h'))
    cases ok with
    | false => exact wpAny_pure ⟨rfl, h₃⟩
    | true => exact wpAny_bind (wpAny_bind (wpAny_mono h₃ (fun x s₄ h₄ => wpAny_bind (wpAny_mono h₄ (fun _ s₅ h₅ => wpAny_pure (wpAny_pure ⟨rfl, h₅⟩)) fun _ _ h' => h')) fun _ _ h' => h'))

theorem compTurn_out :
    compTurn (.ListComp elt [⟨target, iter, [], 0⟩, ⟨target₂, iter₂, [], 0⟩] scope pos) 0 it acc env = (do
      standAt iter.pos
      match ← pyNext it with
      | none => pure (.done .next)
      | some v =>
        letOwnedTupleGo target it v
        assign target env v
        let mut ok := true
        for c in ([] : List PySem.Expr) do
          if ok then ok ← isTrue c env (eval c env)
        if ok then
          let x ← eval iter₂ env
          standAt iter₂.pos
          let x ← foldedSetIterable iter₂ env x
          let _ ← runOwn (.compStart (.ListComp elt [⟨target, iter, [], 0⟩, ⟨target₂, iter₂, [], 0⟩] scope pos) 1 (← holding [x] (pyIter x)) acc env) env
        again (.compLoop (.ListComp elt [⟨target, iter, [], 0⟩, ⟨target₂, iter₂, [], 0⟩] scope pos) 0 it acc env)) := by rfl

theorem compTurn_in :
    compTurn (.ListComp elt [⟨target, iter, [], 0⟩, ⟨target₂, iter₂, [], 0⟩] scope pos) 1 it acc env = (do
      standAt iter₂.pos
      match ← pyNext it with
      | none => pure (.done .next)
      | some v =>
        letOwnedTupleGo target₂ it v
        assign target₂ env v
        let mut ok := true
        for c in ([] : List PySem.Expr) do
          if ok then ok ← isTrue c env (eval c env)
        if ok then
          (do let _ ← call (.builtin "list.append") [acc, ← eval elt env])
        again (.compLoop (.ListComp elt [⟨target, iter, [], 0⟩, ⟨target₂, iter₂, [], 0⟩] scope pos) 1 it acc env)) := by rfl

theorem rule_in : LoopRule w A target₂ it env (.ListComp elt [⟨target, iter, [], 0⟩, ⟨target₂, iter₂, [], 0⟩] scope pos) 1 acc R (fun K s₂ => wpAny (model PP w) A (eval elt env) (fun x s₄ =>
    wpAny (model PP w) A (call (.builtin "list.append") [acc, x]) (fun _ s₅ => K s₅) (notedBy (model PP w) A env fun e s' => R (.error e) s') s₄) (notedBy (model PP w) A env fun e s' => R (.error e) s') s₂) := by
  intro I turn n s h
  refine codeAny_loop rfl I (fun n s hI => ?_) n h
  show wpAny _ A ((compTurn (.ListComp elt [⟨target, iter, [], 0⟩, ⟨target₂, iter₂, [], 0⟩] scope pos) 1 it acc env).onRaise (fun x => do noteFrame x env; theTreesLotGoes x)) _ _ s
  refine wpAny_noted ?_
  rw [compTurn_in]
  refine wpAny_bind (wpAny_standAt (wpAny_bind (wpAny_mono (turn n s hI) (fun r s₁ h₁ => ?_) fun _ _ h' => h')))
  cases r with
  | none => exact wpAny_pure h₁
  | some v =>
    refine wpAny_bind (wpAny_mono h₁ (fun _ s₀ h₀' => ?_) fun _ _ h' => h')
    refine wpAny_bind (wpAny_mono h₀' (fun _ s₂ h₂ => ?_) fun _ _ h' => h')
    refine wpAny_bind (wpAny_tests_nil ?_)
    exact wpAny_bind (wpAny_bind (wpAny_mono h₂ (fun x s₄ h₄ => wpAny_bind (wpAny_mono h₄ (fun _ s₅ h₅ => wpAny_pure (wpAny_pure ⟨rfl, h₅⟩)) fun _ _ h' => h')) fun _ _ h' => h'))

theorem start_in {s : Shared} 
    (h0 : codeAny (model PP w) A (.compLoop (.ListComp elt [⟨target, iter, [], 0⟩, ⟨target₂, iter₂, [], 0⟩] scope pos) 1 it acc env) R s)
    (h : wpAny (model PP w) A (pyIter it) (fun it' s' => codeAny (model PP w) A (.compLoop (.ListComp elt [⟨target, iter, [], 0⟩, ⟨target₂, iter₂, [], 0⟩] scope pos) 1 it' acc env) R s')
      (notedBy (model PP w) A env fun x s' => R (.error x) s') s) :
    codeAny (model PP w) A (.compStart (.ListComp elt [⟨target, iter, [], 0⟩, ⟨target₂, iter₂, [], 0⟩] scope pos) 1 it acc env) R s := by
  refine codeAny_of_tree ?_
  show wpAny _ _ ((compStart (.ListComp elt [⟨target, iter, [], 0⟩, ⟨target₂, iter₂, [], 0⟩] scope pos) 1 it acc env).onRaise (fun x => do noteFrame x env; standAt theWindowsPlace)) _ _ s
  refine wpAny_notedAt ?_
  unfold compStart
  show wpAny _ _ (ask >>= _) _ _ s
  refine wpAny_bind (wpAny_askSetting (wpAny_ite ?_))
  split
  · first
      | exact wpAny_bind (wpAny_pure (wpAny_pure (And.intro rfl h0)))
      | exact wpAny_pure (And.intro rfl h0)
  · first
      | exact wpAny_bind (wpAny_rule (wpAny_bind (wpAny_standAt (wpAny_bind (wpAny_mono h (fun it' s' h' => wpAny_pure (And.intro rfl h')) fun _ _ x => x)))))
      | (refine wpAny_bind (wpAny_rule ?_); show wpAny _ _ (standAt iter₂.pos >>= _) _ _ s; exact wpAny_bind (wpAny_standAt (wpAny_bind (wpAny_mono h (fun it' s' h' => wpAny_pure (And.intro rfl h')) fun _ _ x => x))))

theorem rule_out (hs : ∀ x, foldedSetIterable iter₂ env x = pure x) : LoopRule w A target it env (.ListComp elt [⟨target, iter, [], 0⟩, ⟨target₂, iter₂, [], 0⟩] scope pos) 0 acc R (fun K s₂ =>
    wpAny (model PP w) A (eval iter₂ env) (fun xv s₃ => wpAny (model PP w) A (pyIter xv) (fun it₂ s₄ =>
      codeAny (model PP w) A (.compStart (.ListComp elt [⟨target, iter, [], 0⟩, ⟨target₂, iter₂, [], 0⟩] scope pos) 1 it₂ acc env) (fun r s' => match r with
        | .ok f => K s'
        | .error e => cameBackBy (model PP w) A env (notedBy (model PP w) A env fun e s' => R (.error e) s') e s') s₄) (notedBy (model PP w) A env fun e s' => R (.error e) s') s₃) (notedBy (model PP w) A env fun e s' => R (.error e) s') s₂) := by
  intro I turn n s h
  refine codeAny_loop rfl I (fun n s hI => ?_) n h
  show wpAny _ A ((compTurn (.ListComp elt [⟨target, iter, [], 0⟩, ⟨target₂, iter₂, [], 0⟩] scope pos) 0 it acc env).onRaise (fun x => do noteFrame x env; theTreesLotGoes x)) _ _ s
  refine wpAny_noted ?_
  rw [compTurn_out]
  refine wpAny_bind (wpAny_standAt (wpAny_bind (wpAny_mono (turn n s hI) (fun r s₁ h₁ => ?_) fun _ _ h' => h')))
  cases r with
  | none => exact wpAny_pure h₁
  | some v =>
    refine wpAny_bind (wpAny_mono h₁ (fun _ s₀ h₀' => ?_) fun _ _ h' => h')
    refine wpAny_bind (wpAny_mono h₀' (fun _ s₂ h₂ => ?_) fun _ _ h' => h')
    refine wpAny_bind (wpAny_tests_nil ?_)
    refine wpAny_bind (wpAny_mono h₂ (fun xv s₃ h₃ => ?_) fun _ _ h' => h')
    refine wpAny_bind (wpAny_standAt ?_)
    refine wpAny_bind (wpAny_of_eq (hs xv) ?_)
    refine wpAny_bind (wpAny_holding (wpAny_mono h₃ (fun it₂ s₄ h₄ => ?_) fun _ _ h' => h'))
    refine wpAny_bind (wpAny_runOwn (codeAny_mono h₄ fun r s' h' => ?_))
    cases r with
    | ok f => exact wpAny_pure ⟨rfl, h'⟩
    | error e => exact h'
end
end Mine
end
-- part B7
section
open PySem PySem.W PyProof.Rows
set_option Elab.async false
set_option maxRecDepth 100000
set_option maxHeartbeats 4000000
set_option linter.unusedVariables false
namespace Mine

/-- what a turn leaves: the frame and the list that is built, all else kept -/
def CEnd (L D : Addr) (s₃ : Shared) (J : List Value → (Str → Option Value) → Prop) (s₅ : Shared) : Prop :=
  ∃ h' tk m' ys, s₅ = { s₃ with heap := h', toks := tk } ∧ h'.Ns L m' ∧ h'.PlainList D (List.toArray ys) ∧ J ys m' ∧ ∀ b o, b ≠ L → b ≠ D → s₃.heap.get? b = some o → h'.get? b = some o

theorem level {w : World} {A : Around} {target : PySem.Expr} {I D L : Addr} {fp wr : List Addr} {n : Nat} {cok : Env → Prop} {Bd : Nat → (Str → Option Value) → Prop} {St : Nat → Heap → Prop} {tn : List Str}
    {e : PySem.Expr} {d : Nat} {env : Env} {B : (Shared → Prop) → Shared → Prop} {R : Result → Shared → Prop} {s₀ : Shared} {m₀ : Str → Option Value} {ys₀ : List Value}
    (LR : LoopRule w A target (.ref I) env e d (.ref D) R B) (T : CT2 w A target I fp wr n cok Bd St tn) (hcok : cok env) (hL : env.locals = L) (hLf : L ∉ fp) (hDf : D ∉ fp) (hDL : D ≠ L)
    (J : Nat → List Value → (Str → Option Value) → Prop) (hst : St 0 s₀.heap) (hn : s₀.heap.Ns L m₀) (hp : s₀.heap.PlainList D ys₀.toArray) (hJ : J 0 ys₀ m₀)
    (turn : ∀ i h₃ tk₃ m₂ m₃ ys (K : Shared → Prop), i < n → Bd i m₃ → J i ys m₂ → (∀ z, z ∉ tn → m₃ z = m₂ z) → h₃.Ns L m₃ → h₃.PlainList D ys.toArray →
      (∀ b o, b ≠ L → b ≠ D → b ∉ wr → s₀.heap.get? b = some o → h₃.get? b = some o) → (∀ s₅, CEnd L D { s₀ with heap := h₃, toks := tk₃ } (J (i + 1)) s₅ → K s₅) → B K { s₀ with heap := h₃, toks := tk₃ })
    (hR : ∀ h' tk m' ys, h'.Ns L m' → h'.PlainList D (List.toArray ys) → J n ys m' → (∀ b o, b ≠ L → b ≠ D → b ∉ wr → s₀.heap.get? b = some o → h'.get? b = some o) → R (.ok .next) { s₀ with heap := h', toks := tk }) :
    codeAny (model PP w) A (.compLoop e d (.ref I) (.ref D) env) R s₀ := by
  subst hL
  have hLw : env.locals ∉ wr := fun h => hLf (T.sub _ h)
  have hDw : D ∉ wr := fun h => hDf (T.sub _ h)
  refine LR (fun k s' => ∃ i h' tk m' ys, s' = { s₀ with heap := h', toks := tk } ∧ St i h' ∧ h'.Ns env.locals m' ∧ h'.PlainList D (List.toArray ys) ∧ J i ys m' ∧ i ≤ n ∧ k = n + 1 - i ∧
    (∀ b o, b ≠ env.locals → b ≠ D → b ∉ wr → s₀.heap.get? b = some o → h'.get? b = some o)) ?_ (n + 1) s₀ ⟨0, s₀.heap, s₀.toks, m₀, ys₀, rfl, hst, hn, hp, hJ, Nat.zero_le _, rfl, fun _ _ _ _ _ e => e⟩
  rintro k s' ⟨i, h', tk, m', ys, rfl, hst', hn', hp', hJ', hi, rfl, hk⟩
  by_cases hlt : i < n
  · refine wpAny_mono (T.item i _ env m' (fun s₂ => B (fun s₅ => ∃ m, m < n + 1 - i ∧ ∃ i h' tk m' ys, s₅ = { s₀ with heap := h', toks := tk } ∧ St i h' ∧ h'.Ns env.locals m' ∧ h'.PlainList D (List.toArray ys) ∧ J i ys m' ∧ i ≤ n ∧ m = n + 1 - i ∧
        (∀ b o, b ≠ env.locals → b ≠ D → b ∉ wr → s₀.heap.get? b = some o → h'.get? b = some o)) s₂) _ hlt hst' hcok hLf hn' fun h₂ tk₂ m₂ hst₂ hn₂ hBd hsame hk₂ => ?_) (fun r s₁ h => ?_) fun _ _ e => e
    rotate_left
    · cases r with
      | none => exact h.elim
      | some v => exact h
    refine turn i h₂ tk₂ m' m₂ ys _ hlt hBd hJ' hsame hn₂ (hp'.at fun o e => hk₂ D o hDL hDw e) (fun b o h1 h2 h3 e => hk₂ b o h1 h3 (hk b o h1 h2 h3 e)) ?_
    rintro s₅ ⟨h₅, tk₅, m₅, ys₅, rfl, hn₅, hp₅, hJ₅, hk₅⟩
    refine ⟨n + 1 - (i + 1), by omega, i + 1, h₅, tk₅, m₅, ys₅, rfl, ?_, hn₅, hp₅, hJ₅, hlt, rfl, fun b o h1 h2 h3 e => hk₅ b o h1 h2 (hk₂ b o h1 h3 (hk b o h1 h2 h3 e))⟩
    exact T.frame _ _ _ hst₂ fun b hb o e => hk₅ b o (fun q => hLf (q ▸ hb)) (fun q => hDf (q ▸ hb)) e
  · have hin : i = n := by omega
    subst hin
    refine T.done _ _ _ hst' fun h₂ tk₂ hk₂ => ?_
    exact hR h₂ tk₂ m' ys (hn'.at' fun o e => hk₂ _ o hLw e) (hp'.at fun o e => hk₂ _ o hDw e) hJ' fun b o h1 h2 h3 e => hk₂ b o h3 (hk b o h1 h2 h3 e)

/-- what a comprehension's source hands on: the loop runs, what it makes is told by Pf -/
def LcG (w : World) (A : Around) (e : PySem.Expr) (scope : Scope) (cl : List (Str × Addr)) (env : Env) (Fin : Shared → List Addr → List Value → Prop) (it : Value) (s₂ : Shared) : Prop :=
  ∃ wr, ∃ Pf : List Value → Prop, (∀ ys, Pf ys → Fin s₂ wr ys) ∧
    ∀ D C h₃ tk₃ m₃ (R : Result → Shared → Prop), s₂.heap.objs.size ≤ D → s₂.heap.objs.size ≤ C → D ≠ C → h₃.PlainList D #[] → h₃.Ns C m₃ → (∀ b o, s₂.heap.get? b = some o → h₃.get? b = some o) →
      (∀ h' tk m' ys, h'.Ns C m' → h'.PlainList D (List.toArray ys) → Pf ys → (∀ b o, b ∉ wr → s₂.heap.get? b = some o → h'.get? b = some o) → R (.ok .next) { s₂ with heap := h', toks := tk }) →
      codeAny (model PP w) A (.compStart e 0 it (.ref D) (compEnvC scope cl C env)) R { s₂ with heap := h₃, toks := tk₃ }

section
variable {w : World} {A : Around} {E : Value → Shared → Prop} {env : Env}
theorem lcG_run {s₂ : Shared} {e : PySem.Expr} {scope : Scope} {cl : List (Str × Addr)} {it : Value} {Fin : Shared → List Addr → List Value → Prop} {RR : Value → Addr → Result → Shared → Prop}
    (hcell : ∀ y ∈ scope.names, y.2 ≠ .cell) (hkind : scope.kind = .function) (h : LcG w A e scope cl env Fin it s₂)
    (hRR : ∀ wr D C h' tk m' (ys : List Value), s₂.heap.get? D = none → s₂.heap.get? C = none → D ≠ C → h'.Ns C m' → h'.PlainList D ys.toArray → Fin s₂ wr ys →
      (∀ b o, b ∉ wr → s₂.heap.get? b = some o → h'.get? b = some o) → RR (.ref D) C (.ok .next) { s₂ with heap := h', toks := tk }) :
    wpAny (model PP w) A (newList []) (fun acc s₃ => wpAny (model PP w) A (newFunctionEnv scope env.globals cl [] env.qual none .none (some env)) (fun cenv s₄ =>
      codeAny (model PP w) A (.compStart e 0 it acc { cenv with scope := relabel scope env }) (RR acc cenv.locals) s₄) E s₃) E s₂ := by
  obtain ⟨wr, Pf, hPf, loop⟩ := h
  refine wpAny_newObj_type (wpAny_newFunctionEnv hcell (by intro y hy; simp at hy) (fun h₁ hns₁ hsb₁ => ?_) hkind)
  dsimp only at hns₁ hsb₁ ⊢
  generalize hH2 : s₂.heap.push { cls := .type "list", dict := none, data := .seq ([] : List Value).toArray } = H2 at hns₁ hsb₁ ⊢
  have hC : H2.objs.size = s₂.heap.objs.size + 1 := by rw [← hH2, Heap.size_push]
  have hDC : s₂.heap.objs.size ≠ H2.objs.size := by rw [hC]; exact Nat.ne_of_lt (Nat.lt_succ_self _)
  have old : ∀ b o, s₂.heap.get? b = some o → h₁.get? b = some o := fun b o e => hsb₁.extBut b o (by have := Heap.lt_size e; rw [hC]; exact Nat.ne_of_lt (Nat.lt_succ_of_lt this)) (Heap.get?_push_of_some _ (hH2 ▸ Heap.get?_push_of_some _ e))
  have hacc : h₁.PlainList s₂.heap.objs.size #[] := ⟨_, hsb₁.extBut _ _ hDC (Heap.get?_push_of_some _ (hH2 ▸ Heap.get?_push_size _ rfl))⟩
  refine loop s₂.heap.objs.size H2.objs.size h₁ _ _ (RR (.ref s₂.heap.objs.size) H2.objs.size) (Nat.le_refl _) (by rw [hC]; exact Nat.le_succ _) hDC hacc hns₁ old fun h' tk m' ys hn hpl hP hk => ?_
  exact hRR wr _ _ h' tk m' ys (get_none_of_le (Nat.le_refl _)) (get_none_of_le (by rw [hC]; exact Nat.le_succ _)) hDC hn hpl (hPf ys hP) hk

theorem lcG {s : Shared} {elt target iter : PySem.Expr} {ifs : List PySem.Expr} {rest : List Comprehension} {scope : Scope} {cl : List (Str × Addr)} {pos : Pos} {Q : Value → Shared → Prop}
    (hclos : closureFor scope env = pure cl) (hcell : ∀ y ∈ scope.names, y.2 ≠ .cell) (hkind : scope.kind = .function)
    (hnames : ∀ y ∈ scope.names, y.2 = .local → scope.names.lookup y.1 = some .local)
    (h : wpAny (model PP w) A (eval iter env) (fun xv s₁ => wpAny (model PP w) A (pyIter xv) (LcG w A (.ListComp elt (⟨target, iter, ifs, 0⟩ :: rest) scope pos) scope cl env (FinLc Q)) E s₁) E s)
    (hs : ∀ x, foldedSetIterable iter env x = pure x := by intro _; rfl) :
    wpAny (model PP w) A (eval (.ListComp elt (⟨target, iter, ifs, 0⟩ :: rest) scope pos) env) Q E s := by
  rw [eval_ListComp]
  refine wpAny_comprehension_free (use := none) rfl hs hclos hkind hnames (wpAny_mono h (fun xv s₁ h₁ => wpAny_mono h₁ (fun it s₂ h₂ => ?_) fun _ _ e => e) fun _ _ e => e)
  refine lcG_run (RR := fun acc C => compPost (model PP w) A E none Q acc C) hcell hkind h₂ ?_
  intro wr D C h' tk m' ys hD hC hDC hn hpl hQ hk
  exact ⟨m', hn, fun h'' hs'' => hQ D h'' tk hD (hpl.extBut hs''.extBut hDC) fun b o hbf e => hs''.extBut b o (by rintro rfl; rw [hC] at e; cases e) (hk b o hbf e)⟩

theorem lcGAssign {s : Shared} {elt target iter : PySem.Expr} {ifs : List PySem.Expr} {rest : List Comprehension} {y : Str} {py : Pos} {scope : Scope} {cl : List (Str × Addr)} {pos spos : Pos} {Q : Flow → Shared → Prop}
    (hsw : swapsWith (.ListComp elt (⟨target, iter, ifs, 0⟩ :: rest) scope pos) (some (.Name y py)) spos.line env = pure true)
    (hclos : closureFor scope env = pure cl) (hcell : ∀ y ∈ scope.names, y.2 ≠ .cell) (hkind : scope.kind = .function)
    (hnames : ∀ y ∈ scope.names, y.2 = .local → scope.names.lookup y.1 = some .local)
    (hy : env.kindOf y = some .local) (hp : (env.scope.kind == .class || (env.scope.kind == .module && env.locals != env.globals)) = false)
    (h : wpAny (model PP w) A (eval iter env) (fun xv s₁ => wpAny (model PP w) A (pyIter xv) (LcG w A (.ListComp elt (⟨target, iter, ifs, 0⟩ :: rest) scope pos) scope cl env (FinLa env.locals y Q)) E s₁) E s)
    (hs : ∀ x, foldedSetIterable iter env x = pure x := by intro _; rfl) :
    wpAny (model PP w) A (exec (.Assign [.Name y py] (.ListComp elt (⟨target, iter, ifs, 0⟩ :: rest) scope pos) spos) env) Q E s := by
  rw [exec_Assign_Name_used _ _ _ _ hsw]
  refine wpAny_bind (wpAny_standAt (wpAny_bind ?_))
  show wpAny _ A (do let _ ← comprehension (.ListComp elt (⟨target, iter, ifs, 0⟩ :: rest) scope pos) scope env _ (newList []) false (eval iter env) (some (assign (.Name y py) env))) _ _ s
  refine wpAny_bind (wpAny_mono (wpAny_comprehension_free (use := some (assign (.Name y py) env)) (Q := fun _ s' => Q .next s') rfl hs hclos hkind hnames
    (wpAny_mono h (fun xv s₁ h₁ => wpAny_mono h₁ (fun it s₂ h₂ => ?_) fun _ _ e => e) fun _ _ e => e)) (fun _ s' hq => wpAny_pure (wpAny_pure hq)) fun _ _ e => e)
  refine lcG_run (RR := fun acc C => compPost (model PP w) A E (some (assign (.Name y py) env)) (fun _ s' => Q .next s') acc C) hcell hkind h₂ ?_
  intro wr D C h' tk m' ys hD hC hDC hnC hplD hQ hk
  obtain ⟨hLf, m, hn, hQ⟩ := hQ
  have hLC : env.locals ≠ C := by rintro rfl; obtain ⟨o, _, _, ho, _⟩ := hn; rw [hC] at ho; cases ho
  have hLD : env.locals ≠ D := by rintro rfl; obtain ⟨o, _, _, ho, _⟩ := hn; rw [hD] at ho; cases ho
  show wpAny _ A (assign (.Name y py) env (.ref D)) _ _ _
  refine wpAny_assign_Name (wpAny_storeName_local hy (hn.at' fun o e => hk _ o hLf e) (fun h₂ hn₂ hs₂ => ?_) hp)
  refine ⟨m', hnC.sameBut hs₂ (Ne.symm hLC), fun h₃ hs₃ => ?_⟩
  exact hQ D h₃ _ hD ((hplD.extBut hs₂.extBut (Ne.symm hLD)).extBut hs₃.extBut hDC) (hn₂.sameBut hs₃ hLC) fun b o hbL hbf e =>
    hs₃.extBut b o (by rintro rfl; rw [hC] at e; cases e) (hs₂.extBut b o hbL (hk b o hbf e))
end
end Mine
end
-- part B8
section
local macro_rules | `(tactic| walk_at "pad") => `(tactic| skip)
local macro_rules | `(tactic| walk_at "pad") => `(tactic| skip)
local macro_rules | `(tactic| walk_at "pad") => `(tactic| skip)
local macro_rules | `(tactic| walk_at "pad") => `(tactic| skip)
local macro_rules | `(tactic| walk_at "pad") => `(tactic| skip)
local macro_rules | `(tactic| walk_at "pad") => `(tactic| skip)
local macro_rules | `(tactic| walk_at "pad") => `(tactic| skip)
local macro_rules | `(tactic| walk_at "pad") => `(tactic| skip)
local macro_rules | `(tactic| walk_at "pad") => `(tactic| skip)
local macro_rules | `(tactic| walk_at "pad") => `(tactic| skip)
local macro_rules | `(tactic| walk_at "pad") => `(tactic| skip)
local macro_rules | `(tactic| walk_at "pad") => `(tactic| skip)
local macro_rules | `(tactic| walk_at "pad") => `(tactic| skip)
local macro_rules | `(tactic| walk_at "pad") => `(tactic| skip)
open PySem PySem.W PyProof.Rows
set_option Elab.async false
set_option maxRecDepth 100000
set_option maxHeartbeats 4000000
set_option linter.unusedVariables false
namespace Mine
section
variable {w : World} {A : Around} {E : Value → Shared → Prop} {s : Shared} {env : Env} {elt iter : PySem.Expr} {scope : Scope} {cl : List (Str × Addr)} {pos : Pos} {Fin : Shared → List Addr → List Value → Prop}

theorem plain_append {D : Addr} {ys : List Value} {v : Value} {Q : Value → Shared → Prop} (hp : s.heap.PlainList D ys.toArray) (hsz : ys.length ≤ sizeLine)
    (h : ∀ h', h'.PlainList D (ys ++ [v]).toArray → (∀ b o, b ≠ D → s.heap.get? b = some o → h'.get? b = some o) → Q .none { s with heap := h' }) :
    wpAny (model PP w) A (call (.builtin "list.append") [.ref D, v]) Q E s := by
  refine wpAny_list_append_plain (hsz := by rw [List.size_toArray]; exact hsz) hp fun h₅ hl₅ hs₅ => ?_
  exact h h₅ (by simpa using hl₅) hs₅.extBut

/-- [x for x in list if test] -/
theorem src_filter {x : Str} {px : Pos} {ct : PySem.Expr} {ax : Addr} {items : List Value} (pb : Value → Bool) (hh : A.handled = none) (hl : s.heap.IsList ax items.toArray) (hsz : items.length ≤ sizeLine)
    (hcok : ∀ C, okN x (compEnvC scope cl C env))
    (htest : ∀ C v s₃ m₃ E', v ∈ items → m₃ x = some v → Fr s.heap C s₃.heap m₃ → wpAny (model PP w) A (isTrue ct (compEnvC scope cl C env) (eval ct (compEnvC scope cl C env))) (fun ok s₄ => ok = pb v ∧ Keeps s₃ s₄) E' s₃)
    (helt : ∀ C v s₃ m₃ E', v ∈ items → m₃ x = some v → Fr s.heap C s₃.heap m₃ → wpAny (model PP w) A (eval elt (compEnvC scope cl C env)) (fun y s₄ => y = v ∧ Keeps s₃ s₄) E' s₃)
    (hF : ∀ (s₂ : Shared) (wr : List Addr), (∀ b o, s.heap.get? b = some o → s₂.heap.get? b = some o) → (∀ b o, s.heap.get? b = some o → b ∉ wr) → s₂ = { s with heap := s₂.heap, toks := s₂.toks } → Fin s₂ wr (items.filter pb)) :
    wpAny (model PP w) A (pyIter (.ref ax)) (LcG w A (.ListComp elt [⟨.Name x px, iter, [ct], 0⟩] scope pos) scope cl env Fin) E s := by
  have haI : @LT.lt Nat _ ax s.heap.objs.size := by obtain ⟨o, ho, _⟩ := hl; exact Heap.lt_size ho
  refine wpAny_pyIter_list hl ⟨[s.heap.objs.size], fun ys => ys = items.filter pb, ?_, ?_⟩
  · rintro ys rfl
    refine hF _ _ (fun b o e => Heap.get?_push_of_some _ e) (fun b o e hb => ?_) rfl
    simp only [List.mem_cons, List.not_mem_nil, or_false] at hb
    exact Nat.ne_of_lt (Heap.lt_size e) hb
  · intro D C h₃ tk₃ m₃ R hD hC hDC hpl hn hk hR
    rw [Heap.size_push] at hD hC
    have T := CT2.name (w := w) (A := A) (px := px) (x := x) (Walks.list (prog := PP) (w := w) (A := A) hh s.heap.objs.size ax (Nat.ne_of_lt haI) items.toArray)
    have hnf : ∀ a, s.heap.objs.size + 1 ≤ a → a ∉ [s.heap.objs.size, ax] := fun a ha hb => by
      simp only [List.mem_cons, List.not_mem_nil, or_false] at hb
      rcases hb with h | h
      · have h' : @Eq Nat a s.heap.objs.size := h
        omega
      · have h' : @Eq Nat a ax := h
        omega
    have hst : ∀ h : Heap, (∀ b o, (s.heap.push { cls := .type "list_iterator", data := .fields #[Value.ref ax, rawInt 0] }).get? b = some o → h.get? b = some o) → h.IsListIter s.heap.objs.size ax 0 ∧ h.IsList ax items.toArray := fun h hk =>
      ⟨⟨_, hk _ _ (Heap.get?_push_size _ rfl), rfl, rfl⟩, isList_up hl fun b o e => hk _ _ (Heap.get?_push_of_some _ e)⟩
    have loop : ∀ tk, codeAny (model PP w) A (.compLoop (.ListComp elt [⟨.Name x px, iter, [ct], 0⟩] scope pos) 0 (.ref s.heap.objs.size) (.ref D) (compEnvC scope cl C env)) R { s with heap := h₃, toks := tk } := fun tk => by
      refine level rule_test T (hcok C) rfl (hnf C hC) (hnf D hD) hDC (fun i ys _ => ys = (items.take i).filter pb) (hst h₃ hk) hn hpl (ys₀ := []) (by simp) ?_ ?_
      · intro i h₄ tk₄ m₂ m₄ ys K hi hBd hJ hsame hn₄ hpl₄ hk₄ hK
        obtain ⟨v, hv, hm⟩ := hBd
        have hv' : items[i]? = some v := by simpa using hv
        have hold : ∀ b o, s.heap.get? b = some o → h₄.get? b = some o := fun b o e => by
          have hlt : @LT.lt Nat _ b _ := Heap.lt_size e
          refine hk₄ b o (fun q => ?_) (fun q => ?_) (fun q => ?_) (hk b o (Heap.get?_push_of_some _ e))
          · have q' : @Eq Nat b C := q
            omega
          · have q' : @Eq Nat b D := q
            omega
          · simp only [List.mem_cons, List.not_mem_nil, or_false] at q
            exact Nat.ne_of_lt hlt q
        have F₄ : Fr s.heap C h₄ m₄ := ⟨hn₄, hold, Nat.le_of_succ_le hC⟩
        refine wpAny_mono (htest C v _ m₄ _ (List.mem_of_getElem? hv') hm F₄) (fun ok s₅ h₅ => ?_) fun _ _ e => e
        obtain ⟨rfl, h₅, tk₅, rfl, hk₅⟩ := h₅
        have htake : (items.take (i + 1)).filter pb = (items.take i).filter pb ++ (if pb v = true then [v] else []) := by
          rw [List.take_add_one, hv', List.filter_append]
          by_cases h : pb v = true <;> simp [h]
        by_cases hpb : pb v = true
        · rw [if_pos hpb]
          refine wpAny_mono (helt C v _ m₄ _ (List.mem_of_getElem? hv') hm (fr_up F₄ hk₅)) (fun y s₆ h₆ => ?_) fun _ _ e => e
          obtain ⟨rfl, h₆, tk₆, rfl, hk₆⟩ := h₆
          refine plain_append ((hpl₄.at fun o e => hk₅ _ o e).at fun o e => hk₆ _ o e) ?_ fun h₇ hpl₇ hk₇ => ?_
          · rw [hJ]
            exact Nat.le_trans (List.length_filter_le _ _) (Nat.le_trans (by rw [List.length_take]; exact Nat.min_le_right _ _) hsz)
          · refine hK _ ⟨h₇, _, m₄, ys ++ [y], rfl, ?_, hpl₇, by rw [hJ, htake, if_pos hpb], fun b o h1 h2 e => hk₇ b o h2 (hk₆ b o (hk₅ b o e))⟩
            exact ((hn₄.keeps hk₅).keeps hk₆).at' fun o e => hk₇ _ o (Ne.symm hDC) e
        · rw [if_neg hpb]
          refine hK _ ⟨h₅, _, m₄, ys, rfl, hn₄.keeps hk₅, hpl₄.at fun o e => hk₅ _ o e, by rw [hJ, htake, if_neg hpb, List.append_nil], fun b o h1 h2 e => hk₅ b o e⟩
      · intro h' tk' m' ys hn' hpl' hJ' hk'
        refine hR h' tk' m' ys hn' hpl' ?_ fun b o hw e => ?_
        · rw [hJ', List.size_toArray, List.take_length]
        · have hlt : @LT.lt Nat _ b _ := Heap.lt_size e
          rw [Heap.size_push] at hlt
          refine hk' b o (fun q => ?_) (fun q => ?_) hw (hk b o e)
          · have q' : @Eq Nat b C := q
            omega
          · have q' : @Eq Nat b D := q
            omega
    exact codeAny_compStart_list (loop _) (T.self 0 _ _ _ (hst h₃ hk) (loop _))
end
end Mine
end
-- part B9
section
open PySem PySem.W PyProof.Rows
set_option Elab.async false
set_option maxRecDepth 100000
set_option maxHeartbeats 4000000
set_option linter.unusedVariables false
namespace Mine
section
variable {w : World} {A : Around} {E : Value → Shared → Prop} {s : Shared} {env : Env} {h₀ : Heap} {m : Str → Option Value} {body : List Stmt} {Q : Flow → Shared → Prop} {news : List (Addr × Obj)} {l : Addr} {items : Array Value}

theorem store_cell {M : Model} {L c : Addr} {x : Str} {v : Value} {v₀ : Option Value} {Q : Unit → Shared → Prop} (F : Fr h₀ L s.heap m) (hc : env.cells.lookup x = some c) (hv : s.heap.IsCell c v₀) (hcL : c ≠ L) (hc0 : h₀.get? c = none)
    (h : ∀ h' o', Fr h₀ L h' m → h'.get? c = some o' → o'.data = .cell (some v) → (∀ b o, b ≠ c → s.heap.get? b = some o → h'.get? b = some o) → Q () { s with heap := h' })
    (hk : env.scope.kind = .function := by rfl) (hx : env.kindOf x = some .cell := by rfl) : wpAny M A (storeName env x v) Q E s := by
  refine wpAny_storeName_cell hk hx hc hv fun h' hv hs => ?_
  obtain ⟨o', ho', hd'⟩ := hv
  exact h h' o' ⟨F.ns.sameBut hs (Ne.symm hcL), fun b ob e => hs.extBut b ob (fun q => by rw [q, hc0] at e; cases e) (F.keep b ob e), F.above⟩ ho' hd' hs.extBut

theorem not_in_fp {h₀ h : Heap} {I a : Addr} {news : List (Addr × Obj)} {L : Addr} (N : News h₀ L h news) (hI : h.get? I = none) : ∀ p ∈ news, p.1 ≠ I := fun p hp q => by
  have := (N p hp).1
  rw [q, hI] at this; cases this

/-- for x in range(a, b) -/
theorem for_range {x : Str} {px : Pos} {r : Addr} {a b : Int} {t u v : Tok} (hh : A.handled = none) (F : Fr h₀ env.locals s.heap m) (N : News h₀ env.locals s.heap news)
    (hr : IsRange s.heap r a b 1 t u v) (hab : a ≤ b) (ha : -(2 ^ 62) ≤ a) (hb : b < 2 ^ 62)
    (J : Nat → (Str → Option Value) → List (Addr × Obj) → Prop) (h0 : J 0 m news)
    (step : ∀ i t m₁ news₁ h₁ tk₁ own wr, i < (b - a).toNat → J i m₁ news₁ → (∀ p ∈ news₁, p.1 ∉ wr) → (∀ p ∈ own, ∀ q ∈ news₁, p.1 ≠ q.1) → Fr h₀ env.locals h₁ m₁ → News h₀ env.locals h₁ (own ++ news₁) →
      wpAny (model PP w) A (assign (.Name x px) env (.int (a + i) t)) (fun _ s₃ => wpAny (model PP w) A (execs body env)
        (LoopStepV h₀ env.locals wr own (J (i + 1)) s (fun v s' => Q (.ret v) s') fun s' => Q .next s') E s₃) E { s with heap := h₁, toks := tk₁ })
    (hQ : ∀ h' tk m' news', Fr h₀ env.locals h' m' → News h₀ env.locals h' news' → J (b - a).toNat m' news' → Q .next { s with heap := h', toks := tk }) :
    wpAny (model PP w) A (pyIter (.ref r)) (fun it s₂ => TurnsAt PP w A h₀ env (.Name x px) body Q E it s₂) E s := by
  refine wpAny_pyIter_range hr (small_one ha (by omega) (by omega) hb) ?_
  have hn : Builtin.Range.rangeSize a b 1 = ((b - a).toNat : Int) := by rw [rangeSize_one]; split <;> omega
  have W := Walks.range (prog := PP) (w := w) (A := A) hh s.heap.objs.size a 1 (b - a).toNat
  have hn0 : h₀.get? s.heap.objs.size = none := fresh_none F
  have hni := not_in_fp (a := r) N (get_none_of_le (Nat.le_refl _))
  refine ⟨s.heap.objs.size, _, _, _, _, _, _, m, news, J, rfl, KTurns.ofWalks W (fun i v s Q E _ hq => ?_), ?_, ?_, ?_, ?_, F.push _, news_push N _, h0, ?_, ?_⟩
  · show wpAny _ _ (pure ()) _ _ _
    exact wpAny_pure hq
  · intro hm
    simp only [List.mem_cons, List.not_mem_nil, or_false] at hm
    exact Nat.ne_of_lt (lt_L F) hm
  · intro c hc
    simp only [List.mem_cons, List.not_mem_nil, or_false] at hc
    rw [hc]; exact hn0
  · intro p hp hc
    simp only [List.mem_cons, List.not_mem_nil, or_false] at hc
    exact hni p hp hc
  · rw [hn]
    have := Heap.get?_push_size s.heap (o := { cls := .type "range_iterator", data := .fields #[rawInt a, rawInt ((b - a).toNat : Int), rawInt 1] }) rfl
    simpa [IsRangeIter] using this
  · rintro i v m₁ news₁ h₁ tk₁ own hi ⟨t', rfl⟩ hJ hnw hof _ _ _ F₁ N₁
    have hown : ∀ p ∈ own, ∀ q ∈ news₁, p.1 ≠ q.1 := fun p hp' q hq e => by
      have h1 := hof p hp'
      have h2 := hnw q hq
      simp only [List.mem_cons, List.not_mem_nil, or_false] at h1 h2
      exact h2 (e ▸ h1)
    have := step i t' m₁ news₁ h₁ tk₁ own _ hi hJ hnw hown F₁ N₁
    rw [Int.mul_one]
    exact wpAny_mono this (fun _ _ x => wpAny_mono x (fun _ _ y => lsv y) fun _ _ y => y) fun _ _ y => y
  · intro h'' tk m' news' F' N' _ hJ
    exact hQ h'' tk m' news' F' N' hJ

/-- for x in list, of a list that no turn changes -/
theorem for_list_t {x : Str} {px : Pos} (hh : A.handled = none) (F : Fr h₀ env.locals s.heap m) (N : News h₀ env.locals s.heap news)
    (hl : s.heap.IsList l items) (hlL : l ≠ env.locals)
    (J : Nat → (Str → Option Value) → List (Addr × Obj) → Prop) (h0 : J 0 m news)
    (step : ∀ i v m₁ news₁ h₁ tk₁ own wr, items[i]? = some v → J i m₁ news₁ → (∀ p ∈ news₁, p.1 ∉ wr) → (∀ p ∈ own, p.1 = l ∨ ∀ q ∈ news₁, p.1 ≠ q.1) → Fr h₀ env.locals h₁ m₁ → News h₀ env.locals h₁ (own ++ news₁) →
      wpAny (model PP w) A (assign (.Name x px) env v) (fun _ s₃ => wpAny (model PP w) A (execs body env)
        (LoopStepV h₀ env.locals wr own (J (i + 1)) s (fun v s' => Q (.ret v) s') fun s' => Q .next s') E s₃) E { s with heap := h₁, toks := tk₁ })
    (hQ : ∀ h' tk m' news', Fr h₀ env.locals h' m' → News h₀ env.locals h' news' → J items.size m' news' → Q .next { s with heap := h', toks := tk }) :
    wpAny (model PP w) A (pyIter (.ref l)) (fun it s₂ => TurnsAt PP w A h₀ env (.Name x px) body Q E it s₂) E s := by
  have hlt : @LT.lt Nat _ l s.heap.objs.size := by obtain ⟨o, ho, _⟩ := hl; exact Heap.lt_size ho
  have W := Walks.list (prog := PP) (w := w) (A := A) hh s.heap.objs.size l (Nat.ne_of_lt hlt) items
  have hn0 : h₀.get? s.heap.objs.size = none := fresh_none F
  have hni := not_in_fp (a := s.heap.objs.size) N (get_none_of_le (Nat.le_refl _))
  refine wpAny_pyIter_list hl ⟨s.heap.objs.size, _, _, _, _, _, _, m, news, J, rfl, KTurns.ofWalks W (fun i v s Q E _ hq => ?_), ?_, ?_, ?_, ?_, F.push _, news_push N _, h0, ?_, ?_⟩
  · show wpAny _ _ (pure ()) _ _ _
    exact wpAny_pure hq
  · intro hm
    simp only [List.mem_cons, List.not_mem_nil, or_false] at hm
    rcases hm with q | q
    · exact Nat.ne_of_lt (lt_L F) q
    · exact hlL q.symm
  · intro c hc
    simp only [List.mem_cons, List.not_mem_nil, or_false] at hc
    rw [hc]; exact hn0
  · intro p hp hc
    simp only [List.mem_cons, List.not_mem_nil, or_false] at hc
    exact hni p hp hc
  · exact ⟨⟨_, Heap.get?_push_size _ rfl, rfl, rfl⟩, isList_up hl fun b o e => Heap.get?_push_of_some _ e⟩
  · rintro i v m₁ news₁ h₁ tk₁ own hi hv hJ hnw hof hog hin hst F₁ N₁
    have hown : ∀ p ∈ own, p.1 = l ∨ ∀ q ∈ news₁, p.1 ≠ q.1 := fun p hp' => by
      have h1 := hof p hp'
      simp only [List.mem_cons, List.not_mem_nil, or_false] at h1
      rcases h1 with h | h
      · right
        intro q hq e
        have h2 := hnw q hq
        simp only [List.mem_cons, List.not_mem_nil, or_false] at h2
        exact h2 (e ▸ h)
      · exact .inl h
    have := step i v m₁ news₁ h₁ tk₁ own _ hv hJ hnw hown F₁ N₁
    exact wpAny_mono this (fun _ _ x => wpAny_mono x (fun _ _ y => lsv y) fun _ _ y => y) fun _ _ y => y
  · intro h'' tk m' news' F' N' _ hJ
    exact hQ h'' tk m' news' F' N' hJ
end
end Mine
end
-- part F9
section
local macro_rules | `(tactic| walk_at "pad") => `(tactic| skip)
local macro_rules | `(tactic| walk_at "pad") => `(tactic| skip)
local macro_rules | `(tactic| walk_at "pad") => `(tactic| skip)
local macro_rules | `(tactic| walk_at "pad") => `(tactic| skip)
local macro_rules | `(tactic| walk_at "pad") => `(tactic| skip)
local macro_rules | `(tactic| walk_at "pad") => `(tactic| skip)
local macro_rules | `(tactic| walk_at "pad") => `(tactic| skip)
local macro_rules | `(tactic| walk_at "pad") => `(tactic| skip)
local macro_rules | `(tactic| walk_at "pad") => `(tactic| skip)
local macro_rules | `(tactic| walk_at "pad") => `(tactic| skip)
local macro_rules | `(tactic| walk_at "pad") => `(tactic| skip)
local macro_rules | `(tactic| walk_at "pad") => `(tactic| skip)
local macro_rules | `(tactic| walk_at "pad") => `(tactic| skip)
local macro_rules | `(tactic| walk_at "pad") => `(tactic| skip)
open PySem PySem.W PyProof.Rows
set_option Elab.async false
set_option maxRecDepth 100000
set_option maxHeartbeats 4000000
set_option pp.deepTerms false
set_option pp.deepTerms.threshold 5
set_option pp.maxSteps 20000
set_option linter.unusedSimpArgs false
set_option linter.unusedVariables false
namespace Mine
local macro_rules | `(tactic| walk_at "eval Name") => `(tactic| first
  | refine nmL (by assumption) (by first | rfl | assumption) ?_
  | refine nmC (by assumption) (by rfl) ?_
  | refine nmG (by assumption) (by assumption) (by first | exact gl_twin_re_1 _ | exact gl_twin_re_2 _ | exact gl_CRLF _ | exact gl_quotedata _ | exact gl_fix_eols _ | exact gl_parse_varint _ | exact gl_law_numbers _ | exact gl_law_word _ | exact gl_law_spelled _ | exact gl_law_mails _ | exact gl_law_sent _ | exact gl_law_octets _ | exact gl_law_value _ | exact gl_law_primes _) ?_
  | refine nmB (by assumption) (by assumption) (by first | exact gb_next _ | exact gb_enumerate _ | exact gb_chr _ | exact gb_ord _ | exact gb_len _ | exact gb_sum _ | exact gb_range _ | exact gb_iter _ | exact gb_StopIteration _) (by boot_fast) ?_)
local macro_rules | `(tactic| walk_at "storeName") => `(tactic| (refine storeX_L (by assumption) (by assumption) ?_; intro h' F' N'; dsimp only at F' N' ⊢))

local macro_rules | `(tactic| walk_at "loadName") => `(tactic| refine wpAny_loadName_local rfl rfl (Fr.ns (by assumption)) (by first | rfl | assumption) ?_)
local macro_rules | `(tactic| walk_at "callWith ref") => `(tactic| refine callWith_K (Gd.X (by assumption)) (by kernel_rfl) ?_)
local macro_rules | `(tactic| walk_at "And") => `(tactic| ((with_reducible show Frag.In _ _ ∧ _); refine ⟨Frag.In.keeps (Gd.X (by assumption)) (Fr.keep (by assumption)), ?_⟩; (try dsimp only [List.nil_append, List.cons_append])))
local macro_rules | `(tactic| walk_at "eval ListComp") => `(tactic| refine lc (by with_unfolding_all first | exact closureFor_none (by decide) | rfl) (by decide) (by with_unfolding_all rfl) (by decide) ?_ (by intro _; with_unfolding_all rfl))


def prStep (size : Nat) (ps : List Nat) (q : Nat) : List Nat := if size % q = 0 ∧ ps.filter (fun p => q % p == 0) = [] then ps ++ [q] else ps
def primesTo (size : Nat) : Nat → List Nat
  | 0 => []
  | k + 1 => prStep size (primesTo size k) (2 + k)
def primesOf (size : Nat) : List Nat := primesTo size (size - 1)
def natInts (l : List Nat) : List Int := List.map (fun (n : Nat) => (n : Int)) l

theorem News.swap2 {h₀ h : Heap} {L : Addr} {p q : Addr × Obj} (N : News h₀ L h [p, q]) : News h₀ L h [q, p] := fun x hx => N x (by
  rcases List.mem_cons.mp hx with rfl | hx
  · exact .tail _ (.head _)
  · rcases List.mem_singleton.mp hx with rfl; exact .head _)
theorem prStep_ge {n : Nat} {ps : List Nat} {q : Nat} (h : ∀ p ∈ ps, 2 ≤ p) (hq : 2 ≤ q) : ∀ p ∈ prStep n ps q, 2 ≤ p := by
  unfold prStep
  split
  · intro p hp
    rcases List.mem_append.mp hp with hp | hp
    · exact h p hp
    · rw [List.mem_singleton.mp hp]; exact hq
  · exact h
theorem primesTo_ge {n : Nat} : ∀ {i p : Nat}, p ∈ primesTo n i → 2 ≤ p
  | i + 1, p, h => prStep_ge (fun p hp => primesTo_ge hp) (by omega) p h
theorem ints_mem {l : List Nat} {items : List Value} (h : IntsAre items (natInts l)) {v : Value} (hv : v ∈ items) : ∃ (p : Nat) (t : Tok), v = .int (p : Int) t ∧ p ∈ l := by
  obtain ⟨i, hi⟩ := List.mem_iff_getElem?.mp hv
  obtain ⟨n, t, rfl, hn⟩ := IntsAre.at h i v hi
  rw [natInts, List.getElem?_map] at hn
  obtain ⟨p, hp, rfl⟩ := Option.map_eq_some_iff.mp hn
  exact ⟨p, t, rfl, List.mem_of_getElem? hp⟩
def divides (q : Int) : Value → Bool
  | .int p _ => decide (q.fmod p = 0)
  | _ => false
theorem prStep_len {n : Nat} {ps : List Nat} {q : Nat} : (prStep n ps q).length ≤ ps.length + 1 := by
  unfold prStep
  split
  · simp
  · omega
theorem primesTo_len (n : Nat) : ∀ i, (primesTo n i).length ≤ i
  | 0 => Nat.le_refl _
  | i + 1 => Nat.le_trans prStep_len (Nat.succ_le_succ (primesTo_len n i))
theorem ints_filter {q : Nat} : ∀ {l : List Nat} {items : List Value}, IntsAre items (natInts l) → IntsAre (items.filter (divides (2 + (q : Int)))) (natInts (l.filter fun p => (2 + q) % p == 0))
  | [], items, h => by
    have := IntsAre.length h
    simp [natInts] at this
    subst this
    exact .nil
  | p :: l, items, h => by
    generalize e : natInts (p :: l) = k at h
    cases h with
    | nil => cases e
    | cons n t h =>
    rw [natInts, List.map_cons] at e
    cases e
    have ih := ints_filter (q := q) (l := l) h
    have e : divides (2 + (q : Int)) (.int (p : Int) t) = ((2 + q) % p == 0) := by
      rw [divides, Int.fmod_eq_emod_of_nonneg _ (by omega), show ((2 : Int) + (q : Int)) % (p : Int) = (((2 + q) % p : Nat) : Int) by simp]
      generalize (2 + q) % p = k
      rw [Bool.eq_iff_iff, decide_eq_true_eq, beq_iff_eq]
      exact ⟨fun h => Int.ofNat.inj h, fun h => congrArg Int.ofNat h⟩
    rw [List.filter_cons, List.filter_cons, e]
    by_cases h0 : ((2 + q) % p == 0) = true
    · rw [if_pos h0, if_pos h0]
      exact .cons _ _ ih
    · rw [if_neg h0, if_neg h0]
      exact ih
theorem fmod_nat {n i : Nat} (h : (n : Int).fmod (2 + (i : Int)) = 0) : n % (2 + i) = 0 := by
  rw [Int.fmod_eq_emod_of_nonneg _ (by omega), show ((n : Int) % (2 + (i : Int))) = ((n % (2 + i) : Nat) : Int) by simp] at h
  exact Int.ofNat.inj h
theorem fmod_nat' {n i : Nat} (h : n % (2 + i) = 0) : (n : Int).fmod (2 + (i : Int)) = 0 := by
  rw [Int.fmod_eq_emod_of_nonneg _ (by omega), show ((n : Int) % (2 + (i : Int))) = ((n % (2 + i) : Nat) : Int) by simp, h]; rfl
theorem ints_snoc {n : Int} {t : Tok} : ∀ {vs : List Value} {ns : List Int}, IntsAre vs ns → IntsAre (vs ++ [.int n t]) (ns ++ [n])
  | _, _, .nil => .cons _ _ .nil
  | _, _, .cons _ _ h => .cons _ _ (ints_snoc h)
theorem primes_spec {w : World} {A : Around} {E : Value → Shared → Prop} {s : Shared} {n : Nat} {t : Tok} (G : Gd w s.heap) (hA : A.depth < recursionLimit) (hh : A.handled = none) (hu : A.units + 100 < cLine)
    (h1 : 1 ≤ n) (hl : n ≤ 100) :
    wpAny (model PP w) A (call (.ref 108) [.int (n : Int) t]) (RetL (fun items => IntsAre items (natInts (primesOf n))) s) E s := by
  refine enterC G hA (by rfl) (by rfl) (binds := [("size", .int (n : Int) t)]) (by rfl) (by intro n x hx; rcases List.mem_singleton.mp hx with rfl; exact .inl rfl) (by decide) rfl rfl rfl fun h₁ tk cells F N Y => ?_
  obtain ⟨o, rfl, hd⟩ := CellsAre.one Y
  clear Y
  have NN := N
  repeat' walk1
  rename Fr _ _ _ _ => F
  rename News _ _ _ _ => N
  have hac : h₁.objs.size ≠ s.heap.objs.size + 1 := fun q => by
    have := Heap.lt_size (NN _ (.head _)).1
    exact absurd this (by rw [q]; exact Nat.lt_irrefl _)
  generalize ha : h₁.objs.size = a at *
  refine For_turns F ?_
  repeat' walk1
  rename Fr _ _ _ _ => F
  rename News _ _ _ _ => N
  have N := News.swap2 N
  refine for_range hh F N (by assumption) (by omega) (by omega) (by omega) (fun i m news => ∃ oc k items v0, news = [(s.heap.objs.size + 1, oc), (a, { cls := .type "list", data := .seq (List.toArray items) k })] ∧ oc.data = .cell v0 ∧ m "primes" = some (.ref a) ∧ m "size" = some (.int (n : Int) t) ∧ IntsAre items (natInts (primesTo n i))) ?_ ?_ ?_
  · exact ⟨o, _, [], _, rfl, hd, rfl, rfl, .nil⟩
  · rintro i ti m₁ news₁ h₃ tk₃ own wr hi ⟨oc, k, items, v0, rfl, hocd, hmp, hms, hit⟩ hw hown F₁ N₁
    dsimp only at F₁ N₁ ⊢
    have hc := N₁ _ (List.mem_append_right _ (.head _))
    refine wpAny_assign_Name (store_cell F₁ (by rfl) ⟨oc, hc.1, hocd⟩ hc.2.1 hc.2.2 fun h₄ o₄ F₄ ho₄ hd₄ hk₄ => ?_)
    have N₄ : News s.heap s.heap.objs.size h₄ (own ++ [(s.heap.objs.size + 1, o₄), (a, { cls := .type "list", data := .seq (List.toArray items) k })]) := fun p hp => by
      rcases List.mem_append.mp hp with hp | hp
      · exact ⟨hk₄ _ _ (hown p hp _ (.head _)) (N₁ p (List.mem_append_left _ hp)).1, (N₁ p (List.mem_append_left _ hp)).2⟩
      · rcases List.mem_cons.mp hp with rfl | hp
        · exact ⟨ho₄, hc.2⟩
        · rcases List.mem_singleton.mp hp with rfl
          have z := N₁ _ (List.mem_append_right _ (.tail _ (.head _)))
          exact ⟨hk₄ _ _ hac z.1, z.2⟩
    have hq : h₄.IsCell (s.heap.objs.size + 1) (some (.int (2 + (i : Int)) ti)) := ⟨o₄, ho₄, hd₄⟩
    have hla : h₄.IsList a items.toArray := ⟨_, (N₄ _ (List.mem_append_right _ (.tail _ (.head _)))).1, rfl, k, rfl⟩
    clear F N
    iterate 12 walk1
    · iterate 2 walk1
      refine lcG (by with_unfolding_all rfl) (by decide) (by with_unfolding_all rfl) (by decide) ?_ (by intro _; with_unfolding_all rfl)
      repeat' walk1
      refine src_filter (divides (2 + (i : Int))) hh hla ?_ (fun C => ⟨rfl, rfl⟩) ?_ ?_ ?_
      · have := IntsAre.length hit
        have h2 := primesTo_len n i
        rw [natInts, List.length_map] at this
        rw [sizeLine_eq]; omega
      · intro C v s₅ m₅ E' hv hm F₅
        obtain ⟨p, tp, rfl, hp⟩ := ints_mem hit hv
        have hp2 : 2 ≤ p := primesTo_ge hp
        have hq₅ := hq.keeps F₅.keep
        dsimp only at F₅ hq₅
        repeat' walk1
        exact keeps_tk _ _
      · intro C v s₅ m₅ E' hv hm F₅
        refine nmL F₅ hm ⟨rfl, Keeps.refl _⟩
      · intro s₅ wr₅ up hw₅ e
        refine fin_lc F₄ N₄ up hw₅ e fun D kD h' tk' F₅ N₅ => ?_
        repeat' walk1
        rename Fr _ _ _ _ => F₆
        rename News _ _ _ _ => N₆
        have hfil : IntsAre (items.filter (divides (2 + (i : Int)))) (natInts ((primesTo n i).filter fun p => (2 + i) % p == 0)) := ints_filter hit
        refine eq_intsK (News.isList N₆ (.tail _ (.head _))) hfil (News.isList N₆ (.head _)) (ns := _) (ms := []) .nil (by show A.units + 3 + 64 < cLine; omega) ?_
        have hdec : decide (natInts ((primesTo n i).filter fun p => (2 + i) % p == 0) = []) = decide ((primesTo n i).filter (fun p => (2 + i) % p == 0) = []) := by simp [natInts]
        rw [hdec]
        repeat' walk1
        · rename (List.filter _ _ = []) => hfl
          rename (Int.fmod _ _ = 0) => hmod
          refine getMethod_append_N N₆ (.tail _ (.tail _ (List.mem_append_right _ (.tail _ (.head _))))) ?_
          have hq₆ : (_ : Heap).IsCell (s.heap.objs.size + 1) (some (.int (2 + (i : Int)) ti)) := ⟨o₄, (N₆ _ (.tail _ (.tail _ (List.mem_append_right _ (.head _))))).1, hd₄⟩
          (try dsimp only at hq₆)
          iterate 4 walk1
          refine append_at (N₆ _ (.tail _ (.tail _ (List.mem_append_right _ (.tail _ (.head _)))))).1 (fun h₇ hs₇ ha₇ => ?_) (by
            have := IntsAre.length hit
            have h2 := primesTo_len n i
            rw [natInts, List.length_map] at this
            rw [List.size_toArray, sizeLine_eq]; omega)
          repeat' walk1
          have haL := (N₆ _ (.tail _ (.tail _ (List.mem_append_right _ (.tail _ (.head _)))))).2
          have N₇ : News s.heap s.heap.objs.size h₇ (own ++ [(s.heap.objs.size + 1, o₄), (a, { cls := .type "list", data := .seq (List.toArray (items ++ [.int (2 + (i : Int)) ti])) (k + 1) })]) := fun p hp => by
            rcases List.mem_append.mp hp with hp | hp
            · have z := N₆ p (.tail _ (.tail _ (List.mem_append_left _ hp)))
              exact ⟨hs₇.extBut _ _ (hown p hp _ (.tail _ (.head _))) z.1, z.2⟩
            · rcases List.mem_cons.mp hp with rfl | hp
              · have z := N₆ _ (.tail _ (.tail _ (List.mem_append_right _ (.head _))))
                exact ⟨hs₇.extBut _ _ (Ne.symm hac) z.1, z.2⟩
              · rcases List.mem_singleton.mp hp with rfl
                exact ⟨by simpa using ha₇, haL⟩
          refine LoopStepU.intro (F₆.change hs₇ haL.1 haL.2) N₇ ?_ ⟨o₄, _, _, _, rfl, hd₄, hmp, hms, ?_⟩
          · intro p hp
            rcases List.mem_cons.mp hp with rfl | hp
            · exact hw (_, oc) (.head _)
            · rcases List.mem_singleton.mp hp with rfl
              exact hw (a, { cls := .type "list", data := .seq (List.toArray items) k }) (.tail _ (.head _))
          · have hst : primesTo n (i + 1) = primesTo n i ++ [2 + i] := by
              rw [primesTo, prStep, if_pos ⟨fmod_nat hmod, hfl⟩]
            rw [hst, natInts, List.map_append]
            exact ints_snoc hit
        · rename (List.filter _ _ ≠ []) => hfl
          have hst : primesTo n (i + 1) = primesTo n i := by
            rw [primesTo, prStep, if_neg fun h => hfl h.2]
          refine LoopStepU.intro F₆ (fun p hp => N₆ p (.tail _ (.tail _ hp))) ?_ ⟨o₄, _, _, _, rfl, hd₄, hmp, hms, hst ▸ hit⟩
          intro p hp
          rcases List.mem_cons.mp hp with rfl | hp
          · exact hw (_, oc) (.head _)
          · exact hw _ (.tail _ hp)
    · rename (Int.fmod _ _ ≠ 0) => hmod
      repeat' walk1
      have hst : primesTo n (i + 1) = primesTo n i := by
        rw [primesTo, prStep, if_neg fun h => hmod (fmod_nat' h.1)]
      refine LoopStepU.intro F₄ N₄ ?_ ⟨o₄, _, _, _, rfl, hd₄, hmp, hms, hst ▸ hit⟩
      intro p hp
      rcases List.mem_cons.mp hp with rfl | hp
      · exact hw (_, oc) (.head _)
      · exact hw _ (.tail _ hp)
  · rintro h' tk' m' news' F' N' ⟨oc, k, items, v0, rfl, hocd, hmp, hms, hit⟩
    dsimp only at F' N' ⊢
    repeat' walk1
    refine retL_of F' N' (.tail _ (.head _)) ?_
    have e : ((n : Int) + 1 - 2).toNat = n - 1 := by omega
    rw [e] at hit
    exact hit
end Mine
end
-- part B10
section
open PySem PySem.W PyProof.Rows
set_option Elab.async false
set_option maxRecDepth 100000
set_option maxHeartbeats 4000000
set_option linter.unusedVariables false
namespace Mine
section
variable {w : World} {A : Around} {E : Value → Shared → Prop} {s : Shared} {name qual : Str} {params : Arguments} {body : List Stmt} {scope : Scope} {dV kV doc pm cdv ct oc : Value} {an od : Option Addr} {osl : Array (Option Value)} {f : Addr} {args : List Value} {binds : List (Str × Value)} {Q : Value → Shared → Prop}
/-- a call, over a smaller ground -/
theorem enterH {g : Heap} (G : Gd w g) (hg : ∀ b o, g.get? b = some o → s.heap.get? b = some o) (hgs : g.objs.size ≤ s.heap.objs.size) (hroom : A.depth < recursionLimit)
    (ho : (KK w).lookup f = some ⟨oc, od, .func (fnX name qual params body scope [] dV kV doc pm an cdv ct), osl⟩) (hcd : codeIn (KK w) cdv qual = true)
    (hbind : bindArgs (fnX name qual params body scope [] dV kV doc pm an cdv ct) ⟨args, []⟩ = pure binds) (hloc : ∀ y ∈ binds, scope.names.lookup y.1 = some .local)
    (hcell : ∀ x ∈ scope.names, x.2 ≠ .cell) (hco : scope.isCoroutine = false) (hgen : scope.isGenerator = false) (hk : scope.kind = .function)
    (h : ∀ h₁, Fr g s.heap.objs.size h₁ (fun y => binds.reverse.lookup y) → (∀ b o, s.heap.get? b = some o → h₁.get? b = some o) →
      wpAny (model PP w) (A.deeper (envX qual scope s.heap.objs.size f cdv [])) (execs body (envX qual scope s.heap.objs.size f cdv []))
        (fun fl s' => Q (match fl with | .ret v => v | _ => .none) s') (fun _ _ => False) { s with heap := h₁, toks := s.toks + binds.length }) :
    wpAny (model PP w) A (call (.ref f) args) Q E s := by
  have X := G.X.keeps hg
  refine wpAny_call (codeAny_call_def (fd := fnX name qual params body scope [] dV kV doc pm an cdv ct) (body := body) (binds := binds) hroom (X _ _ ho) rfl (G.lim.keeps hg) (codeRec_of X hcd) rfl (BindsTo.of_eq hbind) hcell hloc (fun h₁ hns hk₁ => ?_) hco hgen hk)
  exact wpAny_mono (h h₁ ⟨hns, fun b o e => hk₁ b o (hg b o e), hgs⟩ hk₁) (fun _ _ x => x) (fun _ _ x => x.elim)
end

section
variable {w : World} {A : Around} {E : Value → Shared → Prop} {s : Shared} {it l : Addr} {i : Nat} {items : Array Value}
theorem entry_next : entryFor table "next" = some Builtin.«next» := entryFor_of_fast (by kernel_rfl)
theorem args_next (a : Value) : argsOk "next" ⟨[a], []⟩ := by unfold argsOk; kernel_rfl

/-- next(iterator of a list), an item there -/
theorem next_item {x : Value} {Q : Value → Shared → Prop} (hit : s.heap.IsListIter it l i) (hl : s.heap.IsList l items) (hx : items[i]? = some x)
    (h : ∀ h', h'.IsListIter it l (i + 1) → Heap.SameBut it s.heap h' → Q x { s with heap := h' }) :
    wpAny (model PP w) A (call (.builtin "next") [.ref it]) Q E s := by
  obtain ⟨o, ho, hc, hd⟩ := id hit
  obtain ⟨ol, hol, _, nl, hdl⟩ := hl
  refine Calls.call_function_entry (by decide +kernel) (by decide +kernel) entry_next (args_next _) ?_
  unfold Builtin.«next»
  refine wpAny_bind (m := someArgs "next" 1 2 _) (wpAny_of_eq (a := [Value.ref it]) (by first | rfl | kernel_rfl!) ?_)
  dsimp only
  refine wpAny_bind (wpAny_specialOf (name := Str.ofString "__next__") hit.typeIs slot_listiter_next.lookup ?_)
  refine wpAny_ite_split (fun hab => absurd hab (by decide)) (fun _ => ?_)
  refine wpAny_bind (wpAny_callSpecial?_slot (name := Str.ofString "__next__") hit.typeIs slot_listiter_next
    (wpAny_call_entry slot_listiter_next hit.typeIs entry_listiter_next ?_ (args_listiter_next _)))
  show wpAny _ _ (field (.ref it) 0 >>= _) _ _ s
  refine wpAny_bind (wpAny_field ho hd (x := .ref l) rfl ?_)
  show wpAny _ _ (if (Value.ref l == Value.none) = true then _ else _) _ _ s
  rw [if_neg (show ¬ ((Value.ref l == Value.none) = true) from Bool.false_ne_true)]
  show wpAny _ _ (field (.ref it) 1 >>= _) _ _ s
  refine wpAny_bind (wpAny_field ho hd (x := .int i 0) rfl ?_)
  show wpAny _ _ (seqItems? (.ref l) >>= _) _ _ s
  refine wpAny_bind (wpAny_seqItems hol hdl ?_)
  simp only [Int.toNat_natCast, hx]
  refine wpAny_bind (wpAny_setField ho hd (by simp) (wpAny_pure ⟨x, rfl, wpAny_pure ⟨_, rfl, h _ ?_ (Heap.SameBut.update ..)⟩⟩))
  exact ⟨_, Heap.get?_update_self _ ho (Obj.isFreed_of_fields (Obj.data_mapFields hd _)), (Obj.cls_mapFields ..).trans hc, by
    rw [Obj.data_mapFields hd]; simp [rawInt]⟩

/-- next(iterator of a list), none left -/
theorem next_end {Q : Value → Shared → Prop} (hh : A.handled = none) (hit : s.heap.IsListIter it l i) (hl : s.heap.IsList l items) (hx : items[i]? = none)
    (h : ∀ h₁ h' e, Heap.SameBut it s.heap h₁ → (∃ o, h₁.get? it = some o ∧ o.cls = .type "list_iterator" ∧ ∃ vs, o.data = .fields vs) → Heap.MadeExcOf h₁ h' e (.type "StopIteration") [] → E (.ref e) { s with heap := h' }) :
    wpAny (model PP w) A (call (.builtin "next") [.ref it]) Q E s := by
  obtain ⟨o, ho, hc, hd⟩ := id hit
  obtain ⟨ol, hol, _, nl, hdl⟩ := hl
  refine Calls.call_function_entry (by decide +kernel) (by decide +kernel) entry_next (args_next _) ?_
  unfold Builtin.«next»
  refine wpAny_bind (m := someArgs "next" 1 2 _) (wpAny_of_eq (a := [Value.ref it]) (by first | rfl | kernel_rfl!) ?_)
  dsimp only
  refine wpAny_bind (wpAny_specialOf (name := Str.ofString "__next__") hit.typeIs slot_listiter_next.lookup ?_)
  refine wpAny_ite_split (fun hab => absurd hab (by decide)) (fun _ => ?_)
  refine wpAny_bind (wpAny_callSpecial?_slot (name := Str.ofString "__next__") hit.typeIs slot_listiter_next
    (wpAny_call_entry slot_listiter_next hit.typeIs entry_listiter_next ?_ (args_listiter_next _)))
  show wpAny _ _ (field (.ref it) 0 >>= _) _ _ s
  refine wpAny_bind (wpAny_field ho hd (x := .ref l) rfl ?_)
  show wpAny _ _ (if (Value.ref l == Value.none) = true then _ else _) _ _ s
  rw [if_neg (show ¬ ((Value.ref l == Value.none) = true) from Bool.false_ne_true)]
  show wpAny _ _ (field (.ref it) 1 >>= _) _ _ s
  refine wpAny_bind (wpAny_field ho hd (x := .int i 0) rfl ?_)
  show wpAny _ _ (seqItems? (.ref l) >>= _) _ _ s
  refine wpAny_bind (wpAny_seqItems hol hdl ?_)
  simp only [Int.toNat_natCast, hx]
  refine wpAny_bind (wpAny_rule (wpAny_bind (wpAny_setField ho hd (by simp) ?_)))
  show wpAny _ _ (newExc (.type "StopIteration") [] >>= _) _ _ _
  refine wpAny_bind ?_
  simp only [newExc, newTuple]
  refine wpAny_bind (wpAny_newObj_type ?_ (by size_fits))
  refine wpAny_bind (m := firstArgMember _ _) (wpAny_of_eq (a := Value.none) (by first | rfl | (simp only [firstArgMember]; rfl)) ?_)
  refine wpAny_newObj_type ?_ (by size_fits)
  simp only [raiseNew]
  refine wpAny_bind (wpAny_handled ?_)
  rw [show A.in1.handled = none from hh]
  refine wpAny_bind (wpAny_pure (wpAny_throw ?_))
  refine h _ _ _ (Heap.SameBut.update ..) ⟨_, Heap.get?_update_self _ ho (Obj.isFreed_of_fields (Obj.data_mapFields hd _)), (Obj.cls_mapFields ..).trans hc, _, Obj.data_mapFields hd _⟩ ⟨fun b ob e => Heap.get?_push_of_some _ (Heap.get?_push_of_some _ e), Heap.get?_none_of_le ?_, _, ?_, Heap.get?_none_of_le (Nat.le_refl _), ?_⟩
  · rw [Heap.size_push]; exact Nat.le_succ _
  · exact Heap.get?_push_size _ rfl
  · exact Heap.get?_push_of_some _ (Heap.get?_push_size _ rfl)
end
end Mine
end
-- part M3
section
local macro_rules | `(tactic| walk_at "pad") => `(tactic| skip)
local macro_rules | `(tactic| walk_at "pad") => `(tactic| skip)
local macro_rules | `(tactic| walk_at "pad") => `(tactic| skip)
local macro_rules | `(tactic| walk_at "pad") => `(tactic| skip)
local macro_rules | `(tactic| walk_at "pad") => `(tactic| skip)
local macro_rules | `(tactic| walk_at "pad") => `(tactic| skip)
local macro_rules | `(tactic| walk_at "pad") => `(tactic| skip)
local macro_rules | `(tactic| walk_at "pad") => `(tactic| skip)
local macro_rules | `(tactic| walk_at "pad") => `(tactic| skip)
local macro_rules | `(tactic| walk_at "pad") => `(tactic| skip)
local macro_rules | `(tactic| walk_at "pad") => `(tactic| skip)
local macro_rules | `(tactic| walk_at "pad") => `(tactic| skip)
local macro_rules | `(tactic| walk_at "pad") => `(tactic| skip)
local macro_rules | `(tactic| walk_at "pad") => `(tactic| skip)
open PySem PySem.W PyProof.Rows
/-! Bits of an octet. -/
namespace Mine
def octN (n i c : Nat) : Nat := c + i % 2 * 128 + (if i + 1 < n then 64 else 0)
theorem octAt_eq (n i c : Nat) : octAt n i c = (octN n i c : Int) := by
  unfold octAt octN
  split <;> simp
theorem bitAnd_nat (x y : Nat) : Builtin.bitAnd (x : Int) (y : Int) = ((x &&& y : Nat) : Int) := by
  unfold Builtin.bitAnd
  have h1 : decide ((0 : Int) ≤ (x : Int)) = true := by simp
  have h2 : decide ((0 : Int) ≤ (y : Int)) = true := by simp
  rw [h1, h2]
  simp
theorem bitOr_nat (x y : Nat) : Builtin.bitOr (x : Int) (y : Int) = ((x ||| y : Nat) : Int) := by
  unfold Builtin.bitOr Builtin.bitAnd
  have h1 : decide ((0 : Int) ≤ Builtin.bitNot (x : Int)) = false := by simp [Builtin.bitNot]; omega
  have h2 : decide ((0 : Int) ≤ Builtin.bitNot (y : Int)) = false := by simp [Builtin.bitNot]; omega
  rw [h1, h2]
  have e1 : (Builtin.bitNot (Builtin.bitNot (x : Int))).toNat = x := by simp [Builtin.bitNot]; omega
  have e2 : (Builtin.bitNot (Builtin.bitNot (y : Int))).toNat = y := by simp [Builtin.bitNot]; omega
  show Builtin.bitNot (Builtin.bitNot _) = _
  rw [e1, e2]
  simp [Builtin.bitNot]; omega
theorem and_all : ∀ c < 64, ∀ k < 2, ((c + k * 128 + 64) &&& 63 = c ∧ (c + k * 128) &&& 63 = c) ∧ ((c + k * 128 + 64) &&& 64 = 64 ∧ (c + k * 128) &&& 64 = 0) := by decide +kernel
theorem and63 {n i c : Nat} (h : c < 64) : Builtin.bitAnd (octAt n i c) 63 = (c : Int) := by
  rw [octAt_eq]
  show Builtin.bitAnd _ ((63 : Nat) : Int) = _
  rw [bitAnd_nat]
  have := (and_all c h (i % 2) (Nat.mod_lt _ (by decide))).1
  unfold octN
  split
  · rw [this.1]
  · rw [Nat.add_zero, this.2]
theorem and64 {n i c : Nat} (h : c < 64) : (Builtin.bitAnd (octAt n i c) 64 != 0) = decide (i + 1 < n) := by
  rw [octAt_eq]
  show (Builtin.bitAnd _ ((64 : Nat) : Int) != 0) = _
  rw [bitAnd_nat]
  have := (and_all c h (i % 2) (Nat.mod_lt _ (by decide))).2
  unfold octN
  split
  · rename_i h1; rw [this.1]; simp [h1]
  · rename_i h1; rw [Nat.add_zero, this.2]; simp [h1]
theorem or6 {v c : Nat} (h : c < 64) : Builtin.bitOr ((v : Int) * 64) (c : Int) = ((v * 64 + c : Nat) : Int) := by
  rw [show ((v : Int) * 64) = ((v * 64 : Nat) : Int) by simp, bitOr_nat]
  congr 1
  have := Nat.two_pow_add_eq_or_of_lt (i := 6) (b := c) (by simpa using h) v
  rw [show (2 : Nat) ^ 6 = 64 from rfl] at this
  rw [Nat.mul_comm v 64, this]
theorem val_take {l : List Nat} {k c : Nat} (h : l[k]? = some c) : val (l.take (k + 1)) = val (l.take k) * 64 + c := by
  rw [List.take_add_one, h, val_append]
  simp [val]
theorem val_lt : ∀ {l : List Nat}, (∀ c ∈ l, c < 64) → val l < 64 ^ l.length
  | [], _ => by simp [val]
  | c :: r, h => by
    have ih := val_lt (l := r) fun x hx => h x (.tail _ hx)
    have hc : c < 64 := h c (.head _)
    rw [val_cons, List.length_cons, Nat.pow_succ]
    have : c * 64 ^ r.length ≤ 63 * 64 ^ r.length := Nat.mul_le_mul_right _ (by omega)
    omega
theorem bits_val {l : List Nat} (h : ∀ c ∈ l, c < 64) (hl : l.length ≤ 1000) : (Builtin.Int.intBits (val l : Int) : Int) + 6 ≤ 2 ^ 27 := by
  have h1 := val_lt h
  have h2 : val l < 2 ^ 6000 := Nat.lt_of_lt_of_le h1 (by
    rw [show (64 : Nat) = 2 ^ 6 from rfl, ← Nat.pow_mul]
    exact Nat.pow_le_pow_right (by decide) (by omega))
  have h3 : Builtin.Int.intBits (val l : Int) ≤ 6000 := by
    unfold Builtin.Int.intBits
    split
    · omega
    · rename_i hne
      have hn : val l ≠ 0 := by
        intro q; rw [q] at hne; exact hne (by decide)
      have := (Nat.log2_lt hn).mpr h2
      rw [Int.natAbs_natCast]
      omega
  omega
end Mine
end
-- part F10
section
open PySem PySem.W PyProof.Rows
set_option Elab.async false
set_option maxRecDepth 100000
set_option maxHeartbeats 4000000
set_option pp.deepTerms false
set_option pp.deepTerms.threshold 5
set_option pp.maxSteps 20000
set_option linter.unusedSimpArgs false
set_option linter.unusedVariables false
namespace Mine
local macro_rules | `(tactic| walk_at "eval Name") => `(tactic| first
  | refine nmL (by assumption) (by first | rfl | assumption) ?_
  | refine nmG (by assumption) (by assumption) (by first | exact gl_twin_re_1 _ | exact gl_twin_re_2 _ | exact gl_CRLF _ | exact gl_quotedata _ | exact gl_fix_eols _ | exact gl_parse_varint _ | exact gl_law_numbers _ | exact gl_law_word _ | exact gl_law_spelled _ | exact gl_law_mails _ | exact gl_law_sent _ | exact gl_law_octets _ | exact gl_law_value _ | exact gl_law_primes _) ?_
  | refine nmB (by assumption) (by assumption) (by first | exact gb_next _ | exact gb_enumerate _ | exact gb_chr _ | exact gb_ord _ | exact gb_len _ | exact gb_sum _ | exact gb_range _ | exact gb_iter _ | exact gb_StopIteration _) (by boot_fast) ?_)
local macro_rules | `(tactic| walk_at "storeName") => `(tactic| (refine storeX_L (by assumption) (by assumption) ?_; intro h' F' N'; dsimp only at F' N' ⊢))

local macro_rules | `(tactic| walk_at "loadName") => `(tactic| refine wpAny_loadName_local rfl rfl (Fr.ns (by assumption)) (by first | rfl | assumption) ?_)
local macro_rules | `(tactic| walk_at "callWith ref") => `(tactic| refine callWith_K (Gd.X (by assumption)) (by kernel_rfl) ?_)
local macro_rules | `(tactic| walk_at "And") => `(tactic| ((with_reducible show Frag.In _ _ ∧ _); refine ⟨Frag.In.keeps (Gd.X (by assumption)) (Fr.keep (by assumption)), ?_⟩; (try dsimp only [List.nil_append, List.cons_append])))
local macro_rules | `(tactic| walk_at "eval ListComp") => `(tactic| refine lc (by with_unfolding_all first | exact closureFor_none (by decide) | rfl) (by decide) (by with_unfolding_all rfl) (by decide) ?_ (by intro _; with_unfolding_all rfl))


theorem varint_spec {w : World} {A : Around} {E : Value → Shared → Prop} {s : Shared} {g₀ : Heap} {I a : Addr} {j : Nat} {items : List Value} {l : List Nat} (G : Gd w g₀) (hg : ∀ b o, g₀.get? b = some o → s.heap.get? b = some o) (hI0 : g₀.get? I = none)
    (hA : A.depth < recursionLimit) (hh : A.handled = none) (hI : s.heap.IsListIter I a j) (hl : s.heap.IsList a items.toArray) (hl0 : l ≠ []) (hlen : l.length ≤ 100) (hc : ∀ c ∈ l, c < 64)
    (hit : ∀ i c, l[i]? = some c → ∃ t, items[j + i]? = some (.int (octAt l.length i c) t)) :
    wpAny (model PP w) A (call (.ref 62) [.ref I]) (fun v s' => (∃ t', v = .int (val l : Int) t') ∧ ∃ h' tk, s' = { s with heap := h', toks := tk } ∧ h'.IsListIter I a (j + l.length) ∧ ∀ b o, b ≠ I → s.heap.get? b = some o → h'.get? b = some o) E s := by
  have haI : a ≠ I := by
    rintro rfl
    obtain ⟨o, ho, hoc, _⟩ := hI
    obtain ⟨o', ho', hoc', _⟩ := hl
    rw [ho] at ho'; cases ho'
    rw [hoc] at hoc'
    exact absurd (Value.type.inj hoc') (by decide)
  obtain ⟨oI, hoI, hIc, hId⟩ := id hI
  generalize hgg : hideAll s.heap [I] = g
  have hgs : ∀ b o, g.get? b = some o → s.heap.get? b = some o := fun b o e => of_hideAll _ (hgg ▸ e)
  have hgI : g.get? I = none := hgg ▸ hideAll_none _ (.head _)
  have hgb : ∀ b o, b ≠ I → s.heap.get? b = some o → g.get? b = some o := fun b o hb e => hgg ▸ hideAll_get _ e (by simpa using hb)
  have hgz : g.objs.size = s.heap.objs.size := hgg ▸ hideAll_size _ _
  have Gg : Gd w g := G.keeps fun b o e => hgb b o (by rintro rfl; rw [hI0] at e; cases e) (hg b o e)
  have hlg : g.IsList a items.toArray := by obtain ⟨o, ho, r⟩ := hl; exact ⟨o, hgb a o haI ho, r⟩
  refine enterH Gg hgs (Nat.le_of_eq hgz) hA (by rfl) (by rfl) (binds := [("iterator", .ref I)]) (by rfl) (locs rfl) (by decide) rfl rfl rfl fun h₁ F hk₁ => ?_
  have hIL : I ≠ s.heap.objs.size := Nat.ne_of_lt (Heap.lt_size hoI)
  have N : News g s.heap.objs.size h₁ [(I, oI)] := fun p hp => by
    rcases List.mem_singleton.mp hp with rfl
    exact ⟨hk₁ _ _ hoI, hIL, hgI⟩
  obtain ⟨c0, l', rfl⟩ := List.exists_cons_of_ne_nil hl0
  obtain ⟨t0, hx0⟩ := hit 0 c0 rfl
  iterate 8 walk1
  refine next_item (⟨oI, (N _ (.head _)).1, hIc, hId⟩ : Heap.IsListIter _ I a j) (isList_up hlg F.keep) (by simpa using hx0) fun h₂ hI₂ hs₂ => ?_
  obtain ⟨o₂, ho₂, hc₂, hd₂⟩ := hI₂
  replace F := F.change hs₂ hIL hgI
  replace N : News g s.heap.objs.size h₂ [(I, o₂)] := fun p hp => by
    rcases List.mem_singleton.mp hp with rfl
    exact ⟨ho₂, hIL, hgI⟩
  iterate 7 walk1
  rw [and63 (hc c0 (.head _))]
  rename Fr _ _ _ _ => F
  rename News _ _ _ _ => N
  refine storeX_L F N (fun h₃ F N => ?_)
  dsimp only at F N ⊢
  walk1
  generalize hlen' : c0 :: l' = l at *
  have hl1 : 1 ≤ l.length := by rw [← hlen']; simp
  refine While_inv (fun n m news => ∃ r o t u c, 1 ≤ r ∧ r ≤ l.length ∧ n = l.length - r ∧ news = [(I, o)] ∧ o.cls = .type "list_iterator" ∧ o.data = .fields #[.ref a, .int ((j + r : Nat) : Int) 0] ∧ m "iterator" = some (.ref I) ∧
    l[r - 1]? = some c ∧ m "b" = some (.int (octAt l.length (r - 1) c) t) ∧ m "val" = some (.int (val (l.take r) : Int) u)) (n₀ := l.length - 1) F N ⟨1, o₂, _, _, c0, Nat.le_refl _, hl1, rfl, rfl, hc₂, hd₂, rfl, by rw [← hlen']; rfl, by rw [← hlen']; rfl, by rw [← hlen']; rw [show val (List.take 1 (c0 :: l')) = c0 by simp [val]]; rfl⟩ ?_
  rintro n m₁ news₁ h₄ tk₄ F₁ N₁ ⟨r, o, t, u, c, hr1, hrl, rfl, rfl, hoc, hod, hmi, hlr, hmb, hmv⟩
  have hc64 : c < 64 := hc c (List.mem_of_getElem? hlr)
  (try dsimp only at F₁ N₁)
  iterate 6 walk1
  rw [and64 hc64]
  have htk : ∀ c ∈ l.take r, c < 64 := fun c h => hc c (List.mem_of_mem_take h)
  by_cases hlt : r < l.length
  · rw [if_pos (by simp; omega)]
    obtain ⟨c', hc'⟩ : ∃ c', l[r]? = some c' := ⟨_, List.getElem?_eq_getElem hlt⟩
    obtain ⟨t', hx'⟩ := hit r c' hc'
    have hc64' : c' < 64 := hc c' (List.mem_of_getElem? hc')
    iterate 4 walk1
    refine ilshift_int (by decide) (bits_val htk (by rw [List.length_take]; omega)) ?_
    rename Fr _ _ _ _ => F₁
    rename News _ _ _ _ => N₁
    refine storeX_L F₁ N₁ (fun h₅ F N => ?_)
    dsimp only at F N ⊢
    iterate 8 walk1
    refine next_item (⟨o, (N _ (.head _)).1, hoc, hod⟩ : Heap.IsListIter _ I a (j + r)) (isList_up hlg F.keep) (by simpa using hx') fun h₆ hI₆ hs₆ => ?_
    obtain ⟨o₆, ho₆, hc₆, hd₆⟩ := hI₆
    replace F := F.change hs₆ hIL hgI
    replace N : News g s.heap.objs.size h₆ [(I, o₆)] := fun p hp => by
      rcases List.mem_singleton.mp hp with rfl
      exact ⟨ho₆, hIL, hgI⟩
    refine storeX_L F N (fun h₇ F N => ?_)
    dsimp only at F N ⊢
    iterate 7 walk1
    rw [and63 hc64', show (2 : Int) ^ (Int.toNat 6) = 64 from rfl]
    walk1
    rw [or6 hc64']
    refine storeX_L F N (fun h₈ F N => ?_)
    dsimp only at F N ⊢
    walk1
    refine WhileStep.intro F N (n' := l.length - (r + 1)) (by omega) ?_
    exact ⟨r + 1, o₆, t', _, c', by omega, hlt, rfl, rfl, hc₆, hd₆, hmi, hc', rfl, by rw [val_take hc']; rfl⟩
  · rw [if_neg (by simp; omega)]
    have hrl' : r = l.length := by omega
    subst hrl'
    iterate 3 walk1
    refine ⟨⟨u, by rw [List.take_length]⟩, h₄, _, rfl, ⟨o, (N₁ _ (.head _)).1, hoc, hod⟩, fun b ob hb e => F₁.keep b ob (hgb b ob hb e)⟩
end Mine
end
-- part F11
section
local macro_rules | `(tactic| walk_at "pad") => `(tactic| skip)
local macro_rules | `(tactic| walk_at "pad") => `(tactic| skip)
local macro_rules | `(tactic| walk_at "pad") => `(tactic| skip)
local macro_rules | `(tactic| walk_at "pad") => `(tactic| skip)
local macro_rules | `(tactic| walk_at "pad") => `(tactic| skip)
local macro_rules | `(tactic| walk_at "pad") => `(tactic| skip)
local macro_rules | `(tactic| walk_at "pad") => `(tactic| skip)
local macro_rules | `(tactic| walk_at "pad") => `(tactic| skip)
local macro_rules | `(tactic| walk_at "pad") => `(tactic| skip)
local macro_rules | `(tactic| walk_at "pad") => `(tactic| skip)
local macro_rules | `(tactic| walk_at "pad") => `(tactic| skip)
local macro_rules | `(tactic| walk_at "pad") => `(tactic| skip)
local macro_rules | `(tactic| walk_at "pad") => `(tactic| skip)
local macro_rules | `(tactic| walk_at "pad") => `(tactic| skip)
open PySem PySem.W PyProof.Rows
set_option Elab.async false
set_option maxRecDepth 100000
set_option maxHeartbeats 4000000
set_option pp.deepTerms false
set_option pp.deepTerms.threshold 5
set_option pp.maxSteps 20000
set_option linter.unusedSimpArgs false
set_option linter.unusedVariables false
namespace Mine
local macro_rules | `(tactic| walk_at "eval Name") => `(tactic| first
  | refine nmL (by assumption) (by first | rfl | assumption) ?_
  | refine nmG (by assumption) (by assumption) (by first | exact gl_twin_re_1 _ | exact gl_twin_re_2 _ | exact gl_CRLF _ | exact gl_quotedata _ | exact gl_fix_eols _ | exact gl_parse_varint _ | exact gl_law_numbers _ | exact gl_law_word _ | exact gl_law_spelled _ | exact gl_law_mails _ | exact gl_law_sent _ | exact gl_law_octets _ | exact gl_law_value _ | exact gl_law_primes _) ?_
  | refine nmB (by assumption) (by assumption) (by first | exact gb_next _ | exact gb_enumerate _ | exact gb_chr _ | exact gb_ord _ | exact gb_len _ | exact gb_sum _ | exact gb_range _ | exact gb_iter _ | exact gb_StopIteration _) (by boot_fast) ?_)
local macro_rules | `(tactic| walk_at "storeName") => `(tactic| (refine storeX_L (by assumption) (by assumption) ?_; intro h' F' N'; dsimp only at F' N' ⊢))

local macro_rules | `(tactic| walk_at "loadName") => `(tactic| refine wpAny_loadName_local rfl rfl (Fr.ns (by assumption)) (by first | rfl | assumption) ?_)
local macro_rules | `(tactic| walk_at "callWith ref") => `(tactic| refine callWith_K (Gd.X (by assumption)) (by kernel_rfl) ?_)
local macro_rules | `(tactic| walk_at "And") => `(tactic| ((with_reducible show Frag.In _ _ ∧ _); refine ⟨Frag.In.keeps (Gd.X (by assumption)) (Fr.keep (by assumption)), ?_⟩; (try dsimp only [List.nil_append, List.cons_append])))
local macro_rules | `(tactic| walk_at "eval ListComp") => `(tactic| refine lc (by with_unfolding_all first | exact closureFor_none (by decide) | rfl) (by decide) (by with_unfolding_all rfl) (by decide) ?_ (by intro _; with_unfolding_all rfl))


theorem varint_raise {w : World} {A A₀ : Around} {E : Value → Shared → Prop} {Q : Value → Shared → Prop} {s : Shared} {base h₀ : Heap} {outer : List Env} {env : Env} {L : Addr} {m : Str → Option Value} {news : List (Addr × Obj)} {I a : Addr} {oI : Obj} {j : Nat} {items : List Value} {l : List Nat}
    (B : Below A₀ base outer h₀) (G : Gd w h₀) (F : Fr h₀ L s.heap m) (N : News h₀ L s.heap ((I, oI) :: news)) (hnI : ∀ p ∈ news, p.1 ≠ I) (hAf : A.frames = some (env :: outer)) (hf : env.frame = some L) (hke : env.scope.kind = .function)
    (hA : A.depth < recursionLimit) (hh : A.handled = none) (hIc : oI.cls = .type "list_iterator") (hId : oI.data = .fields #[.ref a, .int j 0]) {oa : Obj} (ha : (a, oa) ∈ news) (hac : oa.cls = .type "list") {k : Nat} (had : oa.data = .seq items.toArray k)
    (hlen : l.length ≤ 100) (hc : ∀ c ∈ l, c < 64)
    (hit : ∀ i c, l[i]? = some c → ∃ t, items[j + i]? = some (.int (octAt (l.length + 1) i c) t)) (hend : items.length = j + l.length)
    (hE : ∀ g h' e t tk, Fr h₀ L g m → g.UpToSlots h' → RaisedK base (env :: outer) e (.type "StopIteration") t [] news h' → E (.ref e) { s with heap := h', toks := tk }) :
    wpAny (model PP w) A (call (.ref 62) [.ref I]) Q E s := by
  have X := G.X.keeps F.keep
  refine wpAny_call (callX_plain (binds := [("iterator", .ref I)]) B F N G.lim hAf hf hke (X _ _ (by rfl)) rfl (codeRec_of X (by rfl)) hA (BindsTo.of_eq (by rfl)) (locs rfl) (fun g L' h₁ FG F N B₁ st hlt => ?_) (by decide))
  have Gg : Gd w g := G.keeps st
  clear X
  have hIm := N _ (.head _)
  have hIL := hIm.2.1
  have hgI := hIm.2.2
  have N' : News g L' h₁ news := fun p hp => N p (.tail _ hp)
  have rest : ∀ {h h' : Heap}, Heap.SameBut I h h' → News g L' h news → News g L' h' news := fun hs N p hp => ⟨hs.extBut _ _ (hnI p hp) (N p hp).1, (N p hp).2⟩
  have hla : ∀ {h : Heap}, News g L' h news → h.IsList a items.toArray := fun N => ⟨oa, (N _ ha).1, hac, k, had⟩
  have fin : ∀ {nm : Str} {sc : Scope} {cdv : Value} (s' : Shared) (h₂ : Heap) (m₂ : Str → Option Value) (e : Addr) (tk : Nat), sc.kind = .function → Fr g L' h₂ m₂ → News g L' h₂ news → Heap.MadeExcOf h₂ s'.heap e (.type "StopIteration") [] → s' = { s with heap := s'.heap, toks := tk } →
      wpAny (model PP w) (A.deeper (envX nm sc L' 62 cdv [])) (leaving (envX nm sc L' 62 cdv []) (.ref e)) (fun _ s'' => E (.ref e) s'') (fun e' s'' => E e' s'') s' := by
    intro nm sc cdv s' h₂ m₂ e tk hk F₂ N₂ hx hs'
    refine leave_raiseK B₁ hx F₂ N₂ (fun h' t R hsm => ?_) hk
    rw [hs']
    exact hE g h' e t tk FG hsm R
  have hIa : (⟨oI, hIm.1, hIc, hId⟩ : Heap.IsListIter h₁ I a j) = ⟨oI, hIm.1, hIc, hId⟩ := rfl
  iterate 8 walk1
  rcases l with _ | ⟨c0, l'⟩
  · refine next_end hh (⟨oI, hIm.1, hIc, hId⟩ : Heap.IsListIter _ I a j) (hla N') (by simp at hend ⊢; omega) fun h₂ h₃ e hs₂ _ hx => ?_
    exact fin _ h₂ _ e _ rfl (F.change hs₂ hIL hgI) (rest hs₂ N') hx rfl
  obtain ⟨t0, hx0⟩ := hit 0 c0 rfl
  refine next_item (⟨oI, hIm.1, hIc, hId⟩ : Heap.IsListIter _ I a j) (hla N') (by simpa using hx0) fun h₂ hI₂ hs₂ => ?_
  obtain ⟨o₂, ho₂, hc₂, hd₂⟩ := hI₂
  replace F := F.change hs₂ hIL hgI
  replace N : News g L' h₂ ((I, o₂) :: news) := fun p hp => by
    rcases List.mem_cons.mp hp with rfl | hp
    · exact ⟨ho₂, hIL, hgI⟩
    · exact rest hs₂ N' p hp
  clear N'
  iterate 7 walk1
  rw [and63 (hc c0 (.head _))]
  rename Fr g _ _ _ => F
  rename News g _ _ _ => N
  refine storeX_L F N (fun h₃ F N => ?_)
  dsimp only at F N ⊢
  walk1
  generalize hlen' : c0 :: l' = l at *
  have hl1 : 1 ≤ l.length := by rw [← hlen']; simp
  refine While_inv (fun n m news' => ∃ r o t u c, 1 ≤ r ∧ r ≤ l.length ∧ n = l.length - r ∧ news' = (I, o) :: news ∧ o.cls = .type "list_iterator" ∧ o.data = .fields #[.ref a, .int ((j + r : Nat) : Int) 0] ∧ m "iterator" = some (.ref I) ∧
    l[r - 1]? = some c ∧ m "b" = some (.int (octAt (l.length + 1) (r - 1) c) t) ∧ m "val" = some (.int (val (l.take r) : Int) u)) (n₀ := l.length - 1) F N ⟨1, o₂, _, _, c0, Nat.le_refl _, hl1, rfl, rfl, hc₂, hd₂, rfl, by rw [← hlen']; rfl, by rw [← hlen']; rfl, by rw [← hlen']; rw [show val (List.take 1 (c0 :: l')) = c0 by simp [val]]; rfl⟩ ?_
  rintro n m₁ news₁ h₄ tk₄ F₁ N₁ ⟨r, o, t, u, c, hr1, hrl, rfl, rfl, hoc, hod, hmi, hlr, hmb, hmv⟩
  have hc64 : c < 64 := hc c (List.mem_of_getElem? hlr)
  (try dsimp only at F₁ N₁)
  iterate 6 walk1
  rw [and64 hc64]
  have htk : ∀ c ∈ l.take r, c < 64 := fun c h => hc c (List.mem_of_mem_take h)
  rw [if_pos (by simp; omega)]
  iterate 4 walk1
  refine ilshift_int (by decide) (bits_val htk (by rw [List.length_take]; omega)) ?_
  rename Fr g _ _ _ => F₁
  rename News g _ _ _ => N₁
  refine storeX_L F₁ N₁ (fun h₅ F N => ?_)
  dsimp only at F N ⊢
  iterate 8 walk1
  have N' : News g L' h₅ news := fun p hp => N p (.tail _ hp)
  by_cases hlt : r < l.length
  · obtain ⟨c', hc'⟩ : ∃ c', l[r]? = some c' := ⟨_, List.getElem?_eq_getElem hlt⟩
    obtain ⟨t', hx'⟩ := hit r c' hc'
    have hc64' : c' < 64 := hc c' (List.mem_of_getElem? hc')
    refine next_item (⟨o, (N _ (.head _)).1, hoc, hod⟩ : Heap.IsListIter _ I a (j + r)) (hla N') (by simpa using hx') fun h₆ hI₆ hs₆ => ?_
    obtain ⟨o₆, ho₆, hc₆, hd₆⟩ := hI₆
    replace F := F.change hs₆ hIL hgI
    replace N : News g L' h₆ ((I, o₆) :: news) := fun p hp => by
      rcases List.mem_cons.mp hp with rfl | hp
      · exact ⟨ho₆, hIL, hgI⟩
      · exact rest hs₆ N' p hp
    clear N'
    refine storeX_L F N (fun h₇ F N => ?_)
    dsimp only at F N ⊢
    iterate 7 walk1
    rw [and63 hc64', show (2 : Int) ^ (Int.toNat 6) = 64 from rfl]
    walk1
    rw [or6 hc64']
    refine storeX_L F N (fun h₈ F N => ?_)
    dsimp only at F N ⊢
    walk1
    refine WhileStep.intro F N (n' := l.length - (r + 1)) (by omega) ?_
    exact ⟨r + 1, o₆, t', _, c', by omega, hlt, rfl, rfl, hc₆, hd₆, hmi, hc', rfl, by rw [val_take hc']; rfl⟩
  · have hrl' : r = l.length := by omega
    refine next_end hh (⟨o, (N _ (.head _)).1, hoc, hod⟩ : Heap.IsListIter _ I a (j + r)) (hla N') (by simp; omega) fun h₂ h₃ e hs₂ _ hx => ?_
    exact fin _ h₂ _ e _ rfl (F.change hs₂ hIL hgI) (rest hs₂ N') hx rfl
end Mine
end
-- part F12
section
open PySem PySem.W PyProof.Rows
set_option Elab.async false
set_option maxRecDepth 100000
set_option maxHeartbeats 4000000
set_option linter.unusedVariables false
namespace Mine

/-- an exception from a call, caught in the frame by the name StopIteration -/
theorem caught_stop {w : World} {A₀ : Around} {s' : Shared} {h₀ h : Heap} {outer : List Env} {env : Env} {L e t : Addr} {m : Str → Option Value} {vs : List Value} {b₀ : Stmt} {suite : List Stmt} {pos np : Pos} {rest : List ExceptHandler} {Q : Flow → Shared → Prop} {news : List (Addr × Obj)}
    (G : Gd w h₀) (K : Below A₀ h₀ outer h₀) (F : Fr h₀ L h m) (hsm : h.UpToSlots s'.heap) (R : RaisedK h₀ (env :: outer) e (.type "StopIteration") t vs news s'.heap)
    (k : ∀ h', Fr h₀ L h' m → News h₀ L h' news → wpAny (model PP w) ((A₀.deeper env).mark (some (.ref e))) (execs (b₀ :: suite) env) Q (fun _ _ => False) { s' with heap := h' })
    (hf : env.frame = some L) (hk : env.scope.kind = .function) (hx : env.kindOf "StopIteration" = some .globalImplicit) (hg : env.globals = mainGlobals) (hb : env.builtins = builtinsNs) :
    wpAny (model PP w) (A₀.deeper env) (noteFrame (.ref e) env)
      (fun _ s₂ => wpAny (model PP w) (A₀.deeper env) (setFlight (.ref e) none) (fun _ s₃ =>
        wpAny (model PP w) (A₀.deeper env) (handleBy (.ref e) env (.ExceptHandler (some (.Name "StopIteration" np)) none (b₀ :: suite) pos :: rest)) Q (fun _ _ => False) s₃) (fun _ _ => False) s₂) (fun _ _ => False) s' := by
  obtain ⟨⟨B, hB, hl, hfl, hnew⟩, htup⟩ := R
  have hL : B.get? L = none := by
    obtain ⟨_, ⟨L', _, hf', hn', _⟩, _⟩ := hfl.2.2.1
    obtain rfl : L = L' := Option.some.inj (hf.symm.trans hf')
    exact hn'
  refine wpAny_looks_onW (Around.frames_deeper K.stack) hf hfl fun h₄ hheld₄ hsm₄ => ?_
  refine wpAny_landsW hheld₄ fun h₅ hheld hsm₅' => ?_
  have hsm₅ := hsm₄.trans hsm₅'
  have F₅ := F.of_stays (flyingW_base hB hheld).1 (hsm.trans hsm₅)
  obtain ⟨ob, hob, hobc⟩ := (flyingW_base hB hheld).there
  refine wpAny_handleBy_builtin (X := "StopIteration") (T := "StopIteration") (b := true) (by rw [isSubtype_type]; kernel_rfl) (by rw [isSubtype_type]; kernel_rfl) (by rw [isSubtype_type]; kernel_rfl) ?_
  refine nmB G F₅ (gb_StopIteration w) PyProof.Rows.Boot.«StopIteration» ⟨rfl, ⟨ob, hob, hobc⟩, ?_⟩ (by decide) hk hx hg hb
  refine lands_againW hheld fun h₆ hfl₆ hsm₆ => ?_
  have F₆ := F.of_stays (flyingW_base hB hfl₆).1 ((hsm.trans hsm₅).trans hsm₆)
  have hE : PassesOwnAt (model PP w) ((A₀.deeper env).mark (some (.ref e))) (A₀.deeper env) env (fun _ _ => False) := by passes_own
  exact wpAny_passesOwnAt hE (k h₆ F₆ fun q hq => ⟨hfl₆.1 _ _ (hl q hq).1, (fun z => by have := (hl q hq).1; rw [z, hL] at this; cases this), (hl q hq).2⟩)
end Mine
end
-- part B11
section
local macro_rules | `(tactic| walk_at "pad") => `(tactic| skip)
local macro_rules | `(tactic| walk_at "pad") => `(tactic| skip)
local macro_rules | `(tactic| walk_at "pad") => `(tactic| skip)
local macro_rules | `(tactic| walk_at "pad") => `(tactic| skip)
local macro_rules | `(tactic| walk_at "pad") => `(tactic| skip)
local macro_rules | `(tactic| walk_at "pad") => `(tactic| skip)
local macro_rules | `(tactic| walk_at "pad") => `(tactic| skip)
local macro_rules | `(tactic| walk_at "pad") => `(tactic| skip)
local macro_rules | `(tactic| walk_at "pad") => `(tactic| skip)
local macro_rules | `(tactic| walk_at "pad") => `(tactic| skip)
local macro_rules | `(tactic| walk_at "pad") => `(tactic| skip)
local macro_rules | `(tactic| walk_at "pad") => `(tactic| skip)
local macro_rules | `(tactic| walk_at "pad") => `(tactic| skip)
local macro_rules | `(tactic| walk_at "pad") => `(tactic| skip)
open PySem PySem.W PyProof.Rows
set_option Elab.async false
set_option maxRecDepth 100000
set_option maxHeartbeats 4000000
set_option linter.unusedVariables false
namespace Mine

/-- what a turn leaves; the word may speak of the heap -/
def CEndH (L D : Addr) (s₃ : Shared) (J : List Value → (Str → Option Value) → Heap → Prop) (s₅ : Shared) : Prop :=
  ∃ h' tk m' ys, s₅ = { s₃ with heap := h', toks := tk } ∧ h'.Ns L m' ∧ h'.PlainList D (List.toArray ys) ∧ J ys m' h' ∧ ∀ b o, b ≠ L → b ≠ D → s₃.heap.get? b = some o → h'.get? b = some o

theorem levelH {w : World} {A : Around} {target : PySem.Expr} {I D L : Addr} {fp wr : List Addr} {n : Nat} {cok : Env → Prop} {Bd : Nat → (Str → Option Value) → Prop} {St : Nat → Heap → Prop} {tn : List Str}
    {e : PySem.Expr} {d : Nat} {env : Env} {B : (Shared → Prop) → Shared → Prop} {R : Result → Shared → Prop} {s₀ : Shared} {m₀ : Str → Option Value} {ys₀ : List Value}
    (LR : LoopRule w A target (.ref I) env e d (.ref D) R B) (T : CT2 w A target I fp wr n cok Bd St tn) (hcok : cok env) (hL : env.locals = L) (hLf : L ∉ fp) (hDf : D ∉ fp) (hDL : D ≠ L)
    (J : Nat → List Value → (Str → Option Value) → Heap → Prop) (hJs : ∀ i ys m h h', J i ys m h → (∀ b o, b ≠ L → b ≠ D → b ∉ wr → h.get? b = some o → h'.get? b = some o) → J i ys m h')
    (hst : St 0 s₀.heap) (hn : s₀.heap.Ns L m₀) (hp : s₀.heap.PlainList D ys₀.toArray) (hJ : J 0 ys₀ m₀ s₀.heap)
    (turn : ∀ i h₃ tk₃ m₂ m₃ ys (K : Shared → Prop), i < n → Bd i m₃ → J i ys m₂ h₃ → (∀ z, z ∉ tn → m₃ z = m₂ z) → h₃.Ns L m₃ → h₃.PlainList D ys.toArray →
      St (i + 1) h₃ → (∀ b o, b ≠ L → b ≠ D → b ∉ wr → s₀.heap.get? b = some o → h₃.get? b = some o) → (∀ s₅, CEndH L D { s₀ with heap := h₃, toks := tk₃ } (J (i + 1)) s₅ → K s₅) → B K { s₀ with heap := h₃, toks := tk₃ })
    (hR : ∀ h' tk m' ys, h'.Ns L m' → h'.PlainList D (List.toArray ys) → J n ys m' h' → (∀ b o, b ≠ L → b ≠ D → b ∉ wr → s₀.heap.get? b = some o → h'.get? b = some o) → R (.ok .next) { s₀ with heap := h', toks := tk }) :
    codeAny (model PP w) A (.compLoop e d (.ref I) (.ref D) env) R s₀ := by
  subst hL
  have hLw : env.locals ∉ wr := fun h => hLf (T.sub _ h)
  have hDw : D ∉ wr := fun h => hDf (T.sub _ h)
  refine LR (fun k s' => ∃ i h' tk m' ys, s' = { s₀ with heap := h', toks := tk } ∧ St i h' ∧ h'.Ns env.locals m' ∧ h'.PlainList D (List.toArray ys) ∧ J i ys m' h' ∧ i ≤ n ∧ k = n + 1 - i ∧
    (∀ b o, b ≠ env.locals → b ≠ D → b ∉ wr → s₀.heap.get? b = some o → h'.get? b = some o)) ?_ (n + 1) s₀ ⟨0, s₀.heap, s₀.toks, m₀, ys₀, rfl, hst, hn, hp, hJ, Nat.zero_le _, rfl, fun _ _ _ _ _ e => e⟩
  rintro k s' ⟨i, h', tk, m', ys, rfl, hst', hn', hp', hJ', hi, rfl, hk⟩
  by_cases hlt : i < n
  · refine wpAny_mono (T.item i _ env m' (fun s₂ => B (fun s₅ => ∃ m, m < n + 1 - i ∧ ∃ i h' tk m' ys, s₅ = { s₀ with heap := h', toks := tk } ∧ St i h' ∧ h'.Ns env.locals m' ∧ h'.PlainList D (List.toArray ys) ∧ J i ys m' h' ∧ i ≤ n ∧ m = n + 1 - i ∧
        (∀ b o, b ≠ env.locals → b ≠ D → b ∉ wr → s₀.heap.get? b = some o → h'.get? b = some o)) s₂) _ hlt hst' hcok hLf hn' fun h₂ tk₂ m₂ hst₂ hn₂ hBd hsame hk₂ => ?_) (fun r s₁ h => ?_) fun _ _ e => e
    rotate_left
    · cases r with
      | none => exact h.elim
      | some v => exact h
    refine turn i h₂ tk₂ m' m₂ ys _ hlt hBd (hJs _ _ _ _ _ hJ' fun b o h1 h2 h3 e => hk₂ b o h1 h3 e) hsame hn₂ (hp'.at fun o e => hk₂ D o hDL hDw e) hst₂ (fun b o h1 h2 h3 e => hk₂ b o h1 h3 (hk b o h1 h2 h3 e)) ?_
    rintro s₅ ⟨h₅, tk₅, m₅, ys₅, rfl, hn₅, hp₅, hJ₅, hk₅⟩
    refine ⟨n + 1 - (i + 1), by omega, i + 1, h₅, tk₅, m₅, ys₅, rfl, ?_, hn₅, hp₅, hJ₅, hlt, rfl, fun b o h1 h2 h3 e => hk₅ b o h1 h2 (hk₂ b o h1 h3 (hk b o h1 h2 h3 e))⟩
    exact T.frame _ _ _ hst₂ fun b hb o e => hk₅ b o (fun q => hLf (q ▸ hb)) (fun q => hDf (q ▸ hb)) e
  · have hin : i = n := by omega
    subst hin
    refine T.done _ _ _ hst' fun h₂ tk₂ hk₂ => ?_
    exact hR h₂ tk₂ m' ys (hn'.at' fun o e => hk₂ _ o hLw e) (hp'.at fun o e => hk₂ _ o hDw e) (hJs _ _ _ _ _ hJ' fun b o h1 h2 h3 e => hk₂ b o h3 e) fun b o h1 h2 h3 e => hk₂ b o h3 (hk b o h1 h2 h3 e)

/-- as LcG, with objects that the elements made -/
def LcX (w : World) (A : Around) (e : PySem.Expr) (scope : Scope) (cl : List (Str × Addr)) (env : Env) (Fin : Shared → List Addr → List Value → List (Addr × Obj) → Prop) (it : Value) (s₂ : Shared) : Prop :=
  ∃ wr, ∃ Pf : List Value → List (Addr × Obj) → Prop, (∀ ys ex, Pf ys ex → Fin s₂ wr ys ex) ∧
    ∀ D C h₃ tk₃ m₃ (R : Result → Shared → Prop), s₂.heap.objs.size ≤ D → s₂.heap.objs.size ≤ C → D ≠ C → h₃.PlainList D #[] → h₃.Ns C m₃ → (∀ b o, s₂.heap.get? b = some o → h₃.get? b = some o) → s₂.heap.objs.size ≤ h₃.objs.size →
      (∀ h' tk m' ys ex, h'.Ns C m' → h'.PlainList D (List.toArray ys) → Pf ys ex → (∀ p ∈ ex, h'.get? p.1 = some p.2 ∧ p.1 ≠ C ∧ p.1 ≠ D ∧ s₂.heap.objs.size ≤ p.1) → (∀ b o, b ∉ wr → s₂.heap.get? b = some o → h'.get? b = some o) → R (.ok .next) { s₂ with heap := h', toks := tk }) →
      codeAny (model PP w) A (.compStart e 0 it (.ref D) (compEnvC scope cl C env)) R { s₂ with heap := h₃, toks := tk₃ }

def FinLX (L : Addr) (y : Str) (Q : Flow → Shared → Prop) (s₂ : Shared) (wr : List Addr) (ys : List Value) (ex : List (Addr × Obj)) : Prop :=
  L ∉ wr ∧ ∃ m, s₂.heap.Ns L m ∧ ∀ D h' tk, s₂.heap.get? D = none → h'.PlainList D ys.toArray → (∀ p ∈ ex, h'.get? p.1 = some p.2 ∧ s₂.heap.get? p.1 = none) → h'.Ns L (fun z => if z = y then some (.ref D) else m z) → (∀ b o, b ≠ L → b ∉ wr → s₂.heap.get? b = some o → h'.get? b = some o) → Q .next { s₂ with heap := h', toks := tk }

theorem lcXAssign {w : World} {A : Around} {E : Value → Shared → Prop} {env : Env} {s : Shared} {elt target iter : PySem.Expr} {ifs : List PySem.Expr} {rest : List Comprehension} {y : Str} {py : Pos} {scope : Scope} {cl : List (Str × Addr)} {pos spos : Pos} {Q : Flow → Shared → Prop}
    (hsw : swapsWith (.ListComp elt (⟨target, iter, ifs, 0⟩ :: rest) scope pos) (some (.Name y py)) spos.line env = pure true)
    (hclos : closureFor scope env = pure cl) (hcell : ∀ y ∈ scope.names, y.2 ≠ .cell) (hkind : scope.kind = .function)
    (hnames : ∀ y ∈ scope.names, y.2 = .local → scope.names.lookup y.1 = some .local)
    (hy : env.kindOf y = some .local) (hpc : (env.scope.kind == .class || (env.scope.kind == .module && env.locals != env.globals)) = false)
    (h : wpAny (model PP w) A (eval iter env) (fun xv s₁ => wpAny (model PP w) A (pyIter xv) (LcX w A (.ListComp elt (⟨target, iter, ifs, 0⟩ :: rest) scope pos) scope cl env (FinLX env.locals y Q)) E s₁) E s)
    (hs : ∀ x, foldedSetIterable iter env x = pure x := by intro _; rfl) :
    wpAny (model PP w) A (exec (.Assign [.Name y py] (.ListComp elt (⟨target, iter, ifs, 0⟩ :: rest) scope pos) spos) env) Q E s := by
  rw [exec_Assign_Name_used _ _ _ _ hsw]
  refine wpAny_bind (wpAny_standAt (wpAny_bind ?_))
  show wpAny _ A (do let _ ← comprehension (.ListComp elt (⟨target, iter, ifs, 0⟩ :: rest) scope pos) scope env _ (newList []) false (eval iter env) (some (assign (.Name y py) env))) _ _ s
  refine wpAny_bind (wpAny_mono (wpAny_comprehension_free (use := some (assign (.Name y py) env)) (Q := fun _ s' => Q .next s') rfl hs hclos hkind hnames
    (wpAny_mono h (fun xv s₁ h₁ => wpAny_mono h₁ (fun it s₂ h₂ => ?_) fun _ _ e => e) fun _ _ e => e)) (fun _ s' hq => wpAny_pure (wpAny_pure hq)) fun _ _ e => e)
  obtain ⟨wr, Pf, hPf, loop⟩ := h₂
  refine wpAny_newObj_type (wpAny_newFunctionEnv hcell (by intro y hy; simp at hy) (fun h₁ hns₁ hsb₁ => ?_) hkind)
  dsimp only at hns₁ hsb₁ ⊢
  generalize hH2 : s₂.heap.push { cls := .type "list", dict := none, data := .seq ([] : List Value).toArray } = H2 at hns₁ hsb₁ ⊢
  have hC : H2.objs.size = s₂.heap.objs.size + 1 := by rw [← hH2, Heap.size_push]
  have hDC : s₂.heap.objs.size ≠ H2.objs.size := by rw [hC]; exact Nat.ne_of_lt (Nat.lt_succ_self _)
  have old : ∀ b o, s₂.heap.get? b = some o → h₁.get? b = some o := fun b o e => hsb₁.extBut b o (by have := Heap.lt_size e; rw [hC]; exact Nat.ne_of_lt (Nat.lt_succ_of_lt this)) (Heap.get?_push_of_some _ (hH2 ▸ Heap.get?_push_of_some _ e))
  have hacc : h₁.PlainList s₂.heap.objs.size #[] := ⟨_, hsb₁.extBut _ _ hDC (Heap.get?_push_of_some _ (hH2 ▸ Heap.get?_push_size _ rfl))⟩
  have hCl : H2.objs.size < h₁.objs.size := by obtain ⟨o, _, _, ho, _⟩ := hns₁; exact Heap.lt_size ho
  refine loop s₂.heap.objs.size H2.objs.size h₁ _ _ (compPost (model PP w) A E (some (assign (.Name y py) env)) (fun _ s' => Q .next s') (.ref s₂.heap.objs.size) H2.objs.size) (Nat.le_refl _) (by rw [hC]; exact Nat.le_succ _) hDC hacc hns₁ old (by omega) fun h' tk m' ys ex hnC hplD hP hex hk => ?_
  obtain ⟨hLf, m, hn, hQ⟩ := hPf ys ex hP
  have hDn : s₂.heap.get? s₂.heap.objs.size = none := get_none_of_le (Nat.le_refl _)
  have hCn : s₂.heap.get? H2.objs.size = none := get_none_of_le (by rw [hC]; exact Nat.le_succ _)
  have hfr : ∀ a : Addr, s₂.heap.objs.size ≤ a → s₂.heap.get? a = none := fun a ha => get_none_of_le ha
  have hLlt : @LT.lt Nat _ env.locals s₂.heap.objs.size := by obtain ⟨o, _, _, ho, _⟩ := hn; exact Heap.lt_size ho
  generalize s₂.heap.objs.size = D at *
  generalize H2.objs.size = C at *
  have hLC : env.locals ≠ C := by rintro rfl; obtain ⟨o, _, _, ho, _⟩ := hn; rw [hCn] at ho; cases ho
  have hLD : env.locals ≠ D := by rintro rfl; obtain ⟨o, _, _, ho, _⟩ := hn; rw [hDn] at ho; cases ho
  show wpAny _ A (assign (.Name y py) env (.ref D)) _ _ _
  refine wpAny_assign_Name (wpAny_storeName_local hy (hn.at' fun o e => hk _ o hLf e) (fun h₂ hn₂ hs₂ => ?_) hpc)
  refine ⟨m', hnC.sameBut hs₂ (Ne.symm hLC), fun h₃ hs₃ => ?_⟩
  refine hQ D h₃ _ hDn ((hplD.extBut hs₂.extBut (Ne.symm hLD)).extBut hs₃.extBut hDC) (fun p hp => ?_) (hn₂.sameBut hs₃ hLC) fun b o hbL hbf e =>
    hs₃.extBut b o (by rintro rfl; rw [hCn] at e; cases e) (hs₂.extBut b o hbL (hk b o hbf e))
  obtain ⟨h1, h2, h3, h4⟩ := hex p hp
  refine ⟨hs₃.extBut _ _ h2 (hs₂.extBut _ _ (fun q => ?_) h1), hfr _ h4⟩
  have q' : @Eq Nat p.1 env.locals := q
  omega

/-- a made pair -/
structure PT where
  addr : Addr
  a : Nat
  b : Nat
  ta : Tok
  tb : Tok
def PT.val (p : PT) : Value := .ref p.addr
def PT.obj (p : PT) : Obj := { cls := .type "tuple", data := .seq #[.int (p.a : Int) p.ta, .int (p.b : Int) p.tb] }
def PT.pr (p : PT) : Nat × Nat := (p.a, p.b)
def PT.ent (p : PT) : Addr × Obj := (p.addr, p.obj)
def prs : List (Nat × Nat) := [(1, 1), (1, 2), (1, 3), (2, 1), (2, 2), (2, 3), (3, 1), (3, 2), (3, 3)]
theorem prs_next : ∀ i < 3, ∀ k < 3, prs.take (3 * i + (k + 1)) = prs.take (3 * i + k) ++ [(1 + i, 1 + k)] := by decide

theorem plain_lt {h : Heap} {D : Addr} {items : Array Value} (p : h.PlainList D items) : @LT.lt Nat _ D h.objs.size := by
  obtain ⟨_, e⟩ := p
  exact Heap.lt_size e

/-- [(m, n) for m in range(1, 4) for n in range(1, 4)] -/
theorem pairs_src {w : World} {A : Around} {E : Value → Shared → Prop} {s : Shared} {env : Env} {elt iter iter₂ : PySem.Expr} {xm xn : Str} {pm pn pos : Pos} {scope : Scope} {cl : List (Str × Addr)} {r : Addr} {t u v : Tok} {Fin : Shared → List Addr → List Value → List (Addr × Obj) → Prop}
    (hh : A.handled = none) (hr : IsRange s.heap r 1 4 1 t u v) (hmn : ¬ xm = xn) (hs2 : ∀ C x, foldedSetIterable iter₂ (compEnvC scope cl C env) x = pure x)
    (hcm : ∀ C, okN xm (compEnvC scope cl C env)) (hcn : ∀ C, okN xn (compEnvC scope cl C env))
    (hiter : ∀ C s₃ m₃ E', Fr s.heap C s₃.heap m₃ → wpAny (model PP w) A (eval iter₂ (compEnvC scope cl C env)) (fun xv s₄ => ∃ r h' tk t u v, xv = .ref r ∧ s₄ = { s₃ with heap := h', toks := tk } ∧ (∀ b o, s₃.heap.get? b = some o → h'.get? b = some o) ∧ IsRange h' r 1 4 1 t u v) E' s₃)
    (helt : ∀ C s₃ m₃ a b ta tb E', m₃ xm = some (.int a ta) → m₃ xn = some (.int b tb) → Fr s.heap C s₃.heap m₃ → wpAny (model PP w) A (eval elt (compEnvC scope cl C env)) (fun xv s₄ => ∃ h' tk T, xv = .ref T ∧ s₄ = { s₃ with heap := h', toks := tk } ∧ h'.get? T = some { cls := .type "tuple", data := .seq #[.int a ta, .int b tb] } ∧ s₃.heap.objs.size ≤ T ∧ (∀ b o, s₃.heap.get? b = some o → h'.get? b = some o)) E' s₃)
    (hF : ∀ (s₂ : Shared) (wr : List Addr) (q : List PT), (∀ b o, s.heap.get? b = some o → s₂.heap.get? b = some o) → (∀ b o, s.heap.get? b = some o → b ∉ wr) → s₂ = { s with heap := s₂.heap, toks := s₂.toks } → q.map PT.pr = prs → Fin s₂ wr (q.map PT.val) (q.map PT.ent)) :
    wpAny (model PP w) A (pyIter (.ref r)) (LcX w A (.ListComp elt [⟨.Name xm pm, iter, [], 0⟩, ⟨.Name xn pn, iter₂, [], 0⟩] scope pos) scope cl env Fin) E s := by
  have hsm : ∀ {h : Heap} {r t u v}, IsRange h r 1 4 1 t u v → True := fun _ => trivial
  refine wpAny_pyIter_range hr (small_one (by decide) (by decide) (by decide) (by decide)) ?_
  have hn3 : Builtin.Range.rangeSize 1 4 1 = 3 := by decide
  refine ⟨[s.heap.objs.size], fun ys ex => ∃ q : List PT, ys = q.map PT.val ∧ ex = q.map PT.ent ∧ q.map PT.pr = prs, ?_, ?_⟩
  · rintro ys ex ⟨q, rfl, rfl, hq⟩
    refine hF _ _ q (fun b o e => Heap.get?_push_of_some _ e) (fun b o e hb => ?_) rfl hq
    simp only [List.mem_cons, List.not_mem_nil, or_false] at hb
    exact Nat.ne_of_lt (Heap.lt_size e) hb
  intro D C h₃ tk₃ m₃ R hD hC hDC hpl hn hk hsz hR
  rw [Heap.size_push] at hD hC hsz
  have T₁ := CT2.name (w := w) (A := A) (px := pm) (x := xm) (Walks.range (prog := PP) (w := w) (A := A) hh s.heap.objs.size 1 1 3)
  have hI1 : ∀ a : Addr, s.heap.objs.size + 1 ≤ a → a ∉ [s.heap.objs.size] := fun a ha hb => by
    simp only [List.mem_cons, List.not_mem_nil, or_false] at hb
    have h' : @Eq Nat a s.heap.objs.size := hb
    omega
  have hst : ∀ (g h : Heap), (∀ b o, (g.push { cls := .type "range_iterator", data := .fields #[rawInt 1, rawInt (Builtin.Range.rangeSize 1 4 1), rawInt 1] }).get? b = some o → h.get? b = some o) → IsRangeIter h g.objs.size (1 + ((0 : Nat) : Int) * 1) (((3 : Nat) : Int) - ((0 : Nat) : Int)) 1 := fun g h hk => by
    have := hk _ _ (Heap.get?_push_size g rfl)
    rw [hn3] at this
    simpa [IsRangeIter] using this
  have hCI : C ∉ [s.heap.objs.size] := hI1 C hC
  have hDI : D ∉ [s.heap.objs.size] := hI1 D hD
  have old : ∀ {h : Heap} {b : Addr} {o : Obj}, (∀ b o, b ≠ C → b ≠ D → b ∉ [s.heap.objs.size] → h₃.get? b = some o → h.get? b = some o) → s.heap.get? b = some o → h.get? b = some o := fun {h b o} hk₄ e => by
    have hlt : @LT.lt Nat _ b s.heap.objs.size := Heap.lt_size e
    refine hk₄ b o (fun q => ?_) (fun q => ?_) (fun q => ?_) (hk b o (Heap.get?_push_of_some _ e))
    · have q' : @Eq Nat b C := q
      omega
    · have q' : @Eq Nat b D := q
      omega
    · simp only [List.mem_cons, List.not_mem_nil, or_false] at q
      exact Nat.ne_of_lt hlt q
  have loop : ∀ tk, codeAny (model PP w) A (.compLoop (.ListComp elt [⟨.Name xm pm, iter, [], 0⟩, ⟨.Name xn pn, iter₂, [], 0⟩] scope pos) 0 (.ref s.heap.objs.size) (.ref D) (compEnvC scope cl C env)) R { s with heap := h₃, toks := tk } := fun tk => by
    refine levelH (rule_out (hs2 C)) T₁ (hcm C) rfl hCI hDI hDC
      (fun i ys m h => ∃ q : List PT, ys = q.map PT.val ∧ q.map PT.pr = prs.take (3 * i) ∧ ∀ p ∈ q, h.get? p.addr = some p.obj ∧ p.addr ≠ C ∧ p.addr ≠ D ∧ @LE.le Nat _ (s.heap.objs.size + 1) p.addr) ?_ (hst s.heap h₃ hk) hn hpl (ys₀ := []) ⟨[], rfl, rfl, by simp⟩ ?_ ?_
    · rintro i ys m h h' ⟨q, rfl, hq, hall⟩ hk'
      exact ⟨q, rfl, hq, fun p hp => ⟨hk' _ _ (hall p hp).2.1 (hall p hp).2.2.1 (hI1 _ (hall p hp).2.2.2) (hall p hp).1, (hall p hp).2⟩⟩
    · intro i h₄ tk₄ m₂ m₄ ys K hi hBd hJ hsame hn₄ hpl₄ _ hk₄ hK
      obtain ⟨_, ⟨tm, rfl⟩, hmm⟩ := hBd
      obtain ⟨q, rfl, hq, hall⟩ := hJ
      have F₄ : Fr s.heap C h₄ m₄ := ⟨hn₄, fun b o e => old hk₄ e, Nat.le_of_succ_le hC⟩
      refine wpAny_mono (hiter C _ m₄ _ F₄) (fun xv s₅ h₅ => ?_) fun _ _ e => e
      obtain ⟨r₂, h₅, tk₅, t₂, u₂, v₂, rfl, rfl, hk₅, hr₂⟩ := h₅
      refine wpAny_pyIter_range hr₂ (small_one (by decide) (by decide) (by decide) (by decide)) ?_
      have T₂ := CT2.name (w := w) (A := A) (px := pn) (x := xn) (Walks.range (prog := PP) (w := w) (A := A) hh h₅.objs.size 1 1 3)
      have hCl : @LT.lt Nat _ C h₅.objs.size := by obtain ⟨o, _, _, ho, _⟩ := hn₄; exact Heap.lt_size (hk₅ _ _ ho)
      have hDl : @LT.lt Nat _ D h₅.objs.size := by obtain ⟨_, e⟩ := hpl₄; exact Heap.lt_size (hk₅ _ _ e)
      have hlt5 : ∀ {b : Addr} {o : Obj}, h₄.get? b = some o → b ∉ [h₅.objs.size] := fun {b o} e hb => by
        simp only [List.mem_cons, List.not_mem_nil, or_false] at hb
        exact Nat.ne_of_lt (Heap.lt_size (hk₅ _ _ e)) hb
      have hC5 : C ∉ [h₅.objs.size] := fun hb => by
        simp only [List.mem_cons, List.not_mem_nil, or_false] at hb
        exact Nat.ne_of_lt hCl hb
      have hD5 : D ∉ [h₅.objs.size] := fun hb => by
        simp only [List.mem_cons, List.not_mem_nil, or_false] at hb
        exact Nat.ne_of_lt hDl hb
      have up5 : ∀ {b : Addr} {o : Obj} (ob : Obj), h₄.get? b = some o → (h₅.push ob).get? b = some o := fun {b o} ob e => Heap.get?_push_of_some _ (hk₅ _ _ e)
      have loop2 : ∀ R' tk', (∀ h' tk m' ys, h'.Ns C m' → h'.PlainList D (List.toArray ys) → (∃ q : List PT, ys = q.map PT.val ∧ q.map PT.pr = prs.take (3 * i + 3) ∧ ∀ p ∈ q, h'.get? p.addr = some p.obj ∧ p.addr ≠ C ∧ p.addr ≠ D ∧ @LE.le Nat _ (s.heap.objs.size + 1) p.addr) →
          (∀ b o, b ≠ C → b ≠ D → h₄.get? b = some o → h'.get? b = some o) → R' (.ok .next) { s with heap := h', toks := tk }) →
          codeAny (model PP w) A (.compLoop (.ListComp elt [⟨.Name xm pm, iter, [], 0⟩, ⟨.Name xn pn, iter₂, [], 0⟩] scope pos) 1 (.ref h₅.objs.size) (.ref D) (compEnvC scope cl C env)) R' { s with heap := h₅.push { cls := .type "range_iterator", data := .fields #[rawInt 1, rawInt (Builtin.Range.rangeSize 1 4 1), rawInt 1] }, toks := tk' } := fun R' tk' hR' => by
        refine levelH rule_in T₂ (hcn C) rfl hC5 hD5 hDC
          (fun k ys m h => ∃ q : List PT, ys = q.map PT.val ∧ q.map PT.pr = prs.take (3 * i + k) ∧ (∃ t, m xm = some (.int ((1 + i : Nat) : Int) t)) ∧ ∀ p ∈ q, h.get? p.addr = some p.obj ∧ p.addr ≠ C ∧ p.addr ≠ D ∧ @LE.le Nat _ (s.heap.objs.size + 1) p.addr ∧ p.addr ∉ [h₅.objs.size]) ?_ (hst h₅ _ fun _ _ e => e) (hn₄.keeps fun b o e => up5 _ e) (hpl₄.at fun o e => up5 _ e) ?_ ?_ ?_
        · rintro k ys m h h' ⟨q, rfl, hq, hm, hall⟩ hk'
          exact ⟨q, rfl, hq, hm, fun p hp => ⟨hk' _ _ (hall p hp).2.1 (hall p hp).2.2.1 (hall p hp).2.2.2.2 (hall p hp).1, (hall p hp).2⟩⟩
        · exact ⟨q, rfl, hq, ⟨tm, by rw [hmm]; simp⟩, fun p hp => ⟨up5 _ (hall p hp).1, (hall p hp).2.1, (hall p hp).2.2.1, (hall p hp).2.2.2, hlt5 (hall p hp).1⟩⟩
        · intro k h₇ tk₇ m₆ m₇ ys K' hk3 hBd hJ hsame' hn₇ hpl₇ hst₇ hk₇ hK'
          obtain ⟨_, ⟨tn, rfl⟩, hmn'⟩ := hBd
          obtain ⟨q', rfl, hq', ⟨tm', hm'⟩, hall'⟩ := hJ
          have hmx : m₇ xm = some (.int ((1 + i : Nat) : Int) tm') := by rw [hsame' xm (by simp [hmn])]; exact hm'
          have F₇ : Fr s.heap C h₇ m₇ := ⟨hn₇, fun b o e => by
            have e4 := old hk₄ e
            refine hk₇ b o (fun q => ?_) (fun q => ?_) (hlt5 e4) (up5 _ e4)
            · have hlt : @LT.lt Nat _ b s.heap.objs.size := Heap.lt_size e
              have q' : @Eq Nat b C := q
              omega
            · have hlt : @LT.lt Nat _ b s.heap.objs.size := Heap.lt_size e
              have q' : @Eq Nat b D := q
              omega, Nat.le_of_succ_le hC⟩
          have hI7 : @LT.lt Nat _ h₅.objs.size h₇.objs.size := Heap.lt_size (show h₇.get? h₅.objs.size = some _ from hst₇)
          have hC7 : @LT.lt Nat _ C h₇.objs.size := by obtain ⟨o, _, _, ho, _⟩ := hn₇; exact Heap.lt_size ho
          have hD7 := plain_lt hpl₇
          refine wpAny_mono (helt C _ m₇ _ _ _ _ _ hmx hmn' F₇) (fun xv s₈ h₈ => ?_) fun _ _ e => e
          obtain ⟨h₈, tk₈, T, rfl, rfl, hT, hTs, hk₈⟩ := h₈
          have hTs' : @LE.le Nat _ h₇.objs.size T := hTs
          refine plain_append (hpl₇.at fun o e => hk₈ _ o e) ?_ fun h₉ hpl₉ hk₉ => ?_
          · have hl := congrArg List.length hq'
            rw [List.length_map] at hl
            rw [List.length_map, hl, sizeLine_eq]
            exact Nat.le_trans (List.length_take_le' _ _) (by decide)
          have hTD : T ≠ D := fun q => by
            have q' : @Eq Nat T D := q
            omega
          have hTC : T ≠ C := fun q => by
            have q' : @Eq Nat T C := q
            omega
          refine hK' _ ⟨h₉, _, m₇, q'.map PT.val ++ [.ref T], rfl, (hn₇.keeps hk₈).at' fun o e => hk₉ _ o (Ne.symm hDC) e, hpl₉, ⟨q' ++ [⟨T, 1 + i, 1 + k, tm', tn⟩], by simp [PT.val], ?_, ⟨tm', hmx⟩, ?_⟩, fun b o h1 h2 e => hk₉ b o h2 (hk₈ b o e)⟩
          · rw [List.map_append, hq', prs_next i hi k hk3]; rfl
          · intro p hp
            rcases List.mem_append.mp hp with hp | hp
            · have z := hall' p hp
              exact ⟨hk₉ _ _ z.2.2.1 (hk₈ _ _ z.1), z.2⟩
            · rcases List.mem_singleton.mp hp with rfl
              refine ⟨hk₉ _ _ hTD (hT.trans ?_), hTC, hTD, ?_, ?_⟩
              · simp [PT.obj]
              · show @LE.le Nat _ (s.heap.objs.size + 1) T
                omega
              · intro hb
                simp only [List.mem_cons, List.not_mem_nil, or_false] at hb
                have q' : @Eq Nat T h₅.objs.size := hb
                omega
        · intro h' tk'' m' ys hn' hpl' hJ' hk'
          obtain ⟨q', rfl, hq', _, hall'⟩ := hJ'
          exact hR' h' tk'' m' _ hn' hpl' ⟨q', rfl, hq', fun p hp => ⟨(hall' p hp).1, (hall' p hp).2.1, (hall' p hp).2.2.1, (hall' p hp).2.2.2.1⟩⟩ fun b o h1 h2 e => hk' b o h1 h2 (hlt5 e) (up5 _ e)
      refine start_in (loop2 _ _ fun h' tk' m' ys hn' hpl' hJ' hk' => ?_) (T₂.self 0 _ _ _ (hst h₅ _ fun _ _ e => e) (loop2 _ _ fun h' tk' m' ys hn' hpl' hJ' hk' => ?_))
      · exact hK _ ⟨h', tk', m', ys, rfl, hn', hpl', hJ', hk'⟩
      · exact hK _ ⟨h', tk', m', ys, rfl, hn', hpl', hJ', hk'⟩
    · intro h' tk' m' ys hn' hpl' hJ' hk'
      obtain ⟨q, rfl, hq, hall⟩ := hJ'
      refine hR h' tk' m' _ (q.map PT.ent) hn' hpl' ⟨q, rfl, rfl, hq⟩ (fun p hp => ?_) fun b o hw e => ?_
      · obtain ⟨p', hp', rfl⟩ := List.mem_map.mp hp
        refine ⟨(hall p' hp').1, (hall p' hp').2.1, (hall p' hp').2.2.1, ?_⟩
        show @LE.le Nat _ (Heap.push _ _).objs.size _
        rw [Heap.size_push]
        exact (hall p' hp').2.2.2
      · have hlt : @LT.lt Nat _ b _ := Heap.lt_size e
        rw [Heap.size_push] at hlt
        refine hk' b o (fun q => ?_) (fun q => ?_) hw (hk b o e)
        · have q' : @Eq Nat b C := q
          omega
        · have q' : @Eq Nat b D := q
          omega
  exact codeAny_compStart_list (loop _) (T₁.self 0 _ _ _ (hst s.heap h₃ hk) (loop _))
end Mine
end
-- part B12
section
open PySem PySem.W PyProof.Rows PySem.SeqAt
set_option Elab.async false
set_option maxRecDepth 100000
set_option maxHeartbeats 4000000
set_option linter.unusedVariables false
namespace Mine
def strsD (l : List Str) : List PyData := l.map PyData.str
theorem readsAll_strs {h : Heap} : ∀ lq : List (Str × Tok), ReadsAll h (strValues lq) (strsD (lq.map (·.1))) []
  | [] => .nil
  | (x, t) :: r => by
    have := ReadsAll.cons (Reads.str (h := h) x t) (readsAll_strs (h := h) r)
    simpa [strValues, strsD] using this
theorem reads_strs {h : Heap} {a : Addr} {lq : List (Str × Tok)} (hl : h.IsList a (strValues lq).toArray) : Reads h (.ref a) (.list (strsD (lq.map (·.1)))) [a] := by
  obtain ⟨o, ho, hc, n, hd⟩ := hl
  exact Reads.list ho hc hd (by simpa using readsAll_strs lq)
def AllOk (l : List Str) : Prop := ∀ x ∈ l, PyData.strOk x = true
theorem canLay_strs : ∀ l : List Str, AllOk l → PyData.canLayAll0 (strsD l) = true
  | [], _ => by simp [strsD, PyData.canLayAll0]
  | n :: r, h => by
    have := canLay_strs r fun x hx => h x (.tail _ hx)
    simp [strsD, PyData.canLayAll0, PyData.canLay0] at this ⊢
    exact ⟨h n (.head _), this⟩
theorem depth_strs : ∀ l : List Str, PyData.depthAll (strsD l) ≤ 1
  | [] => by simp [strsD, PyData.depthAll]
  | n :: r => by
    have := depth_strs r
    simp only [strsD, List.map_cons, PyData.depthAll, PyData.depth] at this ⊢
    omega
theorem shaped_strs (l : List Str) (h : AllOk l) : shaped (.list (strsD l)) = true := by
  have h1 := depth_strs l
  have h2 : PyData.depth (.list (strsD l)) ≤ 64 := by simp only [PyData.depth]; omega
  show (PyData.canLay0 (.list (strsD l)) && decide (PyData.depth (.list (strsD l)) ≤ 64)) = true
  rw [Bool.and_eq_true]
  exact ⟨by simp only [PyData.canLay0]; exact canLay_strs l h, decide_eq_true h2⟩
theorem noMix_strs : ∀ a b : List Str, noMixAll (strsD a) (strsD b) = true
  | [], [] => by simp [strsD, noMixAll]
  | [], _ :: _ => by simp [strsD, noMixAll]
  | _ :: _, [] => by simp [strsD, noMixAll]
  | _ :: r, _ :: q => by
    have := noMix_strs r q
    simp only [strsD, List.map_cons, noMixAll, noMix, Bool.true_and] at this ⊢
    exact this
theorem same_strs : ∀ a b : List Str, PySem.Spec.sameAll (strsD a) (strsD b) = decide (a = b)
  | [], [] => by simp [strsD, PySem.Spec.sameAll]
  | [], _ :: _ => by simp [strsD, PySem.Spec.sameAll]
  | _ :: _, [] => by simp [strsD, PySem.Spec.sameAll]
  | n :: r, k :: q => by
    have := same_strs r q
    simp only [strsD, List.map_cons, PySem.Spec.sameAll, PySem.Spec.same] at this ⊢
    rw [this]
    by_cases h : n = k <;> simp [h]

/-- pairs of ints as data -/
def pairD (p : Nat × Nat) : PyData := .tuple [.int (p.1 : Int), .int (p.2 : Int)]
theorem reads_pair {h : Heap} {p : PT} (ht : h.get? p.addr = some p.obj) : Reads h p.val (pairD p.pr) [] := by
  have := Reads.tuple (h := h) (a := p.addr) ht rfl (n := 0) (vs := #[.int (p.a : Int) p.ta, .int (p.b : Int) p.tb]) rfl (ReadsAll.cons (Reads.int (h := h) (p.a : Int) p.ta) (ReadsAll.cons (Reads.int (h := h) (p.b : Int) p.tb) .nil))
  simpa [pairD, PT.pr, PT.val] using this
theorem readsAll_pairs {h : Heap} : ∀ q : List PT, (∀ p ∈ q, h.get? p.addr = some p.obj) → ∃ as, ReadsAll h (q.map PT.val) ((q.map PT.pr).map pairD) as
  | [], _ => ⟨[], .nil⟩
  | p :: r, hq => by
    obtain ⟨as, h1⟩ := readsAll_pairs r fun x hx => hq x (.tail _ hx)
    exact ⟨_, ReadsAll.cons (reads_pair (hq p (.head _))) h1⟩
theorem reads_pairs {h : Heap} {a : Addr} {q : List PT} (hl : h.IsList a (q.map PT.val).toArray) (hq : ∀ p ∈ q, h.get? p.addr = some p.obj) : ∃ as, Reads h (.ref a) (.list ((q.map PT.pr).map pairD)) as := by
  obtain ⟨o, ho, hc, n, hd⟩ := hl
  obtain ⟨as, h1⟩ := readsAll_pairs q hq
  exact ⟨_, Reads.list ho hc hd (by simpa using h1)⟩
theorem canLay_pairs : ∀ l : List (Nat × Nat), PyData.canLayAll0 (l.map pairD) = true
  | [] => by simp [PyData.canLayAll0]
  | n :: r => by
    have := canLay_pairs r
    simp [PyData.canLayAll0, PyData.canLay0, pairD] at this ⊢
    exact this
theorem depth_pairs : ∀ l : List (Nat × Nat), PyData.depthAll (l.map pairD) ≤ 3
  | [] => by simp [PyData.depthAll]
  | n :: r => by
    have := depth_pairs r
    simp only [List.map_cons, PyData.depthAll, PyData.depth, pairD] at this ⊢
    omega
theorem shaped_pairs (l : List (Nat × Nat)) : shaped (.list (l.map pairD)) = true := by
  have h1 := depth_pairs l
  have h2 : PyData.depth (.list (l.map pairD)) ≤ 64 := by simp only [PyData.depth]; omega
  show (PyData.canLay0 (.list (l.map pairD)) && decide (PyData.depth (.list (l.map pairD)) ≤ 64)) = true
  rw [Bool.and_eq_true]
  exact ⟨by simp only [PyData.canLay0]; exact canLay_pairs l, decide_eq_true h2⟩
theorem noMix_pairs : ∀ a b : List (Nat × Nat), noMixAll (a.map pairD) (b.map pairD) = true
  | [], [] => by simp [noMixAll]
  | [], _ :: _ => by simp [noMixAll]
  | _ :: _, [] => by simp [noMixAll]
  | _ :: r, _ :: q => by
    have := noMix_pairs r q
    simp only [List.map_cons, noMixAll, noMix, Bool.true_and, pairD] at this ⊢
    exact this
theorem same_pairs : ∀ a b : List (Nat × Nat), PySem.Spec.sameAll (a.map pairD) (b.map pairD) = decide (a = b)
  | [], [] => by simp [PySem.Spec.sameAll]
  | [], _ :: _ => by simp [PySem.Spec.sameAll]
  | _ :: _, [] => by simp [PySem.Spec.sameAll]
  | (a, b) :: r, (c, d) :: q => by
    have ih := same_pairs r q
    have e : PySem.Spec.same (pairD (a, b)) (pairD (c, d)) = decide ((a, b) = (c, d)) := by
      simp only [pairD, PySem.Spec.same, PySem.Spec.sameAll, Bool.and_true]
      rw [Bool.eq_iff_iff]
      simp
      omega
    simp only [List.map_cons, PySem.Spec.sameAll]
    rw [ih, e]
    rw [Bool.eq_iff_iff]
    simp

section
variable {w : World} {A : Around} {E : Value → Shared → Prop} {s : Shared}
theorem ne_strs {a b : Addr} {l₁ l₂ : List (Str × Tok)} {Q : Value → Shared → Prop} (hl : s.heap.IsList a (strValues l₁).toArray) (hl' : s.heap.IsList b (strValues l₂).toArray) (ok₁ : AllOk (l₁.map (·.1))) (ok₂ : AllOk (l₂.map (·.1))) (hu : A.units + 64 < cLine)
    (h : Q (.bool (!decide (l₁.map (·.1) = l₂.map (·.1)))) s) : wpAny (model PP w) A (compareOp .NotEq (.ref a) (.ref b)) Q E s :=
  ne_dataH_same (reads_strs hl) (reads_strs hl') (shaped_strs _ ok₁) (shaped_strs _ ok₂) hu (by simp only [noMix]; exact noMix_strs _ _) (by simp only [PySem.Spec.same]; rw [same_strs]; exact h)
theorem eq_pairs {a b : Addr} {q₁ q₂ : List PT} {Q : Value → Shared → Prop} (hl : s.heap.IsList a (q₁.map PT.val).toArray) (hl' : s.heap.IsList b (q₂.map PT.val).toArray) (h1 : ∀ p ∈ q₁, s.heap.get? p.addr = some p.obj) (h2 : ∀ p ∈ q₂, s.heap.get? p.addr = some p.obj) (hu : A.units + 64 < cLine)
    (h : Q (.bool (decide (q₁.map PT.pr = q₂.map PT.pr))) s) : wpAny (model PP w) A (compareOp .Eq (.ref a) (.ref b)) Q E s := by
  obtain ⟨as, r1⟩ := reads_pairs hl h1
  obtain ⟨bs, r2⟩ := reads_pairs hl' h2
  exact eq_dataH_same r1 r2 (shaped_pairs _) (shaped_pairs _) hu (by simp only [noMix]; exact noMix_pairs _ _) (by simp only [PySem.Spec.same]; rw [same_pairs]; exact h)
end
end Mine
end
-- part B13
section
local macro_rules | `(tactic| walk_at "pad") => `(tactic| skip)
local macro_rules | `(tactic| walk_at "pad") => `(tactic| skip)
local macro_rules | `(tactic| walk_at "pad") => `(tactic| skip)
local macro_rules | `(tactic| walk_at "pad") => `(tactic| skip)
local macro_rules | `(tactic| walk_at "pad") => `(tactic| skip)
local macro_rules | `(tactic| walk_at "pad") => `(tactic| skip)
local macro_rules | `(tactic| walk_at "pad") => `(tactic| skip)
local macro_rules | `(tactic| walk_at "pad") => `(tactic| skip)
local macro_rules | `(tactic| walk_at "pad") => `(tactic| skip)
local macro_rules | `(tactic| walk_at "pad") => `(tactic| skip)
local macro_rules | `(tactic| walk_at "pad") => `(tactic| skip)
local macro_rules | `(tactic| walk_at "pad") => `(tactic| skip)
local macro_rules | `(tactic| walk_at "pad") => `(tactic| skip)
local macro_rules | `(tactic| walk_at "pad") => `(tactic| skip)
open PySem PySem.W PyProof.Rows
set_option Elab.async false
set_option maxRecDepth 100000
set_option maxHeartbeats 4000000
set_option linter.unusedVariables false
namespace Mine

theorem runs_toks {M : Model} {Γ : Ctx} {p : Pos} {t : Sem Fin} {fs : List Frame} {s : Shared} {e : End} {s' : Shared} (r : Runs M Γ p t fs s e s') : s.toks ≤ s'.toks := by
  induction r
  all_goals (try simp only [Shared.setGen] at *)
  all_goals (try dsimp only at *)
  all_goals omega

theorem wakes_toks {M : Model} {Γ : Ctx} {p : Pos} {g : Nat} {r : Resume} {s : Shared} {res : GenResult} {s' : Shared} (h : Wakes M Γ p g r s res s') : s.toks ≤ s'.toks := by
  unfold Wakes at h
  split at h
  · exact h.elim
  · split at h
    · obtain ⟨e₁, s₁, hr, _, _, rfl⟩ := h
      have := runs_toks hr
      simpa [Shared.setGen] using this
    · rw [h.2]; exact Nat.le_refl _
    · rw [h.2]; exact Nat.le_refl _
  · obtain ⟨e₁, s₁, hr, _, _, rfl⟩ := h
    have := runs_toks hr
    simpa [Shared.setGen] using this
  · rw [h.2]; exact Nat.le_refl _
  · rw [h.2]; exact Nat.le_refl _

theorem wp_toks {α : Type} {M : Model} {Γ : Ctx} {Q : α → Pos → Shared → Prop} {E : Value → Pos → Shared → Prop} {n : Nat} (t : Sem α) : ∀ p s, n ≤ s.toks → Sem.wp M Γ t Q E p s → Sem.wp M Γ t (fun a p' s' => Q a p' s' ∧ n ≤ s'.toks) E p s := by
  induction t with
  | pure a => intro p s hn h; rw [Sem.wp] at h ⊢; exact ⟨h, hn⟩
  | raise e => intro p s hn h; rw [Sem.wp] at h ⊢; exact h
  | unsupported w => intro p s hn h; rw [Sem.wp] at h; exact h.elim
  | finish e => intro p s hn h; rw [Sem.wp] at h; exact h.elim
  | rule t k ih => intro p s hn h; rw [Sem.wp] at h ⊢; exact ih _ _ _ hn h
  | «at» p' k ih => intro p s hn h; rw [Sem.wp] at h ⊢; exact ih _ _ _ hn h
  | load a part k ih => intro p s hn h; rw [Sem.wp] at h ⊢; obtain ⟨o, h1, h2⟩ := h; exact ⟨o, h1, ih _ _ _ hn h2⟩
  | update a part f k ih => intro p s hn h; rw [Sem.wp] at h ⊢; exact ⟨h.1, ih () p { s with heap := s.heap.update a f } hn h.2⟩
  | loadIfAlive a k ih => intro p s hn h; rw [Sem.wp] at h ⊢; exact ih _ _ _ hn h
  | point l k ih => intro p s hn h; rw [Sem.wp] at h ⊢; exact ih _ _ _ hn h
  | register a k ih => intro p s hn h; rw [Sem.wp] at h; exact h.elim
  | alloc o k ih => intro p s hn h; rw [Sem.wp] at h ⊢; exact ih _ p { s with heap := s.heap.push o } hn h
  | fresh k ih => intro p s hn h; rw [Sem.wp] at h ⊢; exact ih _ p { s with toks := s.toks + 1 } (Nat.le_succ_of_le hn) h
  | ask k ih => intro p s hn h; rw [Sem.wp] at h ⊢; exact ih _ _ _ hn h
  | choose src m k ih => intro p s hn h; rw [Sem.wp] at h ⊢; exact ⟨h.1, ih _ p { s with drawn := s.drawn.bump src } hn h.2⟩
  | os q l k ih => intro p s hn h; rw [Sem.wp] at h ⊢; exact ih _ p { s with os := (Os.step s.os q).1 } hn h
  | call c hd g l k ih =>
    intro p s hn h
    rw [Sem.wp] at h ⊢
    obtain ⟨r, s', hr, h2⟩ := h
    exact ⟨r, s', hr, ih _ _ _ (Nat.le_trans hn (runs_toks hr)) h2⟩
  | handled own k ih => intro p s hn h; rw [Sem.wp] at h ⊢; exact ih _ _ _ hn h
  | genState g k ih => intro p s hn h; rw [Sem.wp] at h ⊢; obtain ⟨st, h1, h2⟩ := h; exact ⟨st, h1, ih _ _ _ hn h2⟩
  | newGen c k ih => intro p s hn h; rw [Sem.wp] at h ⊢; exact ih _ p { s with gens := s.gens.push (.fresh c) } hn h
  | resume g r l k ih =>
    intro p s hn h
    rw [Sem.wp] at h ⊢
    obtain ⟨res, s', hw, h2⟩ := h
    exact ⟨res, s', hw, ih _ _ _ (Nat.le_trans hn (wakes_toks hw)) h2⟩
  | yield v g l k ih => intro p s hn h; rw [Sem.wp] at h; exact h.elim
  | stack k ih => intro p s hn h; rw [Sem.wp] at h ⊢; exact ih _ _ _ hn h
  | fork c k ih => intro p s hn h; rw [Sem.wp] at h; exact h.elim
  | thread k ih => intro p s hn h; rw [Sem.wp] at h ⊢; exact ih _ _ _ hn h
  | await a f d l k ih => intro p s hn h; rw [Sem.wp] at h; exact h.elim

/-- tokens only grow -/
theorem toks_intro {α : Type} {M : Model} {A : Around} {t : Sem α} {Q : α → Shared → Prop} {E : Value → Shared → Prop} {s : Shared} (n : Nat) (hn : n ≤ s.toks) (h : wpAny M A t (fun a s' => n ≤ s'.toks → Q a s') E s) : wpAny M A t Q E s :=
  fun Γ p hΓ => Sem.wp_mono M Γ t (fun a _ s' x => x.1 x.2) (fun _ _ _ x => x) p s (wp_toks t p s hn (h Γ p hΓ))
end Mine
end
-- part L1
section
open PySem PySem.W PyProof.Rows
set_option Elab.async false
set_option maxRecDepth 100000
set_option maxHeartbeats 4000000
set_option pp.deepTerms false
set_option pp.deepTerms.threshold 5
set_option pp.maxSteps 20000
set_option linter.unusedSimpArgs false
set_option linter.unusedVariables false
namespace Mine
theorem News.tail {h₀ h : Heap} {L : Addr} {p : Addr × Obj} {news : List (Addr × Obj)} (N : News h₀ L h (p :: news)) : News h₀ L h news := fun q hq => N q (.tail _ hq)
theorem News.two {h₀ h : Heap} {L : Addr} {p q : Addr × Obj} {news : List (Addr × Obj)} (N : News h₀ L h (p :: q :: news)) : News h₀ L h (p :: news) := fun r hr => by
  rcases List.mem_cons.mp hr with rfl | hr
  · exact N _ (.head _)
  · exact N _ (.tail _ (.tail _ hr))
theorem nmC2 {M : Model} {A : Around} {E : Value → Shared → Prop} {s : Shared} {env : Env} {h₀ : Heap} {L : Addr} {x : Str} {pos : Pos} {v : Value} {c : Addr} {o : Obj} {news : List (Addr × Obj)} {Q : Value → Shared → Prop} (hc : env.cells.lookup x = some c) (N : News h₀ L s.heap news) (hm : (c, o) ∈ news) (hd : o.data = .cell (some v)) (h : Q v s)
    (hk : env.scope.kind = .function := by rfl) (hx : env.kindOf x = some .cell := by rfl) (hb : (x == ("__debug__" : Str)) = false := by decide) :
    wpAny M A (eval (.Name x pos) env) Q E s := nmC ⟨o, (N _ hm).1, hd⟩ hc h hk hx hb
theorem News.cellIn {h₀ h : Heap} {L c : Addr} {o : Obj} {v : Option Value} {news : List (Addr × Obj)} (N : News h₀ L h news) (hm : (c, o) ∈ news) (hd : o.data = .cell v) : h.IsCell c v := ⟨o, (N _ hm).1, hd⟩
local macro_rules | `(tactic| walk_at "eval Name") => `(tactic| first
  | refine nmL (by assumption) (by first | rfl | assumption) ?_
  | refine nmC2 rfl (by assumption) (by news_mem) (by assumption) ?_
  | refine nmG (by assumption) (by assumption) (by first | exact gl_twin_re_1 _ | exact gl_twin_re_2 _ | exact gl_CRLF _ | exact gl_quotedata _ | exact gl_fix_eols _ | exact gl_parse_varint _ | exact gl_law_numbers _ | exact gl_law_word _ | exact gl_law_spelled _ | exact gl_law_mails _ | exact gl_law_sent _ | exact gl_law_octets _ | exact gl_law_value _ | exact gl_law_primes _) ?_
  | refine nmB (by assumption) (by assumption) (by first | exact gb_next _ | exact gb_enumerate _ | exact gb_chr _ | exact gb_ord _ | exact gb_len _ | exact gb_sum _ | exact gb_range _ | exact gb_iter _ | exact gb_StopIteration _) (by boot_fast) ?_)
local macro_rules | `(tactic| walk_at "storeName") => `(tactic| (refine storeX_L (by assumption) (by assumption) ?_; intro h' F' N'; dsimp only at F' N' ⊢))

local macro_rules | `(tactic| walk_at "loadName") => `(tactic| refine wpAny_loadName_local rfl rfl (Fr.ns (by assumption)) (by first | rfl | assumption) ?_)
local macro_rules | `(tactic| walk_at "callWith ref") => `(tactic| refine callWith_K (Gd.X (by assumption)) (by kernel_rfl) ?_)
local macro_rules | `(tactic| walk_at "And") => `(tactic| ((with_reducible show Frag.In _ _ ∧ _); refine ⟨Frag.In.keeps (Gd.X (by assumption)) (Fr.keep (by assumption)), ?_⟩; (try dsimp only [List.nil_append, List.cons_append])))
local macro_rules | `(tactic| walk_at "eval ListComp") => `(tactic| refine lc (by with_unfolding_all first | exact closureFor_none (by decide) | rfl) (by decide) (by with_unfolding_all rfl) (by decide) ?_ (by intro _; with_unfolding_all rfl))


local macro_rules | `(tactic| news_mem) => `(tactic| first | exact .head _ | (refine .tail _ ?_; news_mem))

def lawBody : List Stmt := match PP.main.body.getLast? with
  | some (.FunctionDef _ _ body _ _ _ _ _ _ _) => body
  | _ => []
def lawScope : Scope := match PP.main.body.getLast? with
  | some (.FunctionDef _ _ _ _ _ _ scope _ _ _) => scope
  | _ => default
abbrev lawEnv (L fa : Addr) (cd : Value) : Env := envX "law" lawScope L fa cd (cellsFrom (L + 1) lawScope.names [])

theorem execs_as {M : Model} {A : Around} {l l' : List Stmt} {env : Env} {Q : Flow → Shared → Prop} {E : Value → Shared → Prop} {s : Shared} (h : l = l') (k : wpAny M A (execs l' env) Q E s) : wpAny M A (execs l env) Q E s := h ▸ k

theorem stC {w : World} {A : Around} {E : Value → Shared → Prop} {s : Shared} {env : Env} {h₀ : Heap} {L c : Addr} {m : Str → Option Value} {news : List (Addr × Obj)} {x : Str} {v : Value} {v₀ : Option Value} {o : Obj} {Q : Unit → Shared → Prop} (rest : List (Addr × Obj))
    (F : Fr h₀ L s.heap m) (N : News h₀ L s.heap news) (hm : (c, o) ∈ news) (hd : o.data = .cell v₀) (hsub : ∀ p ∈ rest, p ∈ news ∧ (p.1 ≠ c ∨ ∃ items k, p.2.data = .seq items k)) (hc : env.cells.lookup x = some c)
    (h : ∀ h' o', Fr h₀ L h' m → o'.data = .cell (some v) → News h₀ L h' ((c, o') :: rest) → Q () { s with heap := h' })
    (hk : env.scope.kind = .function := by rfl) (hx : env.kindOf x = some .cell := by rfl) : wpAny (model PP w) A (storeName env x v) Q E s := by
  have hz := N _ hm
  refine store_cell F hc ⟨o, hz.1, hd⟩ hz.2.1 hz.2.2 (fun h' o' F' ho' hd' hk' => h h' o' F' hd' fun p hp => ?_) hk hx
  rcases List.mem_cons.mp hp with rfl | hp
  · exact ⟨ho', hz.2⟩
  · obtain ⟨h1, h2⟩ := hsub p hp
    refine ⟨hk' _ _ (fun q => ?_) (N p h1).1, (N p h1).2⟩
    rcases h2 with h2 | ⟨items, k, h2⟩
    · exact h2 q
    · have h3 := (N p h1).1
      rw [q, hz.1] at h3
      rw [← Option.some.inj h3, hd] at h2
      cases h2

theorem callerA_room : callerA.depth + 10 < recursionLimit := by decide +kernel
theorem callerA_units : callerA.units + 200 < cLine := by decide +kernel


theorem segA {w : World} {s : Shared} {fa a : Addr} {cd : Value} {h₁ : Heap} {tk : Nat} {m : Str → Option Value} {o1 o2 o3 o4 o5 o6 o7 : Obj} {vs : List Value} {ns : List Int} {E : Value → Shared → Prop} {Q : Flow → Shared → Prop} (G : Gd w s.heap)
    (F : Fr s.heap s.heap.objs.size h₁ m) (N : News s.heap s.heap.objs.size h₁ [(s.heap.objs.size + 7, o7), (s.heap.objs.size + 6, o6), (s.heap.objs.size + 5, o5), (s.heap.objs.size + 4, o4), (s.heap.objs.size + 3, o3), (s.heap.objs.size + 2, o2), (s.heap.objs.size + 1, o1)])
    (d1 : o1.data = .cell none) (d2 : o2.data = .cell none) (d3 : o3.data = .cell none) (d4 : o4.data = .cell none) (d5 : o5.data = .cell none) (d6 : o6.data = .cell none) (d7 : o7.data = .cell none)
    (hm : m "script" = some (.ref a)) (hl : s.heap.IsList a vs.toArray) (hi : IntsAre vs ns) (hn : ns.length ≤ 63)
    (hQ : ∀ h' tk m' p1 p2 p3 p4 u v x y tu tv tx ty, Fr s.heap s.heap.objs.size h' m' → News s.heap s.heap.objs.size h' [(s.heap.objs.size + 4, p4), (s.heap.objs.size + 3, p3), (s.heap.objs.size + 2, p2), (s.heap.objs.size + 7, o7), (s.heap.objs.size + 6, o6), (s.heap.objs.size + 5, o5), (s.heap.objs.size + 1, p1)] →
      p1.data = .cell (some (.str (S u) tu)) → p2.data = .cell (some (.str (S v) tv)) → p3.data = .cell (some (.str (S x) tx)) → p4.data = .cell (some (.str (S y) ty)) → u ≠ [] → v ≠ [] → u.length ≤ 5 → v.length ≤ 5 → (∀ c ∈ u, c < 64 ∧ c ≠ 13) → (∀ c ∈ v, c < 64 ∧ c ≠ 13) →
      fixF false x = phi u → fixF false y = phi v → x.length ≤ 11 → y.length ≤ 11 → Okx x y → 1 ≤ tk →
      wpAny (model PP w) (callerA.deeper (lawEnv s.heap.objs.size fa cd)) (execs (lawBody.drop 4) (lawEnv s.heap.objs.size fa cd)) Q E { s with heap := h', toks := tk }) :
    wpAny (model PP w) (callerA.deeper (lawEnv s.heap.objs.size fa cd)) (execs lawBody (lawEnv s.heap.objs.size fa cd)) Q E { s with heap := h₁, toks := tk } := by
  refine execs_as (l' := _ :: _) rfl ?_
  have rm := callerA_room
  iterate 9 walk1
  refine wpAny_mono (numbers_spec (G.keeps F.keep) (by show callerA.depth + 1 < _; omega) rfl (isList_up hl F.keep) hi hn) (fun v s' r => ?_) (fun _ _ x => x)
  obtain ⟨⟨an, on, kn, ni, rfl, hon, hoc, hod, hnn, ms, hms, hm10⟩, h₂, tk₂, rfl, k₂⟩ := r
  replace N := news_add F N k₂ hon hnn
  replace F := fr_up F k₂
  dsimp only at F N ⊢
  refine storeX_L F N (fun h₃ F N => ?_)
  dsimp only at F N ⊢
  iterate 13 walk1
  have hlen : ni.length = 10 := by rw [← hm10]; exact IntsAre.length hms
  refine slice_list F N ⟨_, (N _ (.head _)).1, hoc, _, hod⟩ .none (.int _ _) (fun h₄ F N => ?_) (hsz := by rw [List.size_toArray, hlen, sizeLine_eq]; omega)
  walk1
  refine ⟨G.X.keeps F.keep, ?_⟩
  have hs1 := slice_ints_uptoW hms (y := 5) (by omega)
  refine wpAny_mono (word_spec (vs := (slicePick ni.toArray none (some 5) none).toList) (G.keeps F.keep) (by show callerA.depth + 1 < _; omega) rfl (by rw [Array.toArray_toList]; exact News.isList N (.head _)) hs1 (by rw [List.length_take]; exact Nat.min_le_left _ _)) (fun v s' r => ?_) (fun _ _ x => x)
  obtain ⟨⟨u, tu, rfl, hu0, hu5, huc⟩, h₅, tk₅, rfl, k₅⟩ := r
  replace N := news_up (News.tail N) k₅
  replace F := fr_up F k₅
  dsimp only at F N ⊢
  refine stC [(an, on), (s.heap.objs.size + 7, o7), (s.heap.objs.size + 6, o6), (s.heap.objs.size + 5, o5), (s.heap.objs.size + 4, o4), (s.heap.objs.size + 3, o3), (s.heap.objs.size + 2, o2)] F N (c := s.heap.objs.size + 1) (o := o1) (by news_mem) d1 ?_ rfl (fun h₆ o1' F d1' N => ?_)
  · intro p hp
    simp only [List.mem_cons, List.not_mem_nil, or_false] at hp
    rcases hp with rfl | rfl | rfl | rfl | rfl | rfl | rfl
    · exact ⟨by news_mem, .inr ⟨_, _, hod⟩⟩
    all_goals exact ⟨by news_mem, .inl (by simp)⟩
  clear d1 k₂ k₅
  iterate 13 walk1
  refine toks_intro 1 (Nat.le_add_left 1 _) ?_
  refine slice_list F N ⟨_, (N _ (.tail _ (.head _))).1, hoc, _, hod⟩ (.int _ _) .none (fun h₇ F N hk1 => ?_) (hsz := by rw [List.size_toArray, hlen, sizeLine_eq]; omega)
  walk1
  refine ⟨G.X.keeps F.keep, ?_⟩
  refine toks_intro 1 hk1 ?_
  have hs2 := slice_ints_fromW hms (x := 5) (by omega)
  refine wpAny_mono (word_spec (vs := (slicePick ni.toArray (some 5) none none).toList) (G.keeps F.keep) (by show callerA.depth + 1 < _; omega) rfl (by rw [Array.toArray_toList]; exact News.isList N (.head _)) hs2 (by rw [List.length_drop, hm10]; decide)) (fun v s' r => ?_) (fun _ _ x => x)
  obtain ⟨⟨v, tv, rfl, hv0, hv5, hvc⟩, h₈, tk₈, rfl, k₈⟩ := r
  intro hk8
  dsimp only at hk8
  replace N := news_up (News.tail N) k₈
  replace F := fr_up F k₈
  dsimp only at F N ⊢
  refine stC [(an, on), (s.heap.objs.size + 7, o7), (s.heap.objs.size + 6, o6), (s.heap.objs.size + 5, o5), (s.heap.objs.size + 4, o4), (s.heap.objs.size + 3, o3), (s.heap.objs.size + 1, o1')] F N (c := s.heap.objs.size + 2) (o := o2) (by news_mem) d2 ?_ rfl (fun h₉ o2' F d2' N => ?_)
  · intro p hp
    simp only [List.mem_cons, List.not_mem_nil, or_false] at hp
    rcases hp with rfl | rfl | rfl | rfl | rfl | rfl | rfl
    · exact ⟨by news_mem, .inr ⟨_, _, hod⟩⟩
    all_goals exact ⟨by news_mem, .inl (by simp)⟩
  clear d2 k₈
  walk1
  refine Assign_Tuple ?_
  iterate 14 walk1
  refine toks_intro 1 hk8 ?_
  refine sum_K rfl ⟨_, (N _ (.tail _ (.head _))).1, hoc, _, hod⟩ hms fun h' tk' t' k₉ hk9 => ?_
  replace N := news_up (News.two N) k₉
  replace F := fr_up F k₉
  dsimp only at F N ⊢
  walk1
  refine ⟨G.X.keeps F.keep, ?_⟩
  (try dsimp only [List.nil_append, List.cons_append])
  refine toks_intro 1 hk9 ?_
  refine wpAny_mono (mails_spec (G.keeps F.keep) (by show callerA.depth + 1 + 1 < _; omega) rfl hu0 hv0 hu5 hv5 (fun c hc => (huc c hc).2) (fun c hc => (hvc c hc).2)) (fun vm s' r => ?_) (fun _ _ x => x)
  obtain ⟨⟨am, om, km, im, rfl, hom, homc, homd, hmn, x, y, tx, ty, rfl, hfx, hfy, hlx, hly, hok⟩, h₁₀, tk₁₀, rfl, k₁₀⟩ := r
  intro hk10
  dsimp only at hk10
  replace N := news_add F N k₁₀ hom hmn
  replace F := fr_up F k₁₀
  dsimp only at F N ⊢
  refine kun_list F N ⟨_, (N _ (.head _)).1, homc, _, homd⟩ rfl rfl rfl (fun h₁₁ F N => ?_)
  replace N := News.tail N
  walk1
  refine wpAny_assign_Name (stC [(s.heap.objs.size + 2, o2'), (s.heap.objs.size + 7, o7), (s.heap.objs.size + 6, o6), (s.heap.objs.size + 5, o5), (s.heap.objs.size + 4, o4), (s.heap.objs.size + 1, o1')] F N (c := s.heap.objs.size + 3) (o := o3) (by news_mem) d3 ?_ rfl (fun h₁₂ o3' F d3' N => ?_))
  · intro p hp
    simp only [List.mem_cons, List.not_mem_nil, or_false] at hp
    rcases hp with rfl | rfl | rfl | rfl | rfl | rfl
    all_goals exact ⟨by news_mem, .inl (by simp)⟩
  walk1
  refine wpAny_assign_Name (stC [(s.heap.objs.size + 3, o3'), (s.heap.objs.size + 2, o2'), (s.heap.objs.size + 7, o7), (s.heap.objs.size + 6, o6), (s.heap.objs.size + 5, o5), (s.heap.objs.size + 1, o1')] F N (c := s.heap.objs.size + 4) (o := o4) (by news_mem) d4 ?_ rfl (fun h₁₃ o4' F d4' N => ?_))
  · intro p hp
    simp only [List.mem_cons, List.not_mem_nil, or_false] at hp
    rcases hp with rfl | rfl | rfl | rfl | rfl | rfl
    all_goals exact ⟨by news_mem, .inl (by simp)⟩
  walk1
  exact hQ h₁₃ _ _ o1' o2' o3' o4' u v x y tu tv tx ty F N d1' d2' d3' d4' hu0 hv0 hu5 hv5 huc hvc hfx hfy hlx hly hok hk10
end Mine
end
-- part L2
section
local macro_rules | `(tactic| walk_at "pad") => `(tactic| skip)
local macro_rules | `(tactic| walk_at "pad") => `(tactic| skip)
local macro_rules | `(tactic| walk_at "pad") => `(tactic| skip)
local macro_rules | `(tactic| walk_at "pad") => `(tactic| skip)
local macro_rules | `(tactic| walk_at "pad") => `(tactic| skip)
local macro_rules | `(tactic| walk_at "pad") => `(tactic| skip)
local macro_rules | `(tactic| walk_at "pad") => `(tactic| skip)
local macro_rules | `(tactic| walk_at "pad") => `(tactic| skip)
local macro_rules | `(tactic| walk_at "pad") => `(tactic| skip)
local macro_rules | `(tactic| walk_at "pad") => `(tactic| skip)
local macro_rules | `(tactic| walk_at "pad") => `(tactic| skip)
local macro_rules | `(tactic| walk_at "pad") => `(tactic| skip)
local macro_rules | `(tactic| walk_at "pad") => `(tactic| skip)
local macro_rules | `(tactic| walk_at "pad") => `(tactic| skip)
open PySem PySem.W PyProof.Rows
set_option Elab.async false
set_option maxRecDepth 100000
set_option maxHeartbeats 4000000
set_option pp.deepTerms false
set_option pp.deepTerms.threshold 5
set_option pp.maxSteps 20000
set_option linter.unusedSimpArgs false
set_option linter.unusedVariables false
namespace Mine
local macro_rules | `(tactic| walk_at "eval Name") => `(tactic| first
  | refine nmL (by assumption) (by first | rfl | assumption) ?_
  | refine nmC2 rfl (by assumption) (by news_mem) (by assumption) ?_
  | refine nmG (by assumption) (by assumption) (by first | exact gl_twin_re_1 _ | exact gl_twin_re_2 _ | exact gl_CRLF _ | exact gl_quotedata _ | exact gl_fix_eols _ | exact gl_parse_varint _ | exact gl_law_numbers _ | exact gl_law_word _ | exact gl_law_spelled _ | exact gl_law_mails _ | exact gl_law_sent _ | exact gl_law_octets _ | exact gl_law_value _ | exact gl_law_primes _) ?_
  | refine nmB (by assumption) (by assumption) (by first | exact gb_next _ | exact gb_enumerate _ | exact gb_chr _ | exact gb_ord _ | exact gb_len _ | exact gb_sum _ | exact gb_range _ | exact gb_iter _ | exact gb_StopIteration _) (by boot_fast) ?_)
local macro_rules | `(tactic| walk_at "storeName") => `(tactic| (refine storeX_L (by assumption) (by assumption) ?_; intro h' F' N'; dsimp only at F' N' ⊢))

local macro_rules | `(tactic| walk_at "loadName") => `(tactic| refine wpAny_loadName_local rfl rfl (Fr.ns (by assumption)) (by first | rfl | assumption) ?_)
local macro_rules | `(tactic| walk_at "callWith ref") => `(tactic| refine callWith_K (Gd.X (by assumption)) (by kernel_rfl) ?_)
local macro_rules | `(tactic| walk_at "And") => `(tactic| ((with_reducible show Frag.In _ _ ∧ _); refine ⟨Frag.In.keeps (Gd.X (by assumption)) (Fr.keep (by assumption)), ?_⟩; (try dsimp only [List.nil_append, List.cons_append])))


local macro_rules | `(tactic| news_mem) => `(tactic| first | exact .head _ | (refine .tail _ ?_; news_mem))


def CellsAt (L : Nat) (p1 p2 p3 p4 o5 o6 o7 : Obj) : List (Addr × Obj) := [(L + 4, p4), (L + 3, p3), (L + 2, p2), (L + 7, o7), (L + 6, o6), (L + 5, o5), (L + 1, p1)]

theorem newsNil {h₀ h : Heap} {L : Addr} {m : Str → Option Value} (F : Fr h₀ L h m) : News h₀ L h [] := News.nil

theorem pairs_stmt {w : World} {s : Shared} {fa : Addr} {cd : Value} {h₁ : Heap} {tk : Nat} {m : Str → Option Value} {news : List (Addr × Obj)} {E : Value → Shared → Prop} {Q : Flow → Shared → Prop} (G : Gd w s.heap) (htk : 1 ≤ tk)
    (F : Fr s.heap s.heap.objs.size h₁ m) (N : News s.heap s.heap.objs.size h₁ news)
    (hQ : ∀ h' tk' D k (q : List PT), q.map PT.pr = prs → Fr s.heap s.heap.objs.size h' (fun z => if z = "pairs" then some (.ref D) else m z) → News s.heap s.heap.objs.size h' ((D, { cls := .type "list", data := .seq (q.map PT.val).toArray k }) :: (q.map PT.ent ++ news)) → 1 ≤ tk' →
      wpAny (model PP w) (callerA.deeper (lawEnv s.heap.objs.size fa cd)) (execs (lawBody.drop 5) (lawEnv s.heap.objs.size fa cd)) Q E { s with heap := h', toks := tk' }) :
    wpAny (model PP w) (callerA.deeper (lawEnv s.heap.objs.size fa cd)) (execs (lawBody.drop 4) (lawEnv s.heap.objs.size fa cd)) Q E { s with heap := h₁, toks := tk } := by
  refine execs_as (l' := _ :: _) rfl ?_
  walk1
  refine toks_intro 1 htk ?_
  refine lcXAssign (by with_unfolding_all rfl) (by with_unfolding_all first | exact closureFor_none (by decide) | rfl) (by decide) (by with_unfolding_all rfl) (by decide) (by rfl) (by rfl) ?_ (by intro _; with_unfolding_all rfl)
  repeat' walk1
  rename Fr _ _ _ _ => F₂
  rename News _ _ _ _ => N₂
  have hk₂ : ∀ b o, s.heap.get? b = some o → (_ : Heap).get? b = some o := F₂.keep
  refine pairs_src rfl (by assumption) (by decide) (fun C x => by with_unfolding_all rfl) (fun C => ⟨rfl, rfl⟩) (fun C => ⟨rfl, rfl⟩) ?_ ?_ ?_
  · intro C s₃ m₃ E' F₃
    have G₃ := G.keeps hk₂
    have N₃ := newsNil F₃
    dsimp only at F₃ N₃
    clear F₂ N₂
    iterate 9 walk1
    exact ⟨_, _, _, _, _, _, rfl, rfl, by assumption, by assumption⟩
  · intro C s₃ m₃ a b ta tb E' hma hmb F₃
    have G₃ := G.keeps hk₂
    have N₃ := newsNil F₃
    dsimp only at F₃ N₃
    clear F₂ N₂
    iterate 6 walk1
    refine wpAny_newTuple ?_
    exact ⟨_, _, _, rfl, rfl, Heap.get?_push_size _ rfl, Nat.le_refl _, fun b o e => Heap.get?_push_of_some _ e⟩
  · intro s₂ wr q up hw e hq
    have hLw : s.heap.objs.size ∉ wr := by obtain ⟨o, _, _, ho, _⟩ := F₂.ns; exact hw _ o ho
    refine ⟨hLw, m, F₂.ns.keeps up, fun D h' tk' hD hpl hex hn hk => ?_⟩
    rw [e]
    dsimp only
    obtain ⟨k, hpl⟩ := hpl
    have hold : ∀ b o, s.heap.get? b = some o → h'.get? b = some o := fun b o q => hk b o (Nat.ne_of_lt (Heap.lt_size q)) (hw b o (F₂.keep b o q)) (up b o (F₂.keep b o q))
    have h0 : ∀ a, s₂.heap.get? a = none → s.heap.get? a = none ∧ a ≠ s.heap.objs.size := fun a ha => by
      refine ⟨?_, fun q => ?_⟩
      · cases z : s.heap.get? a with
        | none => rfl
        | some o => rw [up _ _ (F₂.keep _ _ z)] at ha; cases ha
      · obtain ⟨o, _, _, ho, _⟩ := F₂.ns
        rw [q, up _ _ ho] at ha; cases ha
    refine fun hk1 => hQ h' tk' D k q hq ⟨hn, hold, Nat.le_refl _⟩ (fun p hp => ?_) hk1
    rcases List.mem_cons.mp hp with rfl | hp
    · exact ⟨hpl, (h0 _ hD).2, (h0 _ hD).1⟩
    · rcases List.mem_append.mp hp with hp | hp
      · exact ⟨(hex p hp).1, (h0 _ (hex p hp).2).2, (h0 _ (hex p hp).2).1⟩
      · have z := N₂ p hp
        exact ⟨hk _ _ z.2.1 (hw _ _ z.1) (up _ _ z.1), z.2⟩
end Mine
end
-- part L3
section
open PySem PySem.W PyProof.Rows
set_option Elab.async false
set_option maxRecDepth 100000
set_option maxHeartbeats 4000000
set_option pp.deepTerms false
set_option pp.deepTerms.threshold 5
set_option pp.maxSteps 20000
set_option linter.unusedSimpArgs false
set_option linter.unusedVariables false
namespace Mine
theorem nmC3 {M : Model} {A : Around} {E : Value → Shared → Prop} {s : Shared} {env : Env} {x : Str} {pos : Pos} {v : Value} {c : Addr} {Q : Value → Shared → Prop} (hc : env.cells.lookup x = some c) (hv : s.heap.IsCell c (some v)) (h : Q v s)
    (hk : env.scope.kind = .function := by rfl) (hx : env.kindOf x = some .cell := by rfl) (hb : (x == ("__debug__" : Str)) = false := by decide) :
    wpAny M A (eval (.Name x pos) env) Q E s := nmC hv hc h hk hx hb
local macro_rules | `(tactic| walk_at "eval Name") => `(tactic| first
  | refine nmL (by assumption) (by first | rfl | assumption) ?_
  | refine nmC2 rfl (by assumption) (by news_mem) (by assumption) ?_
  | refine nmC3 rfl (by assumption) ?_
  | refine nmG (by assumption) (by assumption) (by first | exact gl_twin_re_1 _ | exact gl_twin_re_2 _ | exact gl_CRLF _ | exact gl_quotedata _ | exact gl_fix_eols _ | exact gl_parse_varint _ | exact gl_law_numbers _ | exact gl_law_word _ | exact gl_law_spelled _ | exact gl_law_mails _ | exact gl_law_sent _ | exact gl_law_octets _ | exact gl_law_value _ | exact gl_law_primes _) ?_
  | refine nmB (by assumption) (by assumption) (by first | exact gb_next _ | exact gb_enumerate _ | exact gb_chr _ | exact gb_ord _ | exact gb_len _ | exact gb_sum _ | exact gb_range _ | exact gb_iter _ | exact gb_StopIteration _) (by boot_fast) ?_)
local macro_rules | `(tactic| walk_at "storeName") => `(tactic| (refine storeX_L (by assumption) (by assumption) ?_; intro h' F' N'; dsimp only at F' N' ⊢))

local macro_rules | `(tactic| walk_at "loadName") => `(tactic| refine wpAny_loadName_local rfl rfl (Fr.ns (by assumption)) (by first | rfl | assumption) ?_)
local macro_rules | `(tactic| walk_at "callWith ref") => `(tactic| refine callWith_K (Gd.X (by assumption)) (by kernel_rfl) ?_)
local macro_rules | `(tactic| walk_at "And") => `(tactic| ((with_reducible show Frag.In _ _ ∧ _); refine ⟨Frag.In.keeps (Gd.X (by assumption)) (Fr.keep (by assumption)), ?_⟩; (try dsimp only [List.nil_append, List.cons_append])))


local macro_rules | `(tactic| news_mem) => `(tactic| first | exact .head _ | (refine .tail _ ?_; news_mem))


def rep (z : List Nat) (n : Nat) : List Nat := (List.replicate n z).flatten
theorem foldl_arr (l : List (List Nat)) : ∀ acc : Array Nat, (l.map List.toArray).foldl (· ++ ·) acc = acc ++ l.flatten.toArray := by
  induction l with
  | nil => intro acc; simp
  | cons a r ih => intro acc; rw [List.map_cons, List.foldl_cons, ih]; simp
theorem rep_nil (n : Nat) : rep [] n = [] := by simp [rep]
theorem mul_S (z : List Nat) (n : Nat) : Txt.mul (S z) (n : Int) = S (rep z n) := by
  unfold Txt.mul
  split
  · have : n = 0 := by omega
    subst this; rfl
  · split
    · rename_i h
      rw [Bool.or_eq_true] at h
      rcases h with h | h
      · have : n = 1 := by have := eq_of_beq h; omega
        subst this; simp [rep]
      · have : z = [] := by
          have := eq_of_beq h
          rw [S_length] at this
          exact List.length_eq_zero_iff.mp this
        subst this; rw [rep_nil]
    · rw [Int.toNat_natCast]
      have := foldl_arr (List.replicate n z) #[]
      rw [List.map_replicate] at this
      show Str.mk _ = Str.mk _
      congr 1
      rw [show (S z).cps = z.toArray from rfl, this]
      simp [rep]
theorem rep_length (z : List Nat) (n : Nat) : (rep z n).length = n * z.length := by
  induction n with
  | zero => simp [rep]
  | succ n ih =>
    have : rep z (n + 1) = z ++ rep z n := by simp [rep, List.replicate_succ]
    rw [this, List.length_append, ih, Nat.succ_mul, Nat.add_comm]
theorem prs_mem : ∀ p ∈ prs, 1 ≤ p.1 ∧ p.1 ≤ 3 ∧ 1 ≤ p.2 ∧ p.2 ≤ 3 := by decide
def wordOf (u v : List Nat) (p : Nat × Nat) : List Nat := rep u p.1 ++ rep v p.2
def PT.vals (p : PT) : Array Value := #[.int (p.a : Int) p.ta, .int (p.b : Int) p.tb]
def wordsOf (u v : List Nat) : List (List Nat) := u :: v :: prs.map (wordOf u v)

theorem words_stmt {w : World} {s : Shared} {fa : Addr} {cd : Value} {h₁ : Heap} {tk : Nat} {m : Str → Option Value} {news : List (Addr × Obj)} {E : Value → Shared → Prop} {Q : Flow → Shared → Prop} {p1 p2 p3 p4 o5 o6 o7 : Obj} {D : Addr} {k : Nat} {q : List PT} {u v : List Nat} {tu tv : Tok} (rest : List (Addr × Obj)) (G : Gd w s.heap) (htk : 1 ≤ tk)
    (F : Fr s.heap s.heap.objs.size h₁ m) (N : News s.heap s.heap.objs.size h₁ (CellsAt s.heap.objs.size p1 p2 p3 p4 o5 o6 o7 ++ (D, { cls := .type "list", data := .seq (q.map PT.val).toArray k }) :: (q.map PT.ent ++ rest)))
    (d1 : p1.data = .cell (some (.str (S u) tu))) (d2 : p2.data = .cell (some (.str (S v) tv))) (hm : m "pairs" = some (.ref D)) (hq : q.map PT.pr = prs) (hu : u.length ≤ 20) (hv : v.length ≤ 20)
    (hQ : ∀ h' tk' W k' (lq : List (Str × Tok)), lq.map (·.1) = (wordsOf u v).map S → Fr s.heap s.heap.objs.size h' (fun z => if z = "words" then some (.ref W) else m z) →
      News s.heap s.heap.objs.size h' ((W, { cls := .type "list", data := .seq (strValues lq).toArray k' }) :: (CellsAt s.heap.objs.size p1 p2 p3 p4 o5 o6 o7 ++ (D, { cls := .type "list", data := .seq (q.map PT.val).toArray k }) :: (q.map PT.ent ++ rest))) → 1 ≤ tk' →
      wpAny (model PP w) (callerA.deeper (lawEnv s.heap.objs.size fa cd)) (execs (lawBody.drop 6) (lawEnv s.heap.objs.size fa cd)) Q E { s with heap := h', toks := tk' }) :
    wpAny (model PP w) (callerA.deeper (lawEnv s.heap.objs.size fa cd)) (execs (lawBody.drop 5) (lawEnv s.heap.objs.size fa cd)) Q E { s with heap := h₁, toks := tk } := by
  refine execs_as (l' := _ :: _) rfl ?_
  walk1
  refine toks_intro 1 htk ?_
  iterate 9 walk1
  refine lc (by with_unfolding_all rfl) (by decide) (by with_unfolding_all rfl) (by decide) ?_ (by intro _; with_unfolding_all rfl)
  walk1
  rename Fr _ _ _ _ => F₂
  rename News _ _ _ _ => N₂
  have hl : (_ : Heap).IsList D (q.map PT.val).toArray := ⟨_, (N₂ (D, _) (.tail _ (List.mem_append_right _ (.head _)))).1, rfl, k, rfl⟩
  have hT : ∀ p ∈ q, (_ : Heap).get? p.addr = some p.obj := fun p hp => (N₂ p.ent (.tail _ (List.mem_append_right _ (.tail _ (List.mem_append_left _ (List.mem_map_of_mem hp)))))).1
  have c1 := News.cellIn N₂ (c := s.heap.objs.size + 1) (o := p1) (by news_mem) d1
  have c2 := News.cellIn N₂ (c := s.heap.objs.size + 2) (o := p2) (by news_mem) d2
  have hq9 : q.length = 9 := by have := congrArg List.length hq; simpa [prs] using this
  have GF := G.keeps F₂.keep
  refine src_pairs (Ts := fun j => (q.map PT.addr).getD j 0) (vals := fun j => ((q.map PT.vals).getD j #[])) rfl (by decide) hl (by rw [List.size_toArray, List.length_map, hq9, sizeLine_eq]; decide) ?_ ?_ (fun i a b => ∃ p : PT, q[i]? = some p ∧ a = .int (p.a : Int) p.ta ∧ b = .int (p.b : Int) p.tb) ?_
    (fun i v' => ∃ p t, prs[i]? = some p ∧ v' = .str (S (wordOf u v p)) t) (fun C => ⟨rfl, rfl, rfl⟩) ?_ ?_
  · intro j hj
    have hj' : j < q.length := by simpa using hj
    simp [PT.val, List.getD_eq_getElem?_getD, hj']
  · intro j hj
    have hj' : j < q.length := by simpa using hj
    have z := hT q[j] (List.getElem_mem hj')
    have e1 : (q.map PT.addr).getD j 0 = q[j].addr := by simp [List.getD_eq_getElem?_getD, hj']
    have e2 : (q.map PT.vals).getD j #[] = q[j].vals := by simp [List.getD_eq_getElem?_getD, hj']
    show Heap.IsTuple _ ((q.map PT.addr).getD j 0) ((q.map PT.vals).getD j #[])
    rw [e1, e2]
    exact ⟨_, z, rfl, 0, rfl⟩
  · intro j hj
    have hj' : j < q.length := by simpa using hj
    exact ⟨.int (q[j].a : Int) q[j].ta, .int (q[j].b : Int) q[j].tb, by simp [PT.vals, List.getD_eq_getElem?_getD, hj'], q[j], by simp [hj'], rfl, rfl⟩
  · rintro C i _ _ s₃ m₃ E' hi ⟨p, hp, rfl, rfl⟩ hma hmb F₃
    have hpp : prs[i]? = some (p.a, p.b) := by rw [← hq, List.getElem?_map, hp]; rfl
    have hb := prs_mem _ (List.mem_of_getElem? hpp)
    replace c1 := c1.keeps F₃.keep
    replace c2 := c2.keeps F₃.keep
    clear F₂ N₂
    dsimp only at F₃ c1 c2
    iterate 4 walk1
    refine SB.mul (mulOk_of 20 3 (by rw [S_length]; exact hu) (by dsimp only at hb; omega) (by omega) (by decide) (by decide)) fun t₁ k₁ => ?_
    rw [mul_S]
    iterate 3 walk1
    refine SB.mul (mulOk_of 20 3 (by rw [S_length]; exact hv) (by dsimp only at hb; omega) (by omega) (by decide) (by decide)) fun t₂ k₂ => ?_
    rw [mul_S]
    refine PyProof.Rows.add_str (fun t' tk' => ?_) (by
      rw [S_length, S_length, rep_length, rep_length, sizeLine_eq]
      have h1 : p.a * u.length ≤ 3 * 20 := Nat.mul_le_mul (by dsimp only at hb; omega) hu
      have h2 : p.b * v.length ≤ 3 * 20 := Nat.mul_le_mul (by dsimp only at hb; omega) hv
      omega)
    exact ⟨⟨_, t', hpp, by rw [S_append]; rfl⟩, _, _, rfl, fun _ _ e => e⟩
  · intro s₂ wr ys up hw e hlen hys
    refine fin_lc F₂ N₂ up hw e fun D' k' h' tk' F₅ N₅ => ?_
    refine add_lists F₅ N₅ (News.isList N₅ (.tail _ (.head _))) (News.isList N₅ (.head _)) (fun h₆ F₆ N₆ => ?_) (by
      rw [hlen, List.size_toArray, List.length_map, hq9, sizeLine_eq]; show 2 + 9 ≤ 16777216; decide)
    refine storeX_L F₆ N₆ (fun h₇ F₇ N₇ => ?_)
    obtain ⟨lq, hq1, hq2⟩ := strs_of ((wordsOf u v).map S) ([Value.str (S u) tu, Value.str (S v) tv] ++ ys) (by simp [hlen, wordsOf, prs, hq9]) fun i y hy => by
      match i, hy with
      | 0, hy => exact ⟨S u, tu, rfl, by simpa using hy.symm⟩
      | 1, hy => exact ⟨S v, tv, rfl, by simpa using hy.symm⟩
      | i + 2, hy =>
        obtain ⟨p, t, h1, rfl⟩ := hys i y (by simpa using hy)
        exact ⟨S (wordOf u v p), t, by simp [wordsOf, h1], rfl⟩
    rw [← hq1] at N₇
    exact fun hk1 => hQ h₇ _ _ 0 lq hq2 F₇ (fun p hp => by
      rcases List.mem_cons.mp hp with rfl | hp
      · exact N₇ _ (.head _)
      · exact N₇ p (.tail _ (.tail _ (.tail _ hp)))) hk1
theorem texts_stmt {w : World} {s : Shared} {fa : Addr} {cd : Value} {h₁ : Heap} {tk : Nat} {m : Str → Option Value} {news : List (Addr × Obj)} {E : Value → Shared → Prop} {Q : Flow → Shared → Prop} {p1 p2 p3 p4 o5 o6 o7 : Obj} {D : Addr} {k : Nat} {q : List PT} {u v : List Nat} {tu tv : Tok} (rest : List (Addr × Obj)) (G : Gd w s.heap) (htk : 1 ≤ tk)
    (F : Fr s.heap s.heap.objs.size h₁ m) (N : News s.heap s.heap.objs.size h₁ (CellsAt s.heap.objs.size p1 p2 p3 p4 o5 o6 o7 ++ (D, { cls := .type "list", data := .seq (q.map PT.val).toArray k }) :: (q.map PT.ent ++ rest)))
    (d1 : p3.data = .cell (some (.str (S u) tu))) (d2 : p4.data = .cell (some (.str (S v) tv))) (hm : m "pairs" = some (.ref D)) (hq : q.map PT.pr = prs) (hu : u.length ≤ 20) (hv : v.length ≤ 20)
    (hQ : ∀ h' tk' W k' (lq : List (Str × Tok)), lq.map (·.1) = (wordsOf u v).map S → Fr s.heap s.heap.objs.size h' (fun z => if z = "texts" then some (.ref W) else m z) →
      News s.heap s.heap.objs.size h' ((W, { cls := .type "list", data := .seq (strValues lq).toArray k' }) :: (CellsAt s.heap.objs.size p1 p2 p3 p4 o5 o6 o7 ++ (D, { cls := .type "list", data := .seq (q.map PT.val).toArray k }) :: (q.map PT.ent ++ rest))) → 1 ≤ tk' →
      wpAny (model PP w) (callerA.deeper (lawEnv s.heap.objs.size fa cd)) (execs (lawBody.drop 7) (lawEnv s.heap.objs.size fa cd)) Q E { s with heap := h', toks := tk' }) :
    wpAny (model PP w) (callerA.deeper (lawEnv s.heap.objs.size fa cd)) (execs (lawBody.drop 6) (lawEnv s.heap.objs.size fa cd)) Q E { s with heap := h₁, toks := tk } := by
  refine execs_as (l' := _ :: _) rfl ?_
  walk1
  refine toks_intro 1 htk ?_
  iterate 9 walk1
  refine lc (by with_unfolding_all rfl) (by decide) (by with_unfolding_all rfl) (by decide) ?_ (by intro _; with_unfolding_all rfl)
  walk1
  rename Fr _ _ _ _ => F₂
  rename News _ _ _ _ => N₂
  have hl : (_ : Heap).IsList D (q.map PT.val).toArray := ⟨_, (N₂ (D, _) (.tail _ (List.mem_append_right _ (.head _)))).1, rfl, k, rfl⟩
  have hT : ∀ p ∈ q, (_ : Heap).get? p.addr = some p.obj := fun p hp => (N₂ p.ent (.tail _ (List.mem_append_right _ (.tail _ (List.mem_append_left _ (List.mem_map_of_mem hp)))))).1
  have c1 := News.cellIn N₂ (c := s.heap.objs.size + 3) (o := p3) (by news_mem) d1
  have c2 := News.cellIn N₂ (c := s.heap.objs.size + 4) (o := p4) (by news_mem) d2
  have hq9 : q.length = 9 := by have := congrArg List.length hq; simpa [prs] using this
  have GF := G.keeps F₂.keep
  refine src_pairs (Ts := fun j => (q.map PT.addr).getD j 0) (vals := fun j => ((q.map PT.vals).getD j #[])) rfl (by decide) hl (by rw [List.size_toArray, List.length_map, hq9, sizeLine_eq]; decide) ?_ ?_ (fun i a b => ∃ p : PT, q[i]? = some p ∧ a = .int (p.a : Int) p.ta ∧ b = .int (p.b : Int) p.tb) ?_
    (fun i v' => ∃ p t, prs[i]? = some p ∧ v' = .str (S (wordOf u v p)) t) (fun C => ⟨rfl, rfl, rfl⟩) ?_ ?_
  · intro j hj
    have hj' : j < q.length := by simpa using hj
    simp [PT.val, List.getD_eq_getElem?_getD, hj']
  · intro j hj
    have hj' : j < q.length := by simpa using hj
    have z := hT q[j] (List.getElem_mem hj')
    have e1 : (q.map PT.addr).getD j 0 = q[j].addr := by simp [List.getD_eq_getElem?_getD, hj']
    have e2 : (q.map PT.vals).getD j #[] = q[j].vals := by simp [List.getD_eq_getElem?_getD, hj']
    show Heap.IsTuple _ ((q.map PT.addr).getD j 0) ((q.map PT.vals).getD j #[])
    rw [e1, e2]
    exact ⟨_, z, rfl, 0, rfl⟩
  · intro j hj
    have hj' : j < q.length := by simpa using hj
    exact ⟨.int (q[j].a : Int) q[j].ta, .int (q[j].b : Int) q[j].tb, by simp [PT.vals, List.getD_eq_getElem?_getD, hj'], q[j], by simp [hj'], rfl, rfl⟩
  · rintro C i _ _ s₃ m₃ E' hi ⟨p, hp, rfl, rfl⟩ hma hmb F₃
    have hpp : prs[i]? = some (p.a, p.b) := by rw [← hq, List.getElem?_map, hp]; rfl
    have hb := prs_mem _ (List.mem_of_getElem? hpp)
    replace c1 := c1.keeps F₃.keep
    replace c2 := c2.keeps F₃.keep
    clear F₂ N₂
    dsimp only at F₃ c1 c2
    iterate 4 walk1
    refine SB.mul (mulOk_of 20 3 (by rw [S_length]; exact hu) (by dsimp only at hb; omega) (by omega) (by decide) (by decide)) fun t₁ k₁ => ?_
    rw [mul_S]
    iterate 3 walk1
    refine SB.mul (mulOk_of 20 3 (by rw [S_length]; exact hv) (by dsimp only at hb; omega) (by omega) (by decide) (by decide)) fun t₂ k₂ => ?_
    rw [mul_S]
    refine PyProof.Rows.add_str (fun t' tk' => ?_) (by
      rw [S_length, S_length, rep_length, rep_length, sizeLine_eq]
      have h1 : p.a * u.length ≤ 3 * 20 := Nat.mul_le_mul (by dsimp only at hb; omega) hu
      have h2 : p.b * v.length ≤ 3 * 20 := Nat.mul_le_mul (by dsimp only at hb; omega) hv
      omega)
    exact ⟨⟨_, t', hpp, by rw [S_append]; rfl⟩, _, _, rfl, fun _ _ e => e⟩
  · intro s₂ wr ys up hw e hlen hys
    refine fin_lc F₂ N₂ up hw e fun D' k' h' tk' F₅ N₅ => ?_
    refine add_lists F₅ N₅ (News.isList N₅ (.tail _ (.head _))) (News.isList N₅ (.head _)) (fun h₆ F₆ N₆ => ?_) (by
      rw [hlen, List.size_toArray, List.length_map, hq9, sizeLine_eq]; show 2 + 9 ≤ 16777216; decide)
    refine storeX_L F₆ N₆ (fun h₇ F₇ N₇ => ?_)
    obtain ⟨lq, hq1, hq2⟩ := strs_of ((wordsOf u v).map S) ([Value.str (S u) tu, Value.str (S v) tv] ++ ys) (by simp [hlen, wordsOf, prs, hq9]) fun i y hy => by
      match i, hy with
      | 0, hy => exact ⟨S u, tu, rfl, by simpa using hy.symm⟩
      | 1, hy => exact ⟨S v, tv, rfl, by simpa using hy.symm⟩
      | i + 2, hy =>
        obtain ⟨p, t, h1, rfl⟩ := hys i y (by simpa using hy)
        exact ⟨S (wordOf u v p), t, by simp [wordsOf, h1], rfl⟩
    rw [← hq1] at N₇
    exact fun hk1 => hQ h₇ _ _ 0 lq hq2 F₇ (fun p hp => by
      rcases List.mem_cons.mp hp with rfl | hp
      · exact N₇ _ (.head _)
      · exact N₇ p (.tail _ (.tail _ (.tail _ hp)))) hk1
end Mine
end
-- part L4
section
local macro_rules | `(tactic| walk_at "pad") => `(tactic| skip)
local macro_rules | `(tactic| walk_at "pad") => `(tactic| skip)
local macro_rules | `(tactic| walk_at "pad") => `(tactic| skip)
local macro_rules | `(tactic| walk_at "pad") => `(tactic| skip)
local macro_rules | `(tactic| walk_at "pad") => `(tactic| skip)
local macro_rules | `(tactic| walk_at "pad") => `(tactic| skip)
local macro_rules | `(tactic| walk_at "pad") => `(tactic| skip)
local macro_rules | `(tactic| walk_at "pad") => `(tactic| skip)
local macro_rules | `(tactic| walk_at "pad") => `(tactic| skip)
local macro_rules | `(tactic| walk_at "pad") => `(tactic| skip)
local macro_rules | `(tactic| walk_at "pad") => `(tactic| skip)
local macro_rules | `(tactic| walk_at "pad") => `(tactic| skip)
local macro_rules | `(tactic| walk_at "pad") => `(tactic| skip)
local macro_rules | `(tactic| walk_at "pad") => `(tactic| skip)
open PySem PySem.W PyProof.Rows
set_option Elab.async false
set_option maxRecDepth 100000
set_option maxHeartbeats 4000000
set_option pp.deepTerms false
set_option pp.deepTerms.threshold 5
set_option pp.maxSteps 20000
set_option linter.unusedSimpArgs false
set_option linter.unusedVariables false
namespace Mine
local macro_rules | `(tactic| walk_at "eval Name") => `(tactic| first
  | refine nmL (by assumption) (by first | rfl | assumption) ?_
  | refine nmC2 rfl (by assumption) (by news_mem) (by assumption) ?_
  | refine nmC3 rfl (by assumption) ?_
  | refine nmG (by assumption) (by assumption) (by first | exact gl_twin_re_1 _ | exact gl_twin_re_2 _ | exact gl_CRLF _ | exact gl_quotedata _ | exact gl_fix_eols _ | exact gl_parse_varint _ | exact gl_law_numbers _ | exact gl_law_word _ | exact gl_law_spelled _ | exact gl_law_mails _ | exact gl_law_sent _ | exact gl_law_octets _ | exact gl_law_value _ | exact gl_law_primes _) ?_
  | refine nmB (by assumption) (by assumption) (by first | exact gb_next _ | exact gb_enumerate _ | exact gb_chr _ | exact gb_ord _ | exact gb_len _ | exact gb_sum _ | exact gb_range _ | exact gb_iter _ | exact gb_StopIteration _) (by boot_fast) ?_)
local macro_rules | `(tactic| walk_at "storeName") => `(tactic| (refine storeX_L (by assumption) (by assumption) ?_; intro h' F' N'; dsimp only at F' N' ⊢))

local macro_rules | `(tactic| walk_at "loadName") => `(tactic| refine wpAny_loadName_local rfl rfl (Fr.ns (by assumption)) (by first | rfl | assumption) ?_)
local macro_rules | `(tactic| walk_at "callWith ref") => `(tactic| refine callWith_K (Gd.X (by assumption)) (by kernel_rfl) ?_)
local macro_rules | `(tactic| walk_at "And") => `(tactic| ((with_reducible show Frag.In _ _ ∧ _); refine ⟨Frag.In.keeps (Gd.X (by assumption)) (Fr.keep (by assumption)), ?_⟩; (try dsimp only [List.nil_append, List.cons_append])))


local macro_rules | `(tactic| news_mem) => `(tactic| first | exact .head _ | (refine .tail _ ?_; news_mem))


abbrev lst (lq : List (Str × Tok)) (k : Nat) : Obj := { cls := .type "list", data := .seq (strValues lq).toArray k }

theorem strs_at {lq : List (Str × Tok)} {zs : List (List Nat)} (h : lq.map (·.1) = zs.map S) {i : Nat} {v : Value} (hv : (strValues lq).toArray[i]? = some v) : ∃ z t, zs[i]? = some z ∧ v = .str (S z) t := by
  have hv' : lq[i]?.map (fun p => Value.str p.1 p.2) = some v := by simpa [strValues] using hv
  obtain ⟨q, hq, rfl⟩ := Option.map_eq_some_iff.mp hv'
  have hm : (lq.map (·.1))[i]? = some q.1 := by simp [hq]
  rw [h, List.getElem?_map] at hm
  obtain ⟨z, hz, hzq⟩ := Option.map_eq_some_iff.mp hm
  exact ⟨z, q.2, hz, by rw [hzq]⟩
theorem strs_len {lq : List (Str × Tok)} {zs : List (List Nat)} (h : lq.map (·.1) = zs.map S) : (strValues lq).length = zs.length := by
  have := congrArg List.length h
  simpa [strValues] using this

theorem evens_stmt {w : World} {s : Shared} {fa : Addr} {cd : Value} {h₁ : Heap} {tk : Nat} {m : Str → Option Value} {news : List (Addr × Obj)} {E : Value → Shared → Prop} {Q : Flow → Shared → Prop} {T : Addr} {lt : List (Str × Tok)} {k : Nat} {ts : List (List Nat)} (G : Gd w s.heap) (htk : 1 ≤ tk)
    (F : Fr s.heap s.heap.objs.size h₁ m) (N : News s.heap s.heap.objs.size h₁ news) (hT : (T, lst lt k) ∈ news) (hlt : lt.map (·.1) = ts.map S) (hts : ∀ z ∈ ts, z.length ≤ 500) (ht11 : ts.length ≤ 20) (hm : m "texts" = some (.ref T))
    (hQ : ∀ h' tk' W k' (lq : List (Str × Tok)), lq.map (·.1) = (ts.map (fixF false)).map S → Fr s.heap s.heap.objs.size h' (fun z => if z = "evens" then some (.ref W) else m z) → News s.heap s.heap.objs.size h' ((W, lst lq k') :: news) → 1 ≤ tk' →
      wpAny (model PP w) (callerA.deeper (lawEnv s.heap.objs.size fa cd)) (execs (lawBody.drop 8) (lawEnv s.heap.objs.size fa cd)) Q E { s with heap := h', toks := tk' }) :
    wpAny (model PP w) (callerA.deeper (lawEnv s.heap.objs.size fa cd)) (execs (lawBody.drop 7) (lawEnv s.heap.objs.size fa cd)) Q E { s with heap := h₁, toks := tk } := by
  refine execs_as (l' := _ :: _) rfl ?_
  walk1
  refine toks_intro 1 htk ?_
  refine lcAssign (by with_unfolding_all rfl) (by with_unfolding_all first | exact closureFor_none (by decide) | rfl) (by decide) (by with_unfolding_all rfl) (by decide) (by rfl) (by rfl) ?_ (by intro _; with_unfolding_all rfl)
  walk1
  have rm := callerA_room
  refine src_list rfl ⟨_, (N _ hT).1, rfl, k, rfl⟩ (by rw [List.size_toArray, strs_len hlt, sizeLine_eq]; omega) (fun i v => ∃ z t, ts[i]? = some z ∧ v = .str (S (fixF false z)) t) (fun C => ⟨rfl, rfl⟩) ?_ ?_
  · intro C i v s₃ m₃ E' hv hmv F₃
    obtain ⟨z, t, hz, rfl⟩ := strs_at hlt hv
    have GF := G.keeps F.keep
    dsimp only at F₃
    iterate 6 walk1
    refine ⟨GF.X.keeps F₃.keep, ?_⟩
    refine wpAny_mono (fix_spec (GF.keeps F₃.keep) (by show callerA.depth + 1 < _; omega) (by have := hts z (List.mem_of_getElem? hz); omega)) (fun v s' r => ?_) (fun _ _ x => x)
    obtain ⟨⟨t', rfl⟩, kp⟩ := r
    exact ⟨⟨z, t', hz, rfl⟩, kp⟩
  · intro s₂ wr ys up hw e hlen hys
    refine fin_la F N up hw e fun D k' h' tk' F₅ N₅ => ?_
    obtain ⟨lq, rfl, hq2⟩ := strs_of ((ts.map (fixF false)).map S) ys (by rw [hlen, List.size_toArray, strs_len hlt]; simp) fun i y hy => by
      obtain ⟨z, t, h1, rfl⟩ := hys i y hy
      exact ⟨S (fixF false z), t, by simp [h1], rfl⟩
    exact fun hk1 => hQ h' _ D k' lq hq2 F₅ N₅ hk1
end Mine
end
-- part B14
section
open PySem PySem.W PyProof.Rows
set_option Elab.async false
set_option maxRecDepth 100000
set_option maxHeartbeats 4000000
set_option linter.unusedVariables false
namespace Mine
section
variable {w : World} {A : Around} {E : Value → Shared → Prop} {env : Env} {I : Addr} {fp wr : List Addr} {n : Nat} {St : Nat → Heap → Prop}
theorem itemT {target : PySem.Expr} {cok : Env → Prop} {Bd : Nat → (Str → Option Value) → Prop} (T : CT w A target I fp wr n cok Bd St) : ∀ i (s : Shared) (env : Env) (m : Str → Option Value) (Q : Shared → Prop) (E : Value → Shared → Prop), i < n → St i s.heap → cok env → env.locals ∉ fp → s.heap.Ns env.locals m →
    (∀ h' tk m', s.toks ≤ tk → St (i + 1) h' → h'.Ns env.locals m' → Bd i m' → (∀ b o, b ≠ env.locals → b ∉ wr → s.heap.get? b = some o → h'.get? b = some o) → Q { s with heap := h', toks := tk }) →
    wpAny (model PP w) A (pyNext (.ref I)) (fun r s₁ => match r with
      | none => False
      | some v => wpAny (model PP w) A (letOwnedTupleGo target (.ref I) v) (fun _ s₂ => wpAny (model PP w) A (assign target env v) (fun _ s₃ => Q s₃) E s₂) E s₁) E s := by
  intro i s env m Q E hi hst hc hL hn hQ
  refine toks_intro s.toks (Nat.le_refl _) ?_
  refine wpAny_mono (T.item i s env m (fun s' => s.toks ≤ s'.toks → Q s') E hi hst hc hL hn fun h' tk m' a b c d hle => hQ h' tk m' hle a b c d) (fun r s₁ h hle => ?_) fun _ _ e => e
  cases r with
  | none => exact h
  | some v =>
    refine toks_intro s.toks hle ?_
    refine wpAny_mono h (fun _ s₂ h₂ hle₂ => ?_) fun _ _ e => e
    exact toks_intro s.toks hle₂ h₂
theorem comp_turnsT {elt target iter : PySem.Expr} {scope : Scope} {cl : List (Str × Addr)} {pos : Pos} {s₂ : Shared} {cok : Env → Prop} {Bd : Nat → (Str → Option Value) → Prop} {base : Heap}
    (T : CT w A target I fp wr n cok Bd St) (hsz : n ≤ sizeLine) (F : Nat → Value → Prop) {RR : Value → Addr → Result → Shared → Prop}
    (hcell : ∀ y ∈ scope.names, y.2 ≠ .cell) (hkind : scope.kind = .function) (hcok : ∀ C, cok (compEnvC scope cl C env)) (hst : St 0 s₂.heap) (htk : 1 ≤ s₂.toks) (hfp : ∀ b ∈ fp, b < s₂.heap.objs.size)
    (hb : ∀ b o, base.get? b = some o → s₂.heap.get? b = some o) (hbs : base.objs.size ≤ s₂.heap.objs.size) (hw : ∀ b ∈ wr, base.get? b = none)
    (helt : ∀ C i s₃ m₃ E', i < n → Bd i m₃ → Fr base C s₃.heap m₃ → 1 ≤ s₃.toks → wpAny (model PP w) A (eval elt (compEnvC scope cl C env)) (Ret (F i) s₃) E' s₃)
    (hRR : ∀ D C h' tk m' (ys : List Value), s₂.heap.get? D = none → s₂.heap.get? C = none → D ≠ C → h'.Ns C m' → h'.PlainList D ys.toArray → ys.length = n → (∀ i y, ys[i]? = some y → F i y) →
      (∀ b o, b ∉ wr → s₂.heap.get? b = some o → h'.get? b = some o) → RR (.ref D) C (.ok .next) { s₂ with heap := h', toks := tk }) :
    wpAny (model PP w) A (newList []) (fun acc s₃ => wpAny (model PP w) A (newFunctionEnv scope env.globals cl [] env.qual none .none (some env)) (fun cenv s₄ =>
      codeAny (model PP w) A (.compStart (.ListComp elt [⟨target, iter, [], 0⟩] scope pos) 0 (.ref I) acc { cenv with scope := relabel scope env }) (RR acc cenv.locals) s₄) E s₃) E s₂ := by
  refine wpAny_newObj_type (wpAny_newFunctionEnv hcell (by intro y hy; simp at hy) (fun h₁ hns₁ hsb₁ => ?_) hkind)
  dsimp only at hns₁ hsb₁ ⊢
  generalize hH2 : s₂.heap.push { cls := .type "list", dict := none, data := .seq ([] : List Value).toArray } = H2 at hns₁ hsb₁ ⊢
  have hC : H2.objs.size = s₂.heap.objs.size + 1 := by rw [← hH2, Heap.size_push]
  generalize hCC : H2.objs.size = C at hns₁ hsb₁ hC ⊢
  generalize hDD : s₂.heap.objs.size = D at hC hfp hbs ⊢
  have hDC : D ≠ C := by rw [hC]; exact Nat.ne_of_lt (Nat.lt_succ_self _)
  have below : ∀ b, b < D → b ≠ C ∧ b ≠ D := fun b hb => ⟨by omega, by omega⟩
  have hDf : D ∉ fp := fun hm => Nat.lt_irrefl _ (hfp _ hm)
  have hCf : C ∉ fp := fun hm => absurd (hfp _ hm) (by rw [hC]; exact Nat.not_lt.mpr (Nat.le_succ _))
  have lt2 : ∀ {b o}, s₂.heap.get? b = some o → b < D := fun e => hDD ▸ Heap.lt_size e
  have old : ∀ b o, s₂.heap.get? b = some o → h₁.get? b = some o := fun b o e => hsb₁.extBut b o (below b (lt2 e)).1 (Heap.get?_push_of_some _ (hH2 ▸ Heap.get?_push_of_some _ e))
  have hacc : h₁.PlainList D #[] := ⟨_, hsb₁.extBut _ _ hDC (Heap.get?_push_of_some _ (hH2 ▸ hDD ▸ Heap.get?_push_size _ rfl))⟩
  have hst₁ : St 0 h₁ := T.frame _ _ _ hst fun b _ o e => old b o e
  have fresh : ∀ a, D ≤ a → s₂.heap.get? a = none := fun a ha => by
    cases e : s₂.heap.get? a with
    | none => rfl
    | some o' => exact absurd (lt2 e) (Nat.not_lt.mpr ha)
  have hCw : C ∉ wr := fun h => hCf (T.sub _ h)
  have hDw : D ∉ wr := fun h => hDf (T.sub _ h)
  have bw : ∀ b o, base.get? b = some o → b ∉ wr := fun b o e h => by rw [hw b h] at e; cases e
  have loop : ∀ s₃ : Shared, s₃ = { s₂ with heap := h₁, toks := s₂.toks + ([] : List (Str × Value)).length } →
      codeAny (model PP w) A (.compLoop (.ListComp elt [⟨target, iter, [], 0⟩] scope pos) 0 (.ref I) (.ref D) (compEnvC scope cl C env)) (RR (.ref D) C) s₃ := by
    rintro s₃ rfl
    obtain ⟨Inv, hInv⟩ : ∃ Inv : Nat → Shared → Prop, ∀ k s', Inv k s' ↔ ∃ h' tk m', ∃ ys : List Value, s' = { s₂ with heap := h', toks := tk } ∧ 1 ≤ tk ∧ St ys.length h' ∧ h'.PlainList D ys.toArray ∧ h'.Ns C m' ∧ (∀ i y, ys[i]? = some y → F i y) ∧ ys.length ≤ n ∧ k = n + 1 - ys.length ∧
        (∀ b o, b ∉ wr → s₂.heap.get? b = some o → h'.get? b = some o) := ⟨_, fun _ _ => Iff.rfl⟩
    refine kcp_loop Inv ?_ (n + 1) ((hInv _ _).mpr ⟨h₁, _, _, [], rfl, Nat.le_trans htk (Nat.le_add_right _ _), hst₁, hacc, hns₁, by simp, Nat.zero_le _, rfl, fun b o _ e => old b o e⟩)
    intro k s' hI
    obtain ⟨h', tk, m', ys, rfl, htk', hst', hacc', hn', hF, hi, rfl, hk⟩ := (hInv _ _).mp hI
    by_cases hlt : ys.length < n
    · refine wpAny_mono (itemT T ys.length _ (compEnvC scope cl C env) m' (fun s₃ => wpAny (model PP w) A (eval elt (compEnvC scope cl C env)) (fun x s₄ =>
          wpAny (model PP w) A (call (.builtin "list.append") [.ref D, x]) (fun _ s₅ => ∃ m, m < n + 1 - ys.length ∧ Inv m s₅) (notedBy (model PP w) A (compEnvC scope cl C env) fun e s' => RR (.ref D) C (.error e) s') s₄)
          (notedBy (model PP w) A (compEnvC scope cl C env) fun e s' => RR (.ref D) C (.error e) s') s₃) _ hlt hst' (hcok C) hCf hn' fun h₂ tk₂ m₂ hle hst₂ hn₂ hBd hk₂ => ?_) (fun r s₁ h => ?_) fun _ _ e => e
      rotate_left
      · cases r with
        | none => exact h.elim
        | some v => exact h
      have up₂ : ∀ b o, b ∉ wr → s₂.heap.get? b = some o → h₂.get? b = some o := fun b o hbf e => hk₂ b o (below b (lt2 e)).1 hbf (hk b o hbf e)
      have F₂ : Fr base C h₂ m₂ := ⟨hn₂, fun b o e => up₂ b o (bw b o e) (hb b o e), by omega⟩
      have hacc₂ : h₂.PlainList D ys.toArray := hacc'.at fun o e => hk₂ D o hDC hDw e
      have htk₂ : 1 ≤ tk₂ := Nat.le_trans htk' hle
      refine toks_intro 1 htk₂ ?_
      refine wpAny_mono (helt C ys.length _ m₂ _ hlt hBd F₂ htk₂) (fun y s₄ h₄ htk₄ => ?_) fun _ _ e => e
      obtain ⟨hFy, h₄, tk₄, rfl, hk₄⟩ := h₄
      refine wpAny_list_append_plain (hsz := by rw [List.size_toArray]; omega) (hacc₂.at fun o e => hk₄ _ o e) fun h₅ hl₅ hs₅ => ?_
      refine ⟨n + 1 - (ys.length + 1), by omega, (hInv _ _).mpr ⟨h₅, tk₄, m₂, ys ++ [y], rfl, htk₄, ?_, ?_, (hn₂.keeps hk₄).sameBut hs₅ (Ne.symm hDC), ?_, by simp; omega, by simp, fun b o hbf e => hs₅.extBut b o (below b (lt2 e)).2 (hk₄ b o (up₂ b o hbf e))⟩⟩
      · rw [List.length_append, List.length_singleton]
        exact T.frame _ _ _ hst₂ fun b hb o e => hs₅.extBut b o (fun q => hDf (q ▸ hb)) (hk₄ b o e)
      · simpa using hl₅
      · intro j z hz
        rcases Nat.lt_trichotomy j ys.length with h | h | h
        · exact hF j z (by rwa [List.getElem?_append_left h] at hz)
        · subst h; simp at hz; subst hz; exact hFy
        · rw [List.getElem?_eq_none (by simp; omega)] at hz; cases hz
    · have hin : ys.length = n := by omega
      refine T.done _ _ _ (hin ▸ hst') fun h₂ tk₂ hk₂ => ?_
      exact hRR D C h₂ tk₂ m' ys (fresh _ (Nat.le_refl _)) (fresh _ (by omega)) hDC (hn'.at' fun o e => hk₂ _ o hCw e) (hacc'.at fun o e => hk₂ _ o hDw e) hin hF fun b o hbf e => hk₂ b o hbf (hk b o hbf e)
  exact codeAny_compStart_list (loop _ rfl) (T.self 0 _ _ _ hst₁ (loop _ rfl))


/-- what a comprehension's source hands on -/
def LcT (w : World) (A : Around) (elt target : PySem.Expr) (scope : Scope) (cl : List (Str × Addr)) (env : Env) (Fin : Shared → List Addr → List Value → Prop) (it : Value) (s₂ : Shared) : Prop :=
  ∃ I fp wr n cok Bd St base, ∃ F : Nat → Value → Prop, it = .ref I ∧ CT w A target I fp wr n cok Bd St ∧ n ≤ sizeLine ∧ 1 ≤ s₂.toks ∧ (∀ C, cok (compEnvC scope cl C env)) ∧ St 0 s₂.heap ∧ (∀ b ∈ fp, b < s₂.heap.objs.size) ∧
      (∀ b o, base.get? b = some o → s₂.heap.get? b = some o) ∧ base.objs.size ≤ s₂.heap.objs.size ∧ (∀ b ∈ wr, base.get? b = none) ∧
      (∀ C i s₃ m₃ E', i < n → Bd i m₃ → Fr base C s₃.heap m₃ → 1 ≤ s₃.toks → wpAny (model PP w) A (eval elt (compEnvC scope cl C env)) (Ret (F i) s₃) E' s₃) ∧
      ∀ ys : List Value, ys.length = n → (∀ i y, ys[i]? = some y → F i y) → Fin s₂ wr ys

theorem lcT {s : Shared} {elt target iter : PySem.Expr} {scope : Scope} {cl : List (Str × Addr)} {pos : Pos} {Q : Value → Shared → Prop}
    (hclos : closureFor scope env = pure cl) (hcell : ∀ y ∈ scope.names, y.2 ≠ .cell) (hkind : scope.kind = .function)
    (hnames : ∀ y ∈ scope.names, y.2 = .local → scope.names.lookup y.1 = some .local)
    (h : wpAny (model PP w) A (eval iter env) (fun xv s₁ => wpAny (model PP w) A (pyIter xv) (LcT w A elt target scope cl env (FinLc Q)) E s₁) E s)
    (hs : ∀ x, foldedSetIterable iter env x = pure x := by intro _; rfl) :
    wpAny (model PP w) A (eval (.ListComp elt [⟨target, iter, [], 0⟩] scope pos) env) Q E s := by
  rw [eval_ListComp]
  refine wpAny_comprehension_free (use := none) rfl hs hclos hkind hnames (wpAny_mono h (fun xv s₁ h₁ => wpAny_mono h₁ (fun it s₂ h₂ => ?_) fun _ _ e => e) fun _ _ e => e)
  obtain ⟨I, fp, wr, n, cok, Bd, St, base, F, rfl, T, hsz, htk, hcok, hst, hfp, hb, hbs, hw, helt, hQ⟩ := h₂
  refine comp_turnsT (RR := fun acc C => compPost (model PP w) A E none Q acc C) T hsz F hcell hkind hcok hst htk hfp hb hbs hw helt ?_
  intro D C h' tk m' ys hD hC hDC hn hpl hlen hF hk
  exact ⟨m', hn, fun h'' hs'' => hQ ys hlen hF D h'' tk hD (hpl.extBut hs''.extBut hDC) fun b o hbf e => hs''.extBut b o (by rintro rfl; rw [hC] at e; cases e) (hk b o hbf e)⟩
end

section
variable {w : World} {A : Around} {E : Value → Shared → Prop} {s s₂ : Shared} {env : Env} {h₀ : Heap} {L : Addr} {m : Str → Option Value} {news : List (Addr × Obj)} {elt : PySem.Expr} {scope : Scope} {cl : List (Str × Addr)} {Fin : Shared → List Addr → List Value → Prop} {wr : List Addr} {ys : List Value}
theorem src_listT {x : Str} {px : Pos} {a : Addr} {items : Array Value} (hh : A.handled = none) (htk : 1 ≤ s.toks) (hl : s.heap.IsList a items) (hsz : items.size ≤ sizeLine) (F : Nat → Value → Prop)
    (hcok : ∀ C, okN x (compEnvC scope cl C env))
    (helt : ∀ C i v s₃ m₃ E', items[i]? = some v → m₃ x = some v → Fr s.heap C s₃.heap m₃ → 1 ≤ s₃.toks → wpAny (model PP w) A (eval elt (compEnvC scope cl C env)) (Ret (F i) s₃) E' s₃)
    (hF : ∀ (s₂ : Shared) (wr : List Addr) (ys : List Value), (∀ b o, s.heap.get? b = some o → s₂.heap.get? b = some o) → (∀ b o, s.heap.get? b = some o → b ∉ wr) → s₂ = { s with heap := s₂.heap, toks := s₂.toks } → ys.length = items.size → (∀ i y, ys[i]? = some y → F i y) → Fin s₂ wr ys) :
    wpAny (model PP w) A (pyIter (.ref a)) (LcT w A elt (.Name x px) scope cl env Fin) E s := by
  have haI : a < s.heap.objs.size := by obtain ⟨o, ho, _⟩ := hl; exact Heap.lt_size ho
  refine wpAny_pyIter_list hl ⟨s.heap.objs.size, _, _, _, _, _, _, s.heap, F, rfl, CT.name (Walks.list hh s.heap.objs.size a (Nat.ne_of_lt haI) items), hsz, htk, hcok, ?_, ?_, ?_, ?_, ?_, ?_, ?_⟩
  · exact ⟨⟨_, Heap.get?_push_size _ rfl, rfl, rfl⟩, isList_up hl fun b o e => Heap.get?_push_of_some _ e⟩
  · intro b hb
    simp only [List.mem_cons, List.not_mem_nil, or_false] at hb
    rw [Heap.size_push]
    rcases hb with rfl | rfl
    · exact Nat.lt_succ_self _
    · exact Nat.lt_succ_of_lt haI
  · intro b o e; exact Heap.get?_push_of_some _ e
  · rw [Heap.size_push]; exact Nat.le_succ _
  · intro b hb
    simp only [List.mem_cons, List.not_mem_nil, or_false] at hb
    subst hb
    cases e : s.heap.get? s.heap.objs.size with
    | none => rfl
    | some o => exact absurd (Heap.lt_size e) (Nat.lt_irrefl _)
  · intro C i s₃ m₃ E' hi hBd F₃ htk₃
    obtain ⟨v, hv, hm⟩ := hBd
    exact helt C i v s₃ m₃ E' hv hm F₃ htk₃
  · intro ys hlen hys
    refine hF _ _ ys (fun b o e => Heap.get?_push_of_some _ e) (fun b o e hb => ?_) rfl hlen hys
    simp only [List.mem_cons, List.not_mem_nil, or_false] at hb
    exact Nat.ne_of_lt (Heap.lt_size e) hb
end
end Mine
end
-- part L5
section
local macro_rules | `(tactic| walk_at "pad") => `(tactic| skip)
local macro_rules | `(tactic| walk_at "pad") => `(tactic| skip)
local macro_rules | `(tactic| walk_at "pad") => `(tactic| skip)
local macro_rules | `(tactic| walk_at "pad") => `(tactic| skip)
local macro_rules | `(tactic| walk_at "pad") => `(tactic| skip)
local macro_rules | `(tactic| walk_at "pad") => `(tactic| skip)
local macro_rules | `(tactic| walk_at "pad") => `(tactic| skip)
local macro_rules | `(tactic| walk_at "pad") => `(tactic| skip)
local macro_rules | `(tactic| walk_at "pad") => `(tactic| skip)
local macro_rules | `(tactic| walk_at "pad") => `(tactic| skip)
local macro_rules | `(tactic| walk_at "pad") => `(tactic| skip)
local macro_rules | `(tactic| walk_at "pad") => `(tactic| skip)
local macro_rules | `(tactic| walk_at "pad") => `(tactic| skip)
local macro_rules | `(tactic| walk_at "pad") => `(tactic| skip)
open PySem PySem.W PyProof.Rows
set_option Elab.async false
set_option maxRecDepth 100000
set_option maxHeartbeats 4000000
set_option pp.deepTerms false
set_option pp.deepTerms.threshold 5
set_option pp.maxSteps 20000
set_option linter.unusedSimpArgs false
set_option linter.unusedVariables false
namespace Mine
local macro_rules | `(tactic| walk_at "eval Name") => `(tactic| first
  | refine nmL (by assumption) (by first | rfl | assumption) ?_
  | refine nmC2 rfl (by assumption) (by news_mem) (by assumption) ?_
  | refine nmC3 rfl (by assumption) ?_
  | refine nmG (by assumption) (by assumption) (by first | exact gl_twin_re_1 _ | exact gl_twin_re_2 _ | exact gl_CRLF _ | exact gl_quotedata _ | exact gl_fix_eols _ | exact gl_parse_varint _ | exact gl_law_numbers _ | exact gl_law_word _ | exact gl_law_spelled _ | exact gl_law_mails _ | exact gl_law_sent _ | exact gl_law_octets _ | exact gl_law_value _ | exact gl_law_primes _) ?_
  | refine nmB (by assumption) (by assumption) (by first | exact gb_next _ | exact gb_enumerate _ | exact gb_chr _ | exact gb_ord _ | exact gb_len _ | exact gb_sum _ | exact gb_range _ | exact gb_iter _ | exact gb_StopIteration _) (by boot_fast) ?_)
local macro_rules | `(tactic| walk_at "storeName") => `(tactic| (refine storeX_L (by assumption) (by assumption) ?_; intro h' F' N'; dsimp only at F' N' ⊢))

local macro_rules | `(tactic| walk_at "loadName") => `(tactic| refine wpAny_loadName_local rfl rfl (Fr.ns (by assumption)) (by first | rfl | assumption) ?_)
local macro_rules | `(tactic| walk_at "callWith ref") => `(tactic| refine callWith_K (Gd.X (by assumption)) (by kernel_rfl) ?_)
local macro_rules | `(tactic| walk_at "And") => `(tactic| ((with_reducible show Frag.In _ _ ∧ _); refine ⟨Frag.In.keeps (Gd.X (by assumption)) (Fr.keep (by assumption)), ?_⟩; (try dsimp only [List.nil_append, List.cons_append])))


local macro_rules | `(tactic| news_mem) => `(tactic| first | exact .head _ | (refine .tail _ ?_; news_mem))

theorem sends_stmt {w : World} {s : Shared} {fa : Addr} {cd : Value} {h₁ : Heap} {tk : Nat} {m : Str → Option Value} {news : List (Addr × Obj)} {E : Value → Shared → Prop} {Q : Flow → Shared → Prop} {T : Addr} {lt : List (Str × Tok)} {k : Nat} {ts : List (List Nat)} (G : Gd w s.heap)
    (F : Fr s.heap s.heap.objs.size h₁ m) (N : News s.heap s.heap.objs.size h₁ news) (hT : (T, lst lt k) ∈ news) (hlt : lt.map (·.1) = ts.map S) (hts : ∀ z ∈ ts, z.length ≤ 500) (ht11 : ts.length ≤ 20) (hm : m "texts" = some (.ref T))
    (hQ : ∀ h' tk' W k' (lq : List (Str × Tok)), lq.map (·.1) = (ts.map (fun z => dotF true (fixF false z))).map S → Fr s.heap s.heap.objs.size h' (fun z => if z = "sends" then some (.ref W) else m z) → News s.heap s.heap.objs.size h' ((W, lst lq k') :: news) →
      wpAny (model PP w) (callerA.deeper (lawEnv s.heap.objs.size fa cd)) (execs (lawBody.drop 10) (lawEnv s.heap.objs.size fa cd)) Q E { s with heap := h', toks := tk' }) :
    wpAny (model PP w) (callerA.deeper (lawEnv s.heap.objs.size fa cd)) (execs (lawBody.drop 9) (lawEnv s.heap.objs.size fa cd)) Q E { s with heap := h₁, toks := tk } := by
  refine execs_as (l' := _ :: _) rfl ?_
  walk1
  refine lcAssign (by with_unfolding_all rfl) (by with_unfolding_all first | exact closureFor_none (by decide) | rfl) (by decide) (by with_unfolding_all rfl) (by decide) (by rfl) (by rfl) ?_ (by intro _; with_unfolding_all rfl)
  walk1
  have rm := callerA_room
  refine src_list rfl ⟨_, (N _ hT).1, rfl, k, rfl⟩ (by rw [List.size_toArray, strs_len hlt, sizeLine_eq]; omega) (fun i v => ∃ z t, ts[i]? = some z ∧ v = .str (S (dotF true (fixF false z))) t) (fun C => ⟨rfl, rfl⟩) ?_ ?_
  · intro C i v s₃ m₃ E' hv hmv F₃
    obtain ⟨z, t, hz, rfl⟩ := strs_at hlt hv
    have GF := G.keeps F.keep
    dsimp only at F₃
    iterate 6 walk1
    refine ⟨GF.X.keeps F₃.keep, ?_⟩
    refine wpAny_mono (quote_spec (GF.keeps F₃.keep) (by show callerA.depth + 1 < _; omega) (hts z (List.mem_of_getElem? hz))) (fun v s' r => ?_) (fun _ _ x => x)
    obtain ⟨⟨t', rfl⟩, kp⟩ := r
    exact ⟨⟨z, t', hz, rfl⟩, kp⟩
  · intro s₂ wr ys up hw e hlen hys
    refine fin_la F N up hw e fun D k' h' tk' F₅ N₅ => ?_
    obtain ⟨lq, rfl, hq2⟩ := strs_of ((ts.map (fun z => dotF true (fixF false z))).map S) ys (by rw [hlen, List.size_toArray, strs_len hlt]; simp) fun i y hy => by
      obtain ⟨z, t, h1, rfl⟩ := hys i y hy
      exact ⟨S (dotF true (fixF false z)), t, by simp [h1], rfl⟩
    exact hQ h' _ D k' lq hq2 F₅ N₅

theorem allOk_S {zs : List (List Nat)} (h : ∀ z ∈ zs, ∀ c ∈ z, c < 64) : AllOk (zs.map S) := by
  intro x hx
  obtain ⟨z, hz, rfl⟩ := List.mem_map.mp hx
  unfold PyData.strOk
  rw [Array.all_eq_true']
  intro c hc
  have := h z hz c (by simpa [S] using hc)
  simp; omega
theorem phi_lt : ∀ {z : List Nat}, (∀ c ∈ z, c < 64) → ∀ c ∈ phi z, c < 64
  | [], _, c, hc => by cases hc
  | a :: r, h, c, hc => by
    have ih := phi_lt (z := r) fun x hx => h x (.tail _ hx)
    have ha := h a (.head _)
    simp only [phi] at hc
    split at hc
    · rcases List.mem_cons.mp hc with rfl | hc
      · decide
      · rcases List.mem_cons.mp hc with rfl | hc
        · decide
        · exact ih c hc
    · rcases List.mem_cons.mp hc with rfl | hc
      · exact ha
      · exact ih c hc
theorem evens_if {w : World} {s : Shared} {fa : Addr} {cd : Value} {h₁ : Heap} {tk : Nat} {m : Str → Option Value} {news : List (Addr × Obj)} {E : Value → Shared → Prop} {Q : Flow → Shared → Prop} {W V : Addr} {lw lv : List (Str × Tok)} {k k' : Nat} {ws : List (List Nat)} (G : Gd w s.heap)
    (F : Fr s.heap s.heap.objs.size h₁ m) (N : News s.heap s.heap.objs.size h₁ news) (hW : (W, lst lw k) ∈ news) (hV : (V, lst lv k') ∈ news) (hlw : lw.map (·.1) = ws.map S) (hlv : lv.map (·.1) = (ws.map phi).map S) (hws : ∀ z ∈ ws, z.length ≤ 100 ∧ ∀ c ∈ z, c < 64) (ht11 : ws.length ≤ 20) (hm : m "words" = some (.ref W)) (hm2 : m "evens" = some (.ref V)) (htk : 1 ≤ tk)
    (hQ : ∀ h' tk', Fr s.heap s.heap.objs.size h' m → News s.heap s.heap.objs.size h' news →
      wpAny (model PP w) (callerA.deeper (lawEnv s.heap.objs.size fa cd)) (execs (lawBody.drop 9) (lawEnv s.heap.objs.size fa cd)) Q E { s with heap := h', toks := tk' }) :
    wpAny (model PP w) (callerA.deeper (lawEnv s.heap.objs.size fa cd)) (execs (lawBody.drop 8) (lawEnv s.heap.objs.size fa cd)) Q E { s with heap := h₁, toks := tk } := by
  refine execs_as (l' := _ :: _) rfl ?_
  iterate 4 walk1
  refine lcT (by with_unfolding_all first | exact closureFor_none (by decide) | rfl) (by decide) (by with_unfolding_all rfl) (by decide) ?_ (by intro _; with_unfolding_all rfl)
  walk1
  have ru := callerA_units
  refine src_listT rfl htk ⟨_, (N _ hW).1, rfl, k, rfl⟩ (by rw [List.size_toArray, strs_len hlw, sizeLine_eq]; omega) (fun i v => ∃ z t, ws[i]? = some z ∧ v = .str (S (phi z)) t) (fun C => ⟨rfl, rfl⟩) ?_ ?_
  · intro C i v s₃ m₃ E' hv hmv F₃ htk₃
    obtain ⟨z, t, hz, rfl⟩ := strs_at hlw hv
    have GF := G.keeps F.keep
    dsimp only at F₃
    iterate 9 walk1
    have hz1 := (hws z (List.mem_of_getElem? hz)).1
    refine SC.replaceW (fun q => by have q' : @Eq Nat s₃.toks 0 := q; omega) (fun q => by have q' : @Eq Nat (s₃.toks + 1) 0 := q; omega) (by simp) (by decide +kernel) (by rw [S_length]; omega) (by decide +kernel) fun t' k' => ?_
    exact ⟨⟨z, t', hz, by rw [replace_S]⟩, _, _, rfl, fun _ _ e => e⟩
  · intro s₂ wr ys up hw e hlen hys
    refine fin_lc F N up hw e fun D k' h' tk' F₅ N₅ => ?_
    obtain ⟨lq, rfl, hq2⟩ := strs_of ((ws.map phi).map S) ys (by rw [hlen, List.size_toArray, strs_len hlw]; simp) fun i y hy => by
      obtain ⟨z, t, h1, rfl⟩ := hys i y hy
      exact ⟨S (phi z), t, by simp [h1], rfl⟩
    have ok : AllOk ((ws.map phi).map S) := allOk_S fun z hz => by
      obtain ⟨z', hz', rfl⟩ := List.mem_map.mp hz
      exact phi_lt (hws z' hz').2
    refine ne_strs ⟨_, (N₅ _ (.tail _ hV)).1, rfl, _, rfl⟩ (News.isList N₅ (.head _)) (hlv ▸ ok) (hq2 ▸ ok) (by show callerA.units + 3 + 64 < cLine; omega) ?_
    rw [hlv, hq2]
    rw [decide_eq_true rfl]
    iterate 3 walk1
    exact hQ _ _ F₅ (News.tail N₅)
end Mine
end
-- part L6
section
open PySem PySem.W PyProof.Rows
set_option Elab.async false
set_option maxRecDepth 100000
set_option maxHeartbeats 4000000
set_option pp.deepTerms false
set_option pp.deepTerms.threshold 5
set_option pp.maxSteps 20000
set_option linter.unusedSimpArgs false
set_option linter.unusedVariables false
namespace Mine
local macro_rules | `(tactic| walk_at "eval Name") => `(tactic| first
  | refine nmL (by assumption) (by first | rfl | assumption) ?_
  | refine nmC2 rfl (by assumption) (by news_mem) (by assumption) ?_
  | refine nmC3 rfl (by assumption) ?_
  | refine nmG (by assumption) (by assumption) (by first | exact gl_twin_re_1 _ | exact gl_twin_re_2 _ | exact gl_CRLF _ | exact gl_quotedata _ | exact gl_fix_eols _ | exact gl_parse_varint _ | exact gl_law_numbers _ | exact gl_law_word _ | exact gl_law_spelled _ | exact gl_law_mails _ | exact gl_law_sent _ | exact gl_law_octets _ | exact gl_law_value _ | exact gl_law_primes _) ?_
  | refine nmB (by assumption) (by assumption) (by first | exact gb_next _ | exact gb_enumerate _ | exact gb_chr _ | exact gb_ord _ | exact gb_len _ | exact gb_sum _ | exact gb_range _ | exact gb_iter _ | exact gb_StopIteration _) (by boot_fast) ?_)
local macro_rules | `(tactic| walk_at "storeName") => `(tactic| (refine storeX_L (by assumption) (by assumption) ?_; intro h' F' N'; dsimp only at F' N' ⊢))

local macro_rules | `(tactic| walk_at "loadName") => `(tactic| refine wpAny_loadName_local rfl rfl (Fr.ns (by assumption)) (by first | rfl | assumption) ?_)
local macro_rules | `(tactic| walk_at "callWith ref") => `(tactic| refine callWith_K (Gd.X (by assumption)) (by kernel_rfl) ?_)
local macro_rules | `(tactic| walk_at "And") => `(tactic| ((with_reducible show Frag.In _ _ ∧ _); refine ⟨Frag.In.keeps (Gd.X (by assumption)) (Fr.keep (by assumption)), ?_⟩; (try dsimp only [List.nil_append, List.cons_append])))


local macro_rules | `(tactic| news_mem) => `(tactic| first | exact .head _ | (refine .tail _ ?_; news_mem))


theorem dotF_lt : ∀ {z : List Nat} {b : Bool}, (∀ c ∈ z, c < 64) → ∀ c ∈ dotF b z, c < 64
  | [], _, _, c, hc => by cases hc
  | a :: r, b, h, c, hc => by
    have ha := h a (.head _)
    have hr : ∀ c ∈ r, c < 64 := fun x hx => h x (.tail _ hx)
    simp only [dotF] at hc
    split at hc
    · rcases List.mem_cons.mp hc with rfl | hc
      · decide
      · rcases List.mem_cons.mp hc with rfl | hc
        · decide
        · exact dotF_lt hr c hc
    · rcases List.mem_cons.mp hc with rfl | hc
      · exact ha
      · exact dotF_lt hr c hc
theorem sends_if {w : World} {s : Shared} {fa : Addr} {cd : Value} {h₁ : Heap} {tk : Nat} {m : Str → Option Value} {news : List (Addr × Obj)} {E : Value → Shared → Prop} {Q : Flow → Shared → Prop} {W V : Addr} {lw lv : List (Str × Tok)} {k k' : Nat} {ws : List (List Nat)} (G : Gd w s.heap)
    (F : Fr s.heap s.heap.objs.size h₁ m) (N : News s.heap s.heap.objs.size h₁ news) (hW : (W, lst lw k) ∈ news) (hV : (V, lst lv k') ∈ news) (hlw : lw.map (·.1) = ws.map S) (hlv : lv.map (·.1) = (ws.map fun z => dotF true (phi z)).map S) (hws : ∀ z ∈ ws, z.length ≤ 100 ∧ ∀ c ∈ z, c < 64) (ht11 : ws.length ≤ 20) (hm : m "words" = some (.ref W)) (hm2 : m "sends" = some (.ref V))
    (hQ : ∀ h' tk', Fr s.heap s.heap.objs.size h' m → News s.heap s.heap.objs.size h' news →
      wpAny (model PP w) (callerA.deeper (lawEnv s.heap.objs.size fa cd)) (execs (lawBody.drop 11) (lawEnv s.heap.objs.size fa cd)) Q E { s with heap := h', toks := tk' }) :
    wpAny (model PP w) (callerA.deeper (lawEnv s.heap.objs.size fa cd)) (execs (lawBody.drop 10) (lawEnv s.heap.objs.size fa cd)) Q E { s with heap := h₁, toks := tk } := by
  refine execs_as (l' := _ :: _) rfl ?_
  iterate 4 walk1
  refine lc (by with_unfolding_all first | exact closureFor_none (by decide) | rfl) (by decide) (by with_unfolding_all rfl) (by decide) ?_ (by intro _; with_unfolding_all rfl)
  walk1
  have ru := callerA_units
  refine src_list rfl ⟨_, (N _ hW).1, rfl, k, rfl⟩ (by rw [List.size_toArray, strs_len hlw, sizeLine_eq]; omega) (fun i v => ∃ z t, ws[i]? = some z ∧ v = .str (S (dotF true (phi z))) t) (fun C => ⟨rfl, rfl⟩) ?_ ?_
  · intro C i v s₃ m₃ E' hv hmv F₃
    obtain ⟨z, t, hz, rfl⟩ := strs_at hlw hv
    have GF := G.keeps F.keep
    dsimp only at F₃
    iterate 6 walk1
    refine ⟨GF.X.keeps F₃.keep, ?_⟩
    have rm := callerA_room
    refine wpAny_mono (sent_spec (GF.keeps F₃.keep) (by show callerA.depth + 1 < _; omega) rfl (hws z (List.mem_of_getElem? hz)).1) (fun v s' r => ?_) (fun _ _ x => x)
    obtain ⟨⟨t', rfl⟩, kp⟩ := r
    exact ⟨⟨z, t', hz, rfl⟩, kp⟩
  · intro s₂ wr ys up hw e hlen hys
    refine fin_lc F N up hw e fun D k' h' tk' F₅ N₅ => ?_
    obtain ⟨lq, rfl, hq2⟩ := strs_of ((ws.map fun z => dotF true (phi z)).map S) ys (by rw [hlen, List.size_toArray, strs_len hlw]; simp) fun i y hy => by
      obtain ⟨z, t, h1, rfl⟩ := hys i y hy
      exact ⟨S (dotF true (phi z)), t, by simp [h1], rfl⟩
    have ok : AllOk ((ws.map fun z => dotF true (phi z)).map S) := allOk_S fun z hz => by
      obtain ⟨z', hz', rfl⟩ := List.mem_map.mp hz
      exact dotF_lt (phi_lt (hws z' hz').2)
    refine ne_strs ⟨_, (N₅ _ (.tail _ hV)).1, rfl, _, rfl⟩ (News.isList N₅ (.head _)) (hlv ▸ ok) (hq2 ▸ ok) (by show callerA.units + 3 + 64 < cLine; omega) ?_
    rw [hlv, hq2]
    rw [decide_eq_true rfl]
    iterate 3 walk1
    exact hQ _ _ F₅ (News.tail N₅)
end Mine
end
-- part B15
section
local macro_rules | `(tactic| walk_at "pad") => `(tactic| skip)
local macro_rules | `(tactic| walk_at "pad") => `(tactic| skip)
local macro_rules | `(tactic| walk_at "pad") => `(tactic| skip)
local macro_rules | `(tactic| walk_at "pad") => `(tactic| skip)
local macro_rules | `(tactic| walk_at "pad") => `(tactic| skip)
local macro_rules | `(tactic| walk_at "pad") => `(tactic| skip)
local macro_rules | `(tactic| walk_at "pad") => `(tactic| skip)
local macro_rules | `(tactic| walk_at "pad") => `(tactic| skip)
local macro_rules | `(tactic| walk_at "pad") => `(tactic| skip)
local macro_rules | `(tactic| walk_at "pad") => `(tactic| skip)
local macro_rules | `(tactic| walk_at "pad") => `(tactic| skip)
local macro_rules | `(tactic| walk_at "pad") => `(tactic| skip)
local macro_rules | `(tactic| walk_at "pad") => `(tactic| skip)
local macro_rules | `(tactic| walk_at "pad") => `(tactic| skip)
open PySem PySem.W PyProof.Rows
set_option Elab.async false
set_option maxRecDepth 100000
set_option maxHeartbeats 4000000
set_option linter.unusedVariables false
namespace Mine
/-- what a turn leaves; the word may speak of the heap -/
def CEndM (mu : List Addr) (L D : Addr) (s₃ : Shared) (J : List Value → (Str → Option Value) → Heap → Prop) (s₅ : Shared) : Prop :=
  ∃ h' tk m' ys, s₅ = { s₃ with heap := h', toks := tk } ∧ h'.Ns L m' ∧ h'.PlainList D (List.toArray ys) ∧ J ys m' h' ∧ ∀ b o, b ≠ L → b ≠ D → b ∉ mu → s₃.heap.get? b = some o → h'.get? b = some o

theorem levelM {w : World} {A : Around} {target : PySem.Expr} {I D L : Addr} {fp wr : List Addr} {n : Nat} {cok : Env → Prop} {Bd : Nat → (Str → Option Value) → Prop} {St : Nat → Heap → Prop} {tn : List Str}
    {e : PySem.Expr} {d : Nat} {env : Env} {B : (Shared → Prop) → Shared → Prop} {R : Result → Shared → Prop} {s₀ : Shared} {m₀ : Str → Option Value} {ys₀ : List Value}
    (LR : LoopRule w A target (.ref I) env e d (.ref D) R B) (T : CT2 w A target I fp wr n cok Bd St tn) (hcok : cok env) (hL : env.locals = L) (hLf : L ∉ fp) (hDf : D ∉ fp) (hDL : D ≠ L) (mu : List Addr) (hmu : ∀ b ∈ fp, b ∉ mu)
    (J : Nat → List Value → (Str → Option Value) → Heap → Prop) (hJs : ∀ i ys m h h', J i ys m h → (∀ b o, b ≠ L → b ≠ D → b ∉ wr → h.get? b = some o → h'.get? b = some o) → J i ys m h')
    (hst : St 0 s₀.heap) (hn : s₀.heap.Ns L m₀) (hp : s₀.heap.PlainList D ys₀.toArray) (hJ : J 0 ys₀ m₀ s₀.heap)
    (turn : ∀ i h₃ tk₃ m₂ m₃ ys (K : Shared → Prop), i < n → Bd i m₃ → J i ys m₂ h₃ → (∀ z, z ∉ tn → m₃ z = m₂ z) → h₃.Ns L m₃ → h₃.PlainList D ys.toArray →
      St (i + 1) h₃ → (∀ b o, b ≠ L → b ≠ D → b ∉ wr → b ∉ mu → s₀.heap.get? b = some o → h₃.get? b = some o) → (∀ s₅, CEndM mu L D { s₀ with heap := h₃, toks := tk₃ } (J (i + 1)) s₅ → K s₅) → B K { s₀ with heap := h₃, toks := tk₃ })
    (hR : ∀ h' tk m' ys, h'.Ns L m' → h'.PlainList D (List.toArray ys) → J n ys m' h' → (∀ b o, b ≠ L → b ≠ D → b ∉ wr → b ∉ mu → s₀.heap.get? b = some o → h'.get? b = some o) → R (.ok .next) { s₀ with heap := h', toks := tk }) :
    codeAny (model PP w) A (.compLoop e d (.ref I) (.ref D) env) R s₀ := by
  subst hL
  have hLw : env.locals ∉ wr := fun h => hLf (T.sub _ h)
  have hDw : D ∉ wr := fun h => hDf (T.sub _ h)
  refine LR (fun k s' => ∃ i h' tk m' ys, s' = { s₀ with heap := h', toks := tk } ∧ St i h' ∧ h'.Ns env.locals m' ∧ h'.PlainList D (List.toArray ys) ∧ J i ys m' h' ∧ i ≤ n ∧ k = n + 1 - i ∧
    (∀ b o, b ≠ env.locals → b ≠ D → b ∉ wr → b ∉ mu → s₀.heap.get? b = some o → h'.get? b = some o)) ?_ (n + 1) s₀ ⟨0, s₀.heap, s₀.toks, m₀, ys₀, rfl, hst, hn, hp, hJ, Nat.zero_le _, rfl, fun _ _ _ _ _ _ e => e⟩
  rintro k s' ⟨i, h', tk, m', ys, rfl, hst', hn', hp', hJ', hi, rfl, hk⟩
  by_cases hlt : i < n
  · refine wpAny_mono (T.item i _ env m' (fun s₂ => B (fun s₅ => ∃ m, m < n + 1 - i ∧ ∃ i h' tk m' ys, s₅ = { s₀ with heap := h', toks := tk } ∧ St i h' ∧ h'.Ns env.locals m' ∧ h'.PlainList D (List.toArray ys) ∧ J i ys m' h' ∧ i ≤ n ∧ m = n + 1 - i ∧
        (∀ b o, b ≠ env.locals → b ≠ D → b ∉ wr → b ∉ mu → s₀.heap.get? b = some o → h'.get? b = some o)) s₂) _ hlt hst' hcok hLf hn' fun h₂ tk₂ m₂ hst₂ hn₂ hBd hsame hk₂ => ?_) (fun r s₁ h => ?_) fun _ _ e => e
    rotate_left
    · cases r with
      | none => exact h.elim
      | some v => exact h
    refine turn i h₂ tk₂ m' m₂ ys _ hlt hBd (hJs _ _ _ _ _ hJ' fun b o h1 h2 h3 e => hk₂ b o h1 h3 e) hsame hn₂ (hp'.at fun o e => hk₂ D o hDL hDw e) hst₂ (fun b o h1 h2 h3 h4 e => hk₂ b o h1 h3 (hk b o h1 h2 h3 h4 e)) ?_
    rintro s₅ ⟨h₅, tk₅, m₅, ys₅, rfl, hn₅, hp₅, hJ₅, hk₅⟩
    refine ⟨n + 1 - (i + 1), by omega, i + 1, h₅, tk₅, m₅, ys₅, rfl, ?_, hn₅, hp₅, hJ₅, hlt, rfl, fun b o h1 h2 h3 h4 e => hk₅ b o h1 h2 h4 (hk₂ b o h1 h3 (hk b o h1 h2 h3 h4 e))⟩
    exact T.frame _ _ _ hst₂ fun b hb o e => hk₅ b o (fun q => hLf (q ▸ hb)) (fun q => hDf (q ▸ hb)) (hmu b hb) e
  · have hin : i = n := by omega
    subst hin
    refine T.done _ _ _ hst' fun h₂ tk₂ hk₂ => ?_
    exact hR h₂ tk₂ m' ys (hn'.at' fun o e => hk₂ _ o hLw e) (hp'.at fun o e => hk₂ _ o hDw e) (hJs _ _ _ _ _ hJ' fun b o h1 h2 h3 e => hk₂ b o h3 e) fun b o h1 h2 h3 h4 e => hk₂ b o h3 (hk b o h1 h2 h3 h4 e)


/-- as LcG, with an elder object that the elements turn -/
def LcM (w : World) (A : Around) (e : PySem.Expr) (scope : Scope) (cl : List (Str × Addr)) (env : Env) (Fin : Shared → List Addr → List Value → (List Value → Heap → Prop) → Prop) (it : Value) (s₂ : Shared) : Prop :=
  ∃ wr, ∃ Pf : List Value → Heap → Prop, (∀ ys h, Pf ys h → Fin s₂ wr ys Pf) ∧ (∀ ys h h', Pf ys h → (∀ b o, @LT.lt Nat _ b s₂.heap.objs.size → b ≠ env.locals → h.get? b = some o → h'.get? b = some o) → Pf ys h') ∧
    ∀ D C h₃ tk₃ m₃ (R : Result → Shared → Prop), s₂.heap.objs.size ≤ D → s₂.heap.objs.size ≤ C → D ≠ C → h₃.PlainList D #[] → h₃.Ns C m₃ → (∀ b o, s₂.heap.get? b = some o → h₃.get? b = some o) →
      (∀ h' tk m' ys, h'.Ns C m' → h'.PlainList D (List.toArray ys) → Pf ys h' → (∀ b o, b ∉ wr → s₂.heap.get? b = some o → h'.get? b = some o) → R (.ok .next) { s₂ with heap := h', toks := tk }) →
      codeAny (model PP w) A (.compStart e 0 it (.ref D) (compEnvC scope cl C env)) R { s₂ with heap := h₃, toks := tk₃ }

def FinLM (L : Addr) (y : Str) (Q : Flow → Shared → Prop) (s₂ : Shared) (wr : List Addr) (ys : List Value) (Pf : List Value → Heap → Prop) : Prop :=
  L ∉ wr ∧ ∃ m, s₂.heap.Ns L m ∧ ∀ D h' tk, s₂.heap.get? D = none → h'.PlainList D ys.toArray → Pf ys h' → h'.Ns L (fun z => if z = y then some (.ref D) else m z) → (∀ b o, b ≠ L → b ∉ wr → s₂.heap.get? b = some o → h'.get? b = some o) → Q .next { s₂ with heap := h', toks := tk }

theorem lcMAssign {w : World} {A : Around} {E : Value → Shared → Prop} {env : Env} {s : Shared} {elt target iter : PySem.Expr} {ifs : List PySem.Expr} {rest : List Comprehension} {y : Str} {py : Pos} {scope : Scope} {cl : List (Str × Addr)} {pos spos : Pos} {Q : Flow → Shared → Prop}
    (hsw : swapsWith (.ListComp elt (⟨target, iter, ifs, 0⟩ :: rest) scope pos) (some (.Name y py)) spos.line env = pure true)
    (hclos : closureFor scope env = pure cl) (hcell : ∀ y ∈ scope.names, y.2 ≠ .cell) (hkind : scope.kind = .function)
    (hnames : ∀ y ∈ scope.names, y.2 = .local → scope.names.lookup y.1 = some .local)
    (hy : env.kindOf y = some .local) (hpc : (env.scope.kind == .class || (env.scope.kind == .module && env.locals != env.globals)) = false)
    (h : wpAny (model PP w) A (eval iter env) (fun xv s₁ => wpAny (model PP w) A (pyIter xv) (LcM w A (.ListComp elt (⟨target, iter, ifs, 0⟩ :: rest) scope pos) scope cl env (FinLM env.locals y Q)) E s₁) E s)
    (hs : ∀ x, foldedSetIterable iter env x = pure x := by intro _; rfl) :
    wpAny (model PP w) A (exec (.Assign [.Name y py] (.ListComp elt (⟨target, iter, ifs, 0⟩ :: rest) scope pos) spos) env) Q E s := by
  rw [exec_Assign_Name_used _ _ _ _ hsw]
  refine wpAny_bind (wpAny_standAt (wpAny_bind ?_))
  show wpAny _ A (do let _ ← comprehension (.ListComp elt (⟨target, iter, ifs, 0⟩ :: rest) scope pos) scope env _ (newList []) false (eval iter env) (some (assign (.Name y py) env))) _ _ s
  refine wpAny_bind (wpAny_mono (wpAny_comprehension_free (use := some (assign (.Name y py) env)) (Q := fun _ s' => Q .next s') rfl hs hclos hkind hnames
    (wpAny_mono h (fun xv s₁ h₁ => wpAny_mono h₁ (fun it s₂ h₂ => ?_) fun _ _ e => e) fun _ _ e => e)) (fun _ s' hq => wpAny_pure (wpAny_pure hq)) fun _ _ e => e)
  obtain ⟨wr, Pf, hPf, hst, loop⟩ := h₂
  refine wpAny_newObj_type (wpAny_newFunctionEnv hcell (by intro y hy; simp at hy) (fun h₁ hns₁ hsb₁ => ?_) hkind)
  dsimp only at hns₁ hsb₁ ⊢
  generalize hH2 : s₂.heap.push { cls := .type "list", dict := none, data := .seq ([] : List Value).toArray } = H2 at hns₁ hsb₁ ⊢
  have hC : H2.objs.size = s₂.heap.objs.size + 1 := by rw [← hH2, Heap.size_push]
  have hDC : s₂.heap.objs.size ≠ H2.objs.size := by rw [hC]; exact Nat.ne_of_lt (Nat.lt_succ_self _)
  have old : ∀ b o, s₂.heap.get? b = some o → h₁.get? b = some o := fun b o e => hsb₁.extBut b o (by have := Heap.lt_size e; rw [hC]; exact Nat.ne_of_lt (Nat.lt_succ_of_lt this)) (Heap.get?_push_of_some _ (hH2 ▸ Heap.get?_push_of_some _ e))
  have hacc : h₁.PlainList s₂.heap.objs.size #[] := ⟨_, hsb₁.extBut _ _ hDC (Heap.get?_push_of_some _ (hH2 ▸ Heap.get?_push_size _ rfl))⟩
  refine loop s₂.heap.objs.size H2.objs.size h₁ _ _ (compPost (model PP w) A E (some (assign (.Name y py) env)) (fun _ s' => Q .next s') (.ref s₂.heap.objs.size) H2.objs.size) (Nat.le_refl _) (by rw [hC]; exact Nat.le_succ _) hDC hacc hns₁ old fun h' tk m' ys hnC hplD hP hk => ?_
  obtain ⟨hLf, m, hn, hQ⟩ := hPf ys h' hP
  have hDn : s₂.heap.get? s₂.heap.objs.size = none := get_none_of_le (Nat.le_refl _)
  have hCn : s₂.heap.get? H2.objs.size = none := get_none_of_le (by rw [hC]; exact Nat.le_succ _)
  have hLC : env.locals ≠ H2.objs.size := by rintro q; obtain ⟨o, _, _, ho, _⟩ := hn; rw [q, hCn] at ho; cases ho
  have hLD : env.locals ≠ s₂.heap.objs.size := by rintro q; obtain ⟨o, _, _, ho, _⟩ := hn; rw [q, hDn] at ho; cases ho
  show wpAny _ A (assign (.Name y py) env (.ref s₂.heap.objs.size)) _ _ _
  refine wpAny_assign_Name (wpAny_storeName_local hy (hn.at' fun o e => hk _ o hLf e) (fun h₂ hn₂ hs₂ => ?_) hpc)
  refine ⟨m', hnC.sameBut hs₂ (Ne.symm hLC), fun h₃ hs₃ => ?_⟩
  refine hQ _ h₃ _ hDn ((hplD.extBut hs₂.extBut (Ne.symm hLD)).extBut hs₃.extBut hDC) (hst _ _ _ hP fun b o hb hbL e => ?_) (hn₂.sameBut hs₃ hLC) fun b o hbL hbf e =>
    hs₃.extBut b o (fun q => by rw [q, hCn] at e; cases e) (hs₂.extBut b o hbL (hk b o hbf e))
  refine hs₃.extBut _ _ (fun q => ?_) (hs₂.extBut _ _ hbL e)
  have q' : @Eq Nat b H2.objs.size := q
  omega

section
variable {w : World} {A : Around} {E : Value → Shared → Prop} {s : Shared}
theorem entry_iter : entryFor table "iter" = some Builtin.«iter» := entryFor_of_fast (by kernel_rfl)
theorem args_iter (a : Value) : argsOk "iter" ⟨[a], []⟩ := by unfold argsOk; kernel_rfl
theorem iter_list {l : Addr} {items : Array Value} {Q : Value → Shared → Prop} (hl : s.heap.IsList l items)
    (h : Q (.ref s.heap.objs.size) { s with heap := s.heap.push { cls := .type "list_iterator", data := .fields #[.ref l, .int 0 0] } }) :
    wpAny (model PP w) A (call (.builtin "iter") [.ref l]) Q E s := by
  refine Calls.call_function_entry (by decide +kernel) (by decide +kernel) entry_iter (args_iter _) ?_
  unfold Builtin.«iter»
  refine wpAny_bind (m := someArgs "iter" 1 2 _) (wpAny_of_eq (a := [Value.ref l]) (by first | rfl | kernel_rfl!) ?_)
  dsimp only
  refine wpAny_bind (wpAny_pyIter_list hl ?_)
  exact wpAny_pure ⟨_, rfl, h⟩
end
end Mine
end
-- part B16
section
open PySem PySem.W PyProof.Rows
set_option Elab.async false
set_option maxRecDepth 100000
set_option maxHeartbeats 4000000
set_option linter.unusedVariables false
namespace Mine
theorem octs_length (z : List Nat) : (octs z).length = z.length := by simp [octs]
theorem flat_len : ∀ (l : List (List Nat)), (∀ z ∈ l, z.length ≤ 100) → ((l.map octs).flatten).length ≤ 100 * l.length
  | [], _ => by simp
  | z :: r, h => by
    have ih := flat_len r fun x hx => h x (.tail _ hx)
    have hz := h z (.head _)
    simp only [List.map_cons, List.flatten_cons, List.length_append, List.length_cons, octs_length]
    omega

/-- [octet for even in evens for octet in octets(even)] -/
theorem tape_src {w : World} {A : Around} {E : Value → Shared → Prop} {s : Shared} {env : Env} {elt iter iter₂ : PySem.Expr} {xe xo : Str} {pe po pos : Pos} {scope : Scope} {cl : List (Str × Addr)} {ax : Addr} {le : List (Str × Tok)} {es : List (List Nat)} {Fin : Shared → List Addr → List Value → Prop}
    (hh : A.handled = none) (hl : s.heap.IsList ax (strValues le).toArray) (hle : le.map (·.1) = es.map S) (hes : ∀ z ∈ es, z.length ≤ 100) (he20 : es.length ≤ 20) (hs2 : ∀ C x, foldedSetIterable iter₂ (compEnvC scope cl C env) x = pure x)
    (hce : ∀ C, okN xe (compEnvC scope cl C env)) (hco : ∀ C, okN xo (compEnvC scope cl C env))
    (hiter : ∀ C s₃ m₃ E' z t, z ∈ es → m₃ xe = some (.str (S z) t) → Fr s.heap C s₃.heap m₃ → wpAny (model PP w) A (eval iter₂ (compEnvC scope cl C env)) (RetL (fun items => IntsAre items (octs z)) s₃) E' s₃)
    (helt : ∀ C s₃ m₃ E' v, m₃ xo = some v → Fr s.heap C s₃.heap m₃ → wpAny (model PP w) A (eval elt (compEnvC scope cl C env)) (fun xv s₄ => xv = v ∧ Keeps s₃ s₄) E' s₃)
    (hF : ∀ (s₂ : Shared) (wr : List Addr) (ys : List Value), (∀ b o, s.heap.get? b = some o → s₂.heap.get? b = some o) → (∀ b o, s.heap.get? b = some o → b ∉ wr) → s₂ = { s with heap := s₂.heap, toks := s₂.toks } → IntsAre ys (es.map octs).flatten → Fin s₂ wr ys) :
    wpAny (model PP w) A (pyIter (.ref ax)) (LcG w A (.ListComp elt [⟨.Name xe pe, iter, [], 0⟩, ⟨.Name xo po, iter₂, [], 0⟩] scope pos) scope cl env Fin) E s := by
  have haI : @LT.lt Nat _ ax s.heap.objs.size := by obtain ⟨o, ho, _⟩ := hl; exact Heap.lt_size ho
  refine wpAny_pyIter_list hl ⟨[s.heap.objs.size], fun ys => IntsAre ys (es.map octs).flatten, ?_, ?_⟩
  · intro ys hys
    refine hF _ _ ys (fun b o e => Heap.get?_push_of_some _ e) (fun b o e hb => ?_) rfl hys
    simp only [List.mem_cons, List.not_mem_nil, or_false] at hb
    exact Nat.ne_of_lt (Heap.lt_size e) hb
  intro D C h₃ tk₃ m₃ R hD hC hDC hpl hn hk hR
  rw [Heap.size_push] at hD hC
  have T₁ := CT2.name (w := w) (A := A) (px := pe) (x := xe) (Walks.list (prog := PP) (w := w) (A := A) hh s.heap.objs.size ax (Nat.ne_of_lt haI) (strValues le).toArray)
  have hnf : ∀ a, s.heap.objs.size + 1 ≤ a → a ∉ [s.heap.objs.size, ax] := fun a ha hb => by
    simp only [List.mem_cons, List.not_mem_nil, or_false] at hb
    rcases hb with h | h
    · have h' : @Eq Nat a s.heap.objs.size := h
      omega
    · have h' : @Eq Nat a ax := h
      omega
  have hst : ∀ h : Heap, (∀ b o, (s.heap.push { cls := .type "list_iterator", data := .fields #[Value.ref ax, rawInt 0] }).get? b = some o → h.get? b = some o) → h.IsListIter s.heap.objs.size ax 0 ∧ h.IsList ax (strValues le).toArray := fun h hk =>
    ⟨⟨_, hk _ _ (Heap.get?_push_size _ rfl), rfl, rfl⟩, isList_up hl fun b o e => hk _ _ (Heap.get?_push_of_some _ e)⟩
  have old : ∀ {h : Heap} {b : Addr} {o : Obj}, (∀ b o, b ≠ C → b ≠ D → b ∉ [s.heap.objs.size] → h₃.get? b = some o → h.get? b = some o) → s.heap.get? b = some o → h.get? b = some o := fun {h b o} hk₄ e => by
    have hlt : @LT.lt Nat _ b s.heap.objs.size := Heap.lt_size e
    refine hk₄ b o (fun q => ?_) (fun q => ?_) (fun q => ?_) (hk b o (Heap.get?_push_of_some _ e))
    · have q' : @Eq Nat b C := q
      omega
    · have q' : @Eq Nat b D := q
      omega
    · simp only [List.mem_cons, List.not_mem_nil, or_false] at q
      exact Nat.ne_of_lt hlt q
  have loop : ∀ tk, codeAny (model PP w) A (.compLoop (.ListComp elt [⟨.Name xe pe, iter, [], 0⟩, ⟨.Name xo po, iter₂, [], 0⟩] scope pos) 0 (.ref s.heap.objs.size) (.ref D) (compEnvC scope cl C env)) R { s with heap := h₃, toks := tk } := fun tk => by
    refine level (rule_out (hs2 C)) T₁ (hce C) rfl (hnf C hC) (hnf D hD) hDC (fun i ys _ => IntsAre ys ((es.take i).map octs).flatten) (hst h₃ hk) hn hpl (ys₀ := []) .nil ?_ ?_
    · intro i h₄ tk₄ m₂ m₄ ys K hi hBd hJ hsame hn₄ hpl₄ hk₄ hK
      obtain ⟨v, hv, hm⟩ := hBd
      obtain ⟨z, t, hz, rfl⟩ := strs_at hle hv
      have hzm := List.mem_of_getElem? hz
      have F₄ : Fr s.heap C h₄ m₄ := ⟨hn₄, fun b o e => old hk₄ e, Nat.le_of_succ_le hC⟩
      refine wpAny_mono (hiter C _ m₄ _ z t hzm hm F₄) (fun xv s₅ h₅ => ?_) fun _ _ e => e
      obtain ⟨⟨a₂, o₂, k₂, items, rfl, ho₂, hc₂, hd₂, hnew, hio⟩, h₅, tk₅, rfl, hk₅⟩ := h₅
      have hl₂ : h₅.IsList a₂ items.toArray := ⟨o₂, ho₂, hc₂, k₂, hd₂⟩
      have ha2 : @LT.lt Nat _ a₂ h₅.objs.size := Heap.lt_size ho₂
      have hCl : @LT.lt Nat _ C h₅.objs.size := by obtain ⟨o, _, _, ho, _⟩ := hn₄; exact Heap.lt_size (hk₅ _ _ ho)
      have hDl : @LT.lt Nat _ D h₅.objs.size := by obtain ⟨_, e⟩ := hpl₄; exact Heap.lt_size (hk₅ _ _ e)
      have hC2 : C ≠ a₂ := by rintro q; obtain ⟨o, _, _, ho, _⟩ := hn₄; rw [q] at ho; have z := ho.symm.trans hnew; cases z
      have hD2 : D ≠ a₂ := by rintro q; obtain ⟨_, e⟩ := hpl₄; rw [q] at e; have z := e.symm.trans hnew; cases z
      refine wpAny_pyIter_list hl₂ ?_
      have T₂ := CT2.name (w := w) (A := A) (px := po) (x := xo) (Walks.list (prog := PP) (w := w) (A := A) hh h₅.objs.size a₂ (Nat.ne_of_lt ha2) items.toArray)
      have hC5 : C ∉ [h₅.objs.size, a₂] := fun hb => by
        simp only [List.mem_cons, List.not_mem_nil, or_false] at hb
        rcases hb with h | h
        · exact Nat.ne_of_lt hCl h
        · exact hC2 h
      have hD5 : D ∉ [h₅.objs.size, a₂] := fun hb => by
        simp only [List.mem_cons, List.not_mem_nil, or_false] at hb
        rcases hb with h | h
        · exact Nat.ne_of_lt hDl h
        · exact hD2 h
      have hlt5 : ∀ {b : Addr} {o : Obj}, h₄.get? b = some o → b ∉ [h₅.objs.size] := fun {b o} e hb => by
        simp only [List.mem_cons, List.not_mem_nil, or_false] at hb
        exact Nat.ne_of_lt (Heap.lt_size (hk₅ _ _ e)) hb
      have up5 : ∀ {b : Addr} {o : Obj} (ob : Obj), h₄.get? b = some o → (h₅.push ob).get? b = some o := fun {b o} ob e => Heap.get?_push_of_some _ (hk₅ _ _ e)
      have hst2 : (h₅.push { cls := .type "list_iterator", data := .fields #[Value.ref a₂, rawInt 0] }).IsListIter h₅.objs.size a₂ 0 ∧ (h₅.push { cls := .type "list_iterator", data := .fields #[Value.ref a₂, rawInt 0] }).IsList a₂ items.toArray :=
        ⟨⟨_, Heap.get?_push_size _ rfl, rfl, rfl⟩, isList_up hl₂ fun b o e => Heap.get?_push_of_some _ e⟩
      have hlen := IntsAre.length hio
      have loop2 : ∀ R' tk', (∀ h' tk m' ys, h'.Ns C m' → h'.PlainList D (List.toArray ys) → IntsAre ys ((es.take (i + 1)).map octs).flatten →
          (∀ b o, b ≠ C → b ≠ D → h₄.get? b = some o → h'.get? b = some o) → R' (.ok .next) { s with heap := h', toks := tk }) →
          codeAny (model PP w) A (.compLoop (.ListComp elt [⟨.Name xe pe, iter, [], 0⟩, ⟨.Name xo po, iter₂, [], 0⟩] scope pos) 1 (.ref h₅.objs.size) (.ref D) (compEnvC scope cl C env)) R' { s with heap := h₅.push { cls := .type "list_iterator", data := .fields #[Value.ref a₂, rawInt 0] }, toks := tk' } := fun R' tk' hR' => by
        refine level rule_in T₂ (hco C) rfl hC5 hD5 hDC (fun k ys _ => IntsAre ys (((es.take i).map octs).flatten ++ (octs z).take k)) hst2 (hn₄.keeps fun b o e => up5 _ e) (hpl₄.at fun o e => up5 _ e) (by simpa using hJ) ?_ ?_
        · intro k h₇ tk₇ m₆ m₇ ys K' hk3 hBd hJ hsame' hn₇ hpl₇ hk₇ hK'
          obtain ⟨v, hv, hmv⟩ := hBd
          obtain ⟨n, tn, rfl, hno⟩ := IntsAre.at hio k v (by simpa using hv)
          have F₇ : Fr s.heap C h₇ m₇ := ⟨hn₇, fun b o e => by
            have e4 := old hk₄ e
            refine hk₇ b o (fun q => ?_) (fun q => ?_) (hlt5 e4) (up5 _ e4)
            · have hlt : @LT.lt Nat _ b s.heap.objs.size := Heap.lt_size e
              have q' : @Eq Nat b C := q
              omega
            · have hlt : @LT.lt Nat _ b s.heap.objs.size := Heap.lt_size e
              have q' : @Eq Nat b D := q
              omega, Nat.le_of_succ_le hC⟩
          refine wpAny_mono (helt C _ m₇ _ _ hmv F₇) (fun xv s₈ h₈ => ?_) fun _ _ e => e
          obtain ⟨rfl, h₈, tk₈, rfl, hk₈⟩ := h₈
          refine plain_append (hpl₇.at fun o e => hk₈ _ o e) ?_ fun h₉ hpl₉ hk₉ => ?_
          · have h1 := IntsAre.length hJ
            have h2 := flat_len (es.take i) fun x hx => hes x (List.mem_of_mem_take hx)
            have h3 := hes z hzm
            have h4 : (es.take i).length ≤ es.length := by rw [List.length_take]; exact Nat.min_le_right _ _
            rw [h1, List.length_append, List.length_take, octs_length, sizeLine_eq]
            omega
          refine hK' _ ⟨h₉, _, m₇, ys ++ [.int n tn], rfl, (hn₇.keeps hk₈).at' fun o e => hk₉ _ o (Ne.symm hDC) e, hpl₉, ?_, fun b o h1 h2 e => hk₉ b o h2 (hk₈ b o e)⟩
          rw [List.take_add_one, hno, ← List.append_assoc]
          exact ints_snoc hJ
        · intro h' tk'' m' ys hn' hpl' hJ' hk'
          refine hR' h' tk'' m' _ hn' hpl' ?_ fun b o h1 h2 e => hk' b o h1 h2 (hlt5 e) (up5 _ e)
          rw [List.size_toArray, hlen, List.take_length] at hJ'
          rw [List.take_add_one, hz]
          simpa using hJ'
      refine start_in (loop2 _ _ fun h' tk' m' ys hn' hpl' hJ' hk' => ?_) (T₂.self 0 _ _ _ hst2 (loop2 _ _ fun h' tk' m' ys hn' hpl' hJ' hk' => ?_))
      · exact hK _ ⟨h', tk', m', ys, rfl, hn', hpl', hJ', hk'⟩
      · exact hK _ ⟨h', tk', m', ys, rfl, hn', hpl', hJ', hk'⟩
    · intro h' tk' m' ys hn' hpl' hJ' hk'
      refine hR h' tk' m' _ hn' hpl' ?_ fun b o hw e => ?_
      · rw [List.size_toArray, strs_len hle, List.take_length] at hJ'
        exact hJ'
      · have hlt : @LT.lt Nat _ b _ := Heap.lt_size e
        rw [Heap.size_push] at hlt
        refine hk' b o (fun q => ?_) (fun q => ?_) hw (hk b o e)
        · have q' : @Eq Nat b C := q
          omega
        · have q' : @Eq Nat b D := q
          omega
  exact codeAny_compStart_list (loop _) (T₁.self 0 _ _ _ (hst h₃ hk) (loop _))
end Mine
end
-- part L7
section
local macro_rules | `(tactic| walk_at "pad") => `(tactic| skip)
local macro_rules | `(tactic| walk_at "pad") => `(tactic| skip)
local macro_rules | `(tactic| walk_at "pad") => `(tactic| skip)
local macro_rules | `(tactic| walk_at "pad") => `(tactic| skip)
local macro_rules | `(tactic| walk_at "pad") => `(tactic| skip)
local macro_rules | `(tactic| walk_at "pad") => `(tactic| skip)
local macro_rules | `(tactic| walk_at "pad") => `(tactic| skip)
local macro_rules | `(tactic| walk_at "pad") => `(tactic| skip)
local macro_rules | `(tactic| walk_at "pad") => `(tactic| skip)
local macro_rules | `(tactic| walk_at "pad") => `(tactic| skip)
local macro_rules | `(tactic| walk_at "pad") => `(tactic| skip)
local macro_rules | `(tactic| walk_at "pad") => `(tactic| skip)
local macro_rules | `(tactic| walk_at "pad") => `(tactic| skip)
local macro_rules | `(tactic| walk_at "pad") => `(tactic| skip)
open PySem PySem.W PyProof.Rows
set_option Elab.async false
set_option maxRecDepth 100000
set_option maxHeartbeats 4000000
set_option pp.deepTerms false
set_option pp.deepTerms.threshold 5
set_option pp.maxSteps 20000
set_option linter.unusedSimpArgs false
set_option linter.unusedVariables false
namespace Mine
local macro_rules | `(tactic| walk_at "eval Name") => `(tactic| first
  | refine nmL (by assumption) (by first | rfl | assumption) ?_
  | refine nmC2 rfl (by assumption) (by news_mem) (by assumption) ?_
  | refine nmC3 rfl (by assumption) ?_
  | refine nmG (by assumption) (by assumption) (by first | exact gl_twin_re_1 _ | exact gl_twin_re_2 _ | exact gl_CRLF _ | exact gl_quotedata _ | exact gl_fix_eols _ | exact gl_parse_varint _ | exact gl_law_numbers _ | exact gl_law_word _ | exact gl_law_spelled _ | exact gl_law_mails _ | exact gl_law_sent _ | exact gl_law_octets _ | exact gl_law_value _ | exact gl_law_primes _) ?_
  | refine nmB (by assumption) (by assumption) (by first | exact gb_next _ | exact gb_enumerate _ | exact gb_chr _ | exact gb_ord _ | exact gb_len _ | exact gb_sum _ | exact gb_range _ | exact gb_iter _ | exact gb_StopIteration _) (by boot_fast) ?_)
local macro_rules | `(tactic| walk_at "storeName") => `(tactic| (refine storeX_L (by assumption) (by assumption) ?_; intro h' F' N'; dsimp only at F' N' ⊢))

local macro_rules | `(tactic| walk_at "loadName") => `(tactic| refine wpAny_loadName_local rfl rfl (Fr.ns (by assumption)) (by first | rfl | assumption) ?_)
local macro_rules | `(tactic| walk_at "callWith ref") => `(tactic| refine callWith_K (Gd.X (by assumption)) (by kernel_rfl) ?_)
local macro_rules | `(tactic| walk_at "And") => `(tactic| ((with_reducible show Frag.In _ _ ∧ _); refine ⟨Frag.In.keeps (Gd.X (by assumption)) (Fr.keep (by assumption)), ?_⟩; (try dsimp only [List.nil_append, List.cons_append])))


local macro_rules | `(tactic| news_mem) => `(tactic| first | exact .head _ | (refine .tail _ ?_; news_mem))


theorem ints_dropLast : ∀ {vs : List Value} {ns : List Int}, IntsAre vs ns → IntsAre vs.dropLast ns.dropLast
  | _, _, .nil => .nil
  | _, _, .cons n t .nil => .nil
  | _, _, .cons n t (.cons m u h) => .cons n t (ints_dropLast (.cons m u h))
theorem tape_stmt {w : World} {s : Shared} {fa : Addr} {cd : Value} {h₁ : Heap} {tk : Nat} {m : Str → Option Value} {news rest : List (Addr × Obj)} {E : Value → Shared → Prop} {Q : Flow → Shared → Prop} {V : Addr} {lv : List (Str × Tok)} {k : Nat} {es : List (List Nat)} {e0 : List Nat} {o5 : Obj} (G : Gd w s.heap)
    (F : Fr s.heap s.heap.objs.size h₁ m) (N : News s.heap s.heap.objs.size h₁ news) (hV : (V, lst lv k) ∈ news) (hlv : lv.map (·.1) = es.map S) (hes : ∀ z ∈ es, z.length ≤ 100 ∧ ∀ c ∈ z, c < 64) (he20 : es.length ≤ 20) (he0 : es[0]? = some e0) (hm : m "evens" = some (.ref V)) (h5 : (s.heap.objs.size + 5, o5) ∈ news) (hd5 : o5.data = .cell none)
    (hsub : ∀ p ∈ rest, p ∈ news ∧ (p.1 ≠ s.heap.objs.size + 5 ∨ ∃ items k, p.2.data = .seq items k))
    (hQ : ∀ h' tk' I oI T k' items o5', IntsAre items ((es.map octs).flatten ++ (octs e0).dropLast) → oI.cls = .type "list_iterator" → oI.data = .fields #[.ref T, .int 0 0] → o5'.data = .cell (some (.ref I)) → Fr s.heap s.heap.objs.size h' m →
      News s.heap s.heap.objs.size h' ((I, oI) :: (s.heap.objs.size + 5, o5') :: (T, { cls := .type "list", data := .seq (List.toArray items) k' }) :: rest) →
      wpAny (model PP w) (callerA.deeper (lawEnv s.heap.objs.size fa cd)) (execs (lawBody.drop 12) (lawEnv s.heap.objs.size fa cd)) Q E { s with heap := h', toks := tk' }) :
    wpAny (model PP w) (callerA.deeper (lawEnv s.heap.objs.size fa cd)) (execs (lawBody.drop 11) (lawEnv s.heap.objs.size fa cd)) Q E { s with heap := h₁, toks := tk } := by
  refine execs_as (l' := _ :: _) rfl ?_
  have rm := callerA_room
  iterate 7 walk1
  refine lcG (by with_unfolding_all first | exact closureFor_none (by decide) | rfl) (by decide) (by with_unfolding_all rfl) (by decide) ?_ (by intro _; with_unfolding_all rfl)
  walk1
  have hlV : (_ : Heap).IsList V (strValues lv).toArray := ⟨_, (N _ hV).1, rfl, k, rfl⟩
  refine tape_src rfl hlV hlv (fun z hz => (hes z hz).1) he20 (fun C x => by with_unfolding_all rfl) (fun C => ⟨rfl, rfl⟩) (fun C => ⟨rfl, rfl⟩) ?_ ?_ ?_
  · intro C s₃ m₃ E' z t hz hmz F₃
    have GF := G.keeps F.keep
    dsimp only at F₃
    iterate 6 walk1
    refine ⟨GF.X.keeps F₃.keep, ?_⟩
    exact octets_spec (GF.keeps F₃.keep) (by show callerA.depth + 1 < _; omega) rfl (hes z hz).1 (hes z hz).2
  · intro C s₃ m₃ E' v hmv F₃
    exact nmL F₃ hmv ⟨rfl, Keeps.refl _⟩
  · intro s₂ wr ys up hw e hys
    refine fin_lc F N up hw e fun D kD h' tk' F₅ N₅ => ?_
    have hlV' : h'.IsList V (strValues lv).toArray := ⟨_, (N₅ _ (.tail _ hV)).1, rfl, k, rfl⟩
    have he0m := List.mem_of_getElem? he0
    have hv0 : ∃ t0, (strValues lv).toArray[0]? = some (.str (S e0) t0) := by
      have hl0 : lv[0]?.map (·.1) = some (S e0) := by rw [← List.getElem?_map, hlv, List.getElem?_map, he0]; rfl
      obtain ⟨q, hq, hq2⟩ := Option.map_eq_some_iff.mp hl0
      exact ⟨q.2, by simp [strValues, hq, ← hq2]⟩
    obtain ⟨t0, hv0⟩ := hv0
    iterate 8 walk1
    refine item_list hlV' (by decide) (by decide) hv0 ?_
    walk1
    refine ⟨G.X.keeps F₅.keep, ?_⟩
    refine wpAny_mono (octets_spec (G.keeps F₅.keep) (by show callerA.depth + 1 < _; omega) rfl (hes e0 he0m).1 (hes e0 he0m).2) (fun v s' r => ?_) (fun _ _ x => x)
    obtain ⟨⟨a₂, o₂, k₂, items, rfl, ho₂, hc₂, hd₂, hnew, hio⟩, h₆, tk₆, rfl, k₆⟩ := r
    replace N := news_add F₅ N₅ k₆ ho₂ hnew
    replace F := fr_up F₅ k₆
    dsimp only at F N ⊢
    have hlen := IntsAre.length hio
    rw [octs_length] at hlen
    have h100 := (hes e0 he0m).1
    have hl2 : h₆.IsList a₂ items.toArray := ⟨o₂, (N _ (.head _)).1, hc₂, k₂, hd₂⟩
    iterate 7 walk1
    refine kba_turn (value' := .Name "evens" default) (fun _ => rfl) ?_
    refine slice_list F N hl2 .none (.int _ _) (fun h₇ F N => ?_) (hsz := by rw [List.size_toArray, sizeLine_eq]; omega)
    have hpick : slicePick items.toArray none (some (-1)) none = (items.dropLast).toArray := by
      have := slicePick_butLast items.toArray 1 (Nat.le_refl _)
      rw [show (-((1 : Nat) : Int)) = -1 from rfl] at this
      rw [this, List.size_toArray, ← List.dropLast_eq_take]
    have hN7 := N _ (.head _)
    have hlN : (_ : Heap).IsList _ (items.dropLast).toArray := ⟨_, hN7.1, rfl, 0, by rw [← hpick]⟩
    have hlL : (_ : Heap).IsList D ys.toArray := ⟨_, (N _ (.tail _ (.tail _ (.head _)))).1, rfl, kD, rfl⟩
    have hysl := IntsAre.length hys
    have hfl := flat_len es fun z hz => (hes z hz).1
    refine add_lists F N hlL hlN (fun h₈ F N => ?_) (by
      rw [hysl, List.length_dropLast, sizeLine_eq]
      have : 100 * es.length ≤ 100 * 20 := Nat.mul_le_mul_left _ he20
      omega)
    walk1
    refine iter_list (News.isList N (.head _)) ?_
    have hIL : h₈.objs.size ≠ s.heap.objs.size := Ne.symm (Nat.ne_of_lt (lt_L F))
    have hI0 : s.heap.get? h₈.objs.size = none := fresh_none F
    have hh8 := lt_L F
    have N9 : News s.heap s.heap.objs.size (h₈.push { cls := .type "list_iterator", data := .fields #[Value.ref h₇.objs.size, .int 0 0] }) ((h₈.objs.size, { cls := .type "list_iterator", data := .fields #[Value.ref h₇.objs.size, .int 0 0] }) :: (h₇.objs.size, { cls := .type "list", data := .seq (ys ++ items.dropLast).toArray }) :: news) := fun p hp => by
      rcases List.mem_cons.mp hp with rfl | hp
      · exact ⟨Heap.get?_push_size _ rfl, hIL, hI0⟩
      · rcases List.mem_cons.mp hp with rfl | hp
        · exact news_push N _ _ (.head _)
        · exact news_push N _ p (.tail _ (.tail _ (.tail _ (.tail _ hp))))
    refine stC ((h₈.objs.size, { cls := .type "list_iterator", data := .fields #[Value.ref h₇.objs.size, .int 0 0] }) :: (h₇.objs.size, { cls := .type "list", data := .seq (ys ++ items.dropLast).toArray }) :: rest) (F.push _) N9 (c := s.heap.objs.size + 5) (o := o5) (.tail _ (.tail _ h5)) hd5 ?_ rfl (fun h₉ o5' F₉ d5' N₉ => ?_)
    · intro p hp
      rcases List.mem_cons.mp hp with rfl | hp
      · refine ⟨.head _, .inl fun q => ?_⟩
        have z := (N _ (.tail _ (.tail _ (.tail _ (.tail _ h5))))).1
        have q' : @Eq Nat h₈.objs.size (s.heap.objs.size + 5) := q
        have : @LT.lt Nat _ (s.heap.objs.size + 5) h₈.objs.size := Heap.lt_size z
        omega
      · rcases List.mem_cons.mp hp with rfl | hp
        · exact ⟨.tail _ (.head _), .inr ⟨_, _, rfl⟩⟩
        · exact ⟨.tail _ (.tail _ (hsub p hp).1), (hsub p hp).2⟩
    · refine hQ h₉ _ h₈.objs.size { cls := .type "list_iterator", data := .fields #[Value.ref h₇.objs.size, .int 0 0] } h₇.objs.size 0 (ys ++ items.dropLast) o5' (hys.append (ints_dropLast hio)) rfl rfl d5' F₉ (fun p hp => ?_)
      rcases List.mem_cons.mp hp with rfl | hp
      · exact N₉ _ (.tail _ (.head _))
      · rcases List.mem_cons.mp hp with rfl | hp
        · exact N₉ _ (.head _)
        · exact N₉ p (.tail _ (.tail _ hp))
end Mine
end
-- part B17
section
open PySem PySem.W PyProof.Rows
set_option Elab.async false
set_option maxRecDepth 100000
set_option maxHeartbeats 4000000
set_option linter.unusedVariables false
namespace Mine
def posOf (es : List (List Nat)) (i : Nat) : Nat := ((es.take i).map List.length).sum
theorem posOf_succ {es : List (List Nat)} {i : Nat} {z : List Nat} (h : es[i]? = some z) : posOf es (i + 1) = posOf es i + z.length := by
  unfold posOf
  rw [List.take_add_one, h]
  simp
theorem flat_at (rest : List Int) : ∀ (es : List (List Nat)) (i j c : Nat) (z : List Nat), es[i]? = some z → z[j]? = some c → ((es.map octs).flatten ++ rest)[posOf es i + j]? = some (octAt z.length j c)
  | a :: es, 0, j, c, z, h, hj => by
    simp at h
    subst h
    have hlt : j < a.length := (List.getElem?_eq_some_iff.mp hj).1
    simp only [posOf, List.take_zero, List.map_nil, List.sum_nil, Nat.zero_add, List.map_cons, List.flatten_cons, List.append_assoc]
    rw [List.getElem?_append_left (by rw [octs_length]; exact hlt)]
    simp [octs, List.getElem?_mapIdx, hj]
  | a :: es, i + 1, j, c, z, h, hj => by
    have ih := flat_at rest es i j c z (by simpa using h) hj
    have hp : posOf (a :: es) (i + 1) = a.length + posOf es i := by simp [posOf]
    rw [hp, List.map_cons, List.flatten_cons, List.append_assoc, List.getElem?_append_right (by rw [octs_length]; omega), octs_length]
    rw [show a.length + posOf es i + j - a.length = posOf es i + j by omega]
    exact ih

/-- [varint(tape) for even in evens] -/
theorem told_src {w : World} {A : Around} {E : Value → Shared → Prop} {s : Shared} {env : Env} {elt iter : PySem.Expr} {xe : Str} {pe pos : Pos} {scope : Scope} {cl : List (Str × Addr)} {ax : Addr} {le : List (Str × Tok)} {es : List (List Nat)} {g : Heap} {I T : Addr} {Fin : Shared → List Addr → List Value → (List Value → Heap → Prop) → Prop}
    (hh : A.handled = none) (hl : s.heap.IsList ax (strValues le).toArray) (hle : le.map (·.1) = es.map S) (he20 : es.length ≤ 20)
    (hg : ∀ b o, g.get? b = some o → b ≠ I ∧ s.heap.get? b = some o) (hgs : g.objs.size ≤ s.heap.objs.size) (hI : s.heap.IsListIter I T 0) (hIl : I ≠ env.locals) (hIax : ax ≠ I)
    (hce : ∀ C, okN xe (compEnvC scope cl C env))
    (helt : ∀ C i z s₃ m₃ E', es[i]? = some z → Fr g C s₃.heap m₃ → s₃.heap.IsListIter I T (posOf es i) → wpAny (model PP w) A (eval elt (compEnvC scope cl C env)) (fun xv s₄ => (∃ t', xv = .int (val z : Int) t') ∧ ∃ h' tk, s₄ = { s₃ with heap := h', toks := tk } ∧ h'.IsListIter I T (posOf es i + z.length) ∧ ∀ b o, b ≠ I → s₃.heap.get? b = some o → h'.get? b = some o) E' s₃)
    (hF : ∀ (s₂ : Shared) (wr : List Addr) (ys : List Value) (Pf : List Value → Heap → Prop), (∀ b o, s.heap.get? b = some o → s₂.heap.get? b = some o) → (∀ b o, s.heap.get? b = some o → b ≠ I → b ∉ wr) → s₂ = { s with heap := s₂.heap, toks := s₂.toks } → IntsAre ys (natInts (es.map val)) → (∀ h, Pf ys h → h.IsListIter I T (posOf es es.length)) → Fin s₂ wr ys Pf) :
    wpAny (model PP w) A (pyIter (.ref ax)) (LcM w A (.ListComp elt [⟨.Name xe pe, iter, [], 0⟩] scope pos) scope cl env Fin) E s := by
  have haI : @LT.lt Nat _ ax s.heap.objs.size := by obtain ⟨o, ho, _⟩ := hl; exact Heap.lt_size ho
  have hII : @LT.lt Nat _ I s.heap.objs.size := by obtain ⟨o, ho, _⟩ := hI; exact Heap.lt_size ho
  refine wpAny_pyIter_list hl ⟨[s.heap.objs.size, I], fun ys h => IntsAre ys (natInts (es.map val)) ∧ h.IsListIter I T (posOf es es.length), ?_, ?_, ?_⟩
  · intro ys h hys
    refine hF _ _ ys _ (fun b o e => Heap.get?_push_of_some _ e) (fun b o e hbI hb => ?_) rfl hys.1 (fun h hp => hp.2)
    simp only [List.mem_cons, List.not_mem_nil, or_false] at hb
    rcases hb with hb | hb
    · exact Nat.ne_of_lt (Heap.lt_size e) hb
    · exact hbI hb
  · rintro ys h h' ⟨h1, o, h2, h3⟩ hk
    refine ⟨h1, o, hk _ _ ?_ hIl h2, h3⟩
    rw [Heap.size_push]; exact Nat.lt_succ_of_lt hII
  intro D C h₃ tk₃ m₃ R hD hC hDC hpl hn hk hR
  rw [Heap.size_push] at hD hC
  have T₁ := CT2.name (w := w) (A := A) (px := pe) (x := xe) (Walks.list (prog := PP) (w := w) (A := A) hh s.heap.objs.size ax (Nat.ne_of_lt haI) (strValues le).toArray)
  have hnf : ∀ a, s.heap.objs.size + 1 ≤ a → a ∉ [s.heap.objs.size, ax] := fun a ha hb => by
    simp only [List.mem_cons, List.not_mem_nil, or_false] at hb
    rcases hb with h | h
    · have h' : @Eq Nat a s.heap.objs.size := h
      omega
    · have h' : @Eq Nat a ax := h
      omega
  have hst : ∀ h : Heap, (∀ b o, (s.heap.push { cls := .type "list_iterator", data := .fields #[Value.ref ax, rawInt 0] }).get? b = some o → h.get? b = some o) → h.IsListIter s.heap.objs.size ax 0 ∧ h.IsList ax (strValues le).toArray := fun h hk =>
    ⟨⟨_, hk _ _ (Heap.get?_push_size _ rfl), rfl, rfl⟩, isList_up hl fun b o e => hk _ _ (Heap.get?_push_of_some _ e)⟩
  have hIC : I ≠ C := fun q => by
    have q' : @Eq Nat I C := q
    omega
  have hID : I ≠ D := fun q => by
    have q' : @Eq Nat I D := q
    omega
  have hIs : I ∉ [s.heap.objs.size] := fun hb => by
    simp only [List.mem_cons, List.not_mem_nil, or_false] at hb
    exact Nat.ne_of_lt hII hb
  have loop : ∀ tk, codeAny (model PP w) A (.compLoop (.ListComp elt [⟨.Name xe pe, iter, [], 0⟩] scope pos) 0 (.ref s.heap.objs.size) (.ref D) (compEnvC scope cl C env)) R { s with heap := h₃, toks := tk } := fun tk => by
    refine levelM rule_plain T₁ (hce C) rfl (hnf C hC) (hnf D hD) hDC [I] (fun b hb hm => ?_) (fun i ys _ h => IntsAre ys (natInts ((es.take i).map val)) ∧ h.IsListIter I T (posOf es i)) ?_ (hst h₃ hk) hn hpl (ys₀ := []) ⟨.nil, ?_⟩ ?_ ?_
    · simp only [List.mem_cons, List.not_mem_nil, or_false] at hb hm
      rcases hb with h | h
      · exact Nat.ne_of_lt hII (hm.symm.trans h)
      · exact hIax (h.symm.trans hm)
    · rintro i ys m h h' ⟨h1, o, h2, h3⟩ hk'
      exact ⟨h1, o, hk' _ _ hIC hID hIs h2, h3⟩
    · obtain ⟨o, h2, h3⟩ := hI
      exact ⟨o, hk _ _ (Heap.get?_push_of_some _ h2), h3⟩
    · intro i h₄ tk₄ m₂ m₄ ys K hi hBd hJ hsame hn₄ hpl₄ _ hk₄ hK
      obtain ⟨v, hv, hm⟩ := hBd
      obtain ⟨z, t, hz, rfl⟩ := strs_at hle hv
      have F₄ : Fr g C h₄ m₄ := ⟨hn₄, fun b o e => by
        obtain ⟨hbI, e⟩ := hg b o e
        have hlt : @LT.lt Nat _ b s.heap.objs.size := Heap.lt_size e
        refine hk₄ b o (fun q => ?_) (fun q => ?_) (fun q => ?_) (fun q => ?_) (hk b o (Heap.get?_push_of_some _ e))
        · have q' : @Eq Nat b C := q
          omega
        · have q' : @Eq Nat b D := q
          omega
        · simp only [List.mem_cons, List.not_mem_nil, or_false] at q
          exact Nat.ne_of_lt hlt q
        · simp only [List.mem_cons, List.not_mem_nil, or_false] at q
          exact hbI q, Nat.le_trans hgs (Nat.le_of_succ_le hC)⟩
      refine wpAny_mono (helt C i z _ m₄ _ hz F₄ hJ.2) (fun xv s₅ h₅ => ?_) fun _ _ e => e
      obtain ⟨⟨t', rfl⟩, h₅, tk₅, rfl, hI₅, hk₅⟩ := h₅
      refine plain_append (hpl₄.at fun o e => hk₅ _ o (Ne.symm hID) e) ?_ fun h₉ hpl₉ hk₉ => ?_
      · have h1 := IntsAre.length hJ.1
        rw [natInts, List.length_map, List.length_map, List.length_take] at h1
        rw [h1, sizeLine_eq]; omega
      refine hK _ ⟨h₉, _, m₄, ys ++ [.int (val z : Int) t'], rfl, (hn₄.at' fun o e => hk₅ _ o (Ne.symm hIC) e).at' fun o e => hk₉ _ o (Ne.symm hDC) e, hpl₉, ⟨?_, ?_⟩, fun b o h1 h2 h3 e => hk₉ b o h2 (hk₅ b o (fun q => h3 (by rw [q]; exact .head _)) e)⟩
      · rw [List.take_add_one, hz, natInts, List.map_append, List.map_append]
        exact ints_snoc hJ.1
      · rw [posOf_succ hz]
        obtain ⟨o, h2, h3⟩ := hI₅
        exact ⟨o, hk₉ _ _ hID h2, h3⟩
    · intro h' tk' m' ys hn' hpl' hJ' hk'
      refine hR h' tk' m' _ hn' hpl' ?_ fun b o hw e => ?_
      · rw [List.size_toArray, strs_len hle, List.take_length] at hJ'
        exact hJ'
      · have hlt : @LT.lt Nat _ b _ := Heap.lt_size e
        rw [Heap.size_push] at hlt
        simp only [List.mem_cons, List.not_mem_nil, or_false, not_or] at hw
        refine hk' b o (fun q => ?_) (fun q => ?_) (by simpa using hw.1) (by simpa using hw.2) (hk b o e)
        · have q' : @Eq Nat b C := q
          omega
        · have q' : @Eq Nat b D := q
          omega
  exact codeAny_compStart_list (loop _) (T₁.self 0 _ _ _ (hst h₃ hk) (loop _))
end Mine
end
-- part L8
section
local macro_rules | `(tactic| walk_at "pad") => `(tactic| skip)
local macro_rules | `(tactic| walk_at "pad") => `(tactic| skip)
local macro_rules | `(tactic| walk_at "pad") => `(tactic| skip)
local macro_rules | `(tactic| walk_at "pad") => `(tactic| skip)
local macro_rules | `(tactic| walk_at "pad") => `(tactic| skip)
local macro_rules | `(tactic| walk_at "pad") => `(tactic| skip)
local macro_rules | `(tactic| walk_at "pad") => `(tactic| skip)
local macro_rules | `(tactic| walk_at "pad") => `(tactic| skip)
local macro_rules | `(tactic| walk_at "pad") => `(tactic| skip)
local macro_rules | `(tactic| walk_at "pad") => `(tactic| skip)
local macro_rules | `(tactic| walk_at "pad") => `(tactic| skip)
local macro_rules | `(tactic| walk_at "pad") => `(tactic| skip)
local macro_rules | `(tactic| walk_at "pad") => `(tactic| skip)
local macro_rules | `(tactic| walk_at "pad") => `(tactic| skip)
open PySem PySem.W PyProof.Rows
set_option Elab.async false
set_option maxRecDepth 100000
set_option maxHeartbeats 4000000
set_option pp.deepTerms false
set_option pp.deepTerms.threshold 5
set_option pp.maxSteps 20000
set_option linter.unusedSimpArgs false
set_option linter.unusedVariables false
namespace Mine
local macro_rules | `(tactic| walk_at "eval Name") => `(tactic| first
  | refine nmL (by assumption) (by first | rfl | assumption) ?_
  | refine nmC2 rfl (by assumption) (by news_mem) (by assumption) ?_
  | refine nmC3 rfl (by assumption) ?_
  | refine nmG (by assumption) (by assumption) (by first | exact gl_twin_re_1 _ | exact gl_twin_re_2 _ | exact gl_CRLF _ | exact gl_quotedata _ | exact gl_fix_eols _ | exact gl_parse_varint _ | exact gl_law_numbers _ | exact gl_law_word _ | exact gl_law_spelled _ | exact gl_law_mails _ | exact gl_law_sent _ | exact gl_law_octets _ | exact gl_law_value _ | exact gl_law_primes _) ?_
  | refine nmB (by assumption) (by assumption) (by first | exact gb_next _ | exact gb_enumerate _ | exact gb_chr _ | exact gb_ord _ | exact gb_len _ | exact gb_sum _ | exact gb_range _ | exact gb_iter _ | exact gb_StopIteration _) (by boot_fast) ?_)
local macro_rules | `(tactic| walk_at "storeName") => `(tactic| (refine storeX_L (by assumption) (by assumption) ?_; intro h' F' N'; dsimp only at F' N' ⊢))

local macro_rules | `(tactic| walk_at "loadName") => `(tactic| refine wpAny_loadName_local rfl rfl (Fr.ns (by assumption)) (by first | rfl | assumption) ?_)
local macro_rules | `(tactic| walk_at "callWith ref") => `(tactic| refine callWith_K (Gd.X (by assumption)) (by kernel_rfl) ?_)
local macro_rules | `(tactic| walk_at "And") => `(tactic| ((with_reducible show Frag.In _ _ ∧ _); refine ⟨Frag.In.keeps (Gd.X (by assumption)) (Fr.keep (by assumption)), ?_⟩; (try dsimp only [List.nil_append, List.cons_append])))


local macro_rules | `(tactic| news_mem) => `(tactic| first | exact .head _ | (refine .tail _ ?_; news_mem))


theorem told_stmt {w : World} {s : Shared} {fa : Addr} {cd : Value} {h₁ : Heap} {tk : Nat} {m : Str → Option Value} {rest : List (Addr × Obj)} {E : Value → Shared → Prop} {Q : Flow → Shared → Prop} {V I T : Addr} {lv : List (Str × Tok)} {k k' : Nat} {es : List (List Nat)} {o5 oI : Obj} {items : List Value} {tail : List Int} (G : Gd w s.heap)
    (F : Fr s.heap s.heap.objs.size h₁ m) (N : News s.heap s.heap.objs.size h₁ ((I, oI) :: (s.heap.objs.size + 5, o5) :: (T, { cls := .type "list", data := .seq (List.toArray items) k' }) :: rest)) (hV : (V, lst lv k) ∈ rest) (hlv : lv.map (·.1) = es.map S) (hes : ∀ z ∈ es, z ≠ [] ∧ z.length ≤ 100 ∧ ∀ c ∈ z, c < 64) (he20 : es.length ≤ 20) (hm : m "evens" = some (.ref V))
    (hd5 : o5.data = .cell (some (.ref I))) (hIc : oI.cls = .type "list_iterator") (hId : oI.data = .fields #[.ref T, .int 0 0]) (hit : IntsAre items ((es.map octs).flatten ++ tail)) (hrest : ∀ p ∈ rest, p.1 ≠ I)
    (hQ : ∀ h' tk' W kW ys oI', IntsAre ys (natInts (es.map val)) → oI'.cls = .type "list_iterator" → oI'.data = .fields #[.ref T, .int ((posOf es es.length : Nat) : Int) 0] → Fr s.heap s.heap.objs.size h' (fun z => if z = "told" then some (.ref W) else m z) →
      News s.heap s.heap.objs.size h' ((W, { cls := .type "list", data := .seq (List.toArray ys) kW }) :: (I, oI') :: (s.heap.objs.size + 5, o5) :: (T, { cls := .type "list", data := .seq (List.toArray items) k' }) :: rest) → W ≠ I →
      wpAny (model PP w) (callerA.deeper (lawEnv s.heap.objs.size fa cd)) (execs (lawBody.drop 13) (lawEnv s.heap.objs.size fa cd)) Q E { s with heap := h', toks := tk' }) :
    wpAny (model PP w) (callerA.deeper (lawEnv s.heap.objs.size fa cd)) (execs (lawBody.drop 12) (lawEnv s.heap.objs.size fa cd)) Q E { s with heap := h₁, toks := tk } := by
  refine execs_as (l' := _ :: _) rfl ?_
  have rm := callerA_room
  walk1
  refine lcMAssign (by with_unfolding_all rfl) (by with_unfolding_all first | exact closureFor_none (by decide) | rfl) (by decide) (by with_unfolding_all rfl) (by decide) (by rfl) (by rfl) ?_ (by intro _; with_unfolding_all rfl)
  walk1
  have zI := N _ (.head _)
  have z5 := N _ (.tail _ (.head _))
  have zT := N _ (.tail _ (.tail _ (.head _)))
  have hlV : h₁.IsList V (strValues lv).toArray := ⟨_, (N _ (.tail _ (.tail _ (.tail _ hV)))).1, rfl, k, rfl⟩
  have hlT : h₁.IsList T items.toArray := ⟨_, zT.1, rfl, k', rfl⟩
  have hTI : T ≠ I := by
    rintro q
    have h1 : h₁.get? T = some _ := zT.1
    have h2 : h₁.get? I = some oI := zI.1
    rw [q, h2] at h1
    rw [Option.some.inj h1] at hIc
    exact absurd (Value.type.inj hIc) (by decide)
  have h5I : s.heap.objs.size + 5 ≠ I := by
    rintro q
    have h1 : h₁.get? (s.heap.objs.size + 5) = some o5 := z5.1
    have h2 : h₁.get? I = some oI := zI.1
    rw [q, h2] at h1
    rw [Option.some.inj h1, hd5] at hId
    cases hId
  generalize hgg : hideAll h₁ [I] = g
  have hgs : ∀ b o, g.get? b = some o → b ≠ I ∧ h₁.get? b = some o := fun b o e => by
    refine ⟨fun q => ?_, of_hideAll _ (hgg ▸ e)⟩
    rw [q, ← hgg, hideAll_none _ (.head _)] at e; cases e
  have hgb : ∀ b o, b ≠ I → h₁.get? b = some o → g.get? b = some o := fun b o hb e => hgg ▸ hideAll_get _ e (by simpa using hb)
  have hgz : g.objs.size = h₁.objs.size := hgg ▸ hideAll_size _ _
  have hgI : g.get? I = none := hgg ▸ hideAll_none _ (.head _)
  have Gg : Gd w g := G.keeps fun b o e => hgb b o (fun q => by rw [q, zI.2.2] at e; cases e) (F.keep b o e)
  have c5 : g.IsCell (s.heap.objs.size + 5) (some (.ref I)) := ⟨o5, hgb _ _ h5I z5.1, hd5⟩
  have hlTg : g.IsList T items.toArray := ⟨_, hgb _ _ hTI zT.1, rfl, k', rfl⟩
  refine told_src (g := g) (I := I) (T := T) rfl hlV hlv he20 hgs (Nat.le_of_eq hgz) ⟨oI, zI.1, hIc, hId⟩ zI.2.1 (hrest _ hV) (fun C => ⟨rfl, rfl⟩) ?_ ?_
  · intro C i z s₃ m₃ E' hz F₃ hI₃
    replace c5 := c5.keeps F₃.keep
    (try dsimp only at F₃ c5)
    have hzm := hes z (List.mem_of_getElem? hz)
    clear F N G
    iterate 6 walk1
    refine ⟨Gg.X.keeps F₃.keep, ?_⟩
    refine wpAny_mono (varint_spec (g₀ := g) Gg F₃.keep hgI (by show callerA.depth + 1 < _; omega) rfl hI₃ (isList_up hlTg F₃.keep) hzm.1 hzm.2.1 hzm.2.2 fun j c hj => ?_) (fun v s' r => r) (fun _ _ x => x)
    have hf := flat_at tail es i j c z hz hj
    have hlt : posOf es i + j < items.length := by rw [IntsAre.length hit]; exact (List.getElem?_eq_some_iff.mp hf).1
    obtain ⟨n, t, hv, hn⟩ := IntsAre.at hit (posOf es i + j) _ (List.getElem?_eq_getElem hlt)
    rw [hf] at hn
    exact ⟨t, by rw [List.getElem?_eq_getElem hlt, hv, Option.some.inj hn]⟩
  · intro s₂ wr ys Pf up hw e hys hP
    have hLI : s.heap.objs.size ≠ I := Ne.symm zI.2.1
    have hLw : s.heap.objs.size ∉ wr := by obtain ⟨o, _, _, ho, _⟩ := F.ns; exact hw _ o ho hLI
    refine ⟨hLw, m, F.ns.keeps up, fun D h' tk' hD hpl hPf hn hk => ?_⟩
    rw [e]
    obtain ⟨kW, hpl⟩ := hpl
    obtain ⟨oI', hI1, hI2, hI3⟩ := hP h' hPf
    have h0 : ∀ a, s₂.heap.get? a = none → s.heap.get? a = none ∧ a ≠ s.heap.objs.size := fun a ha => by
      refine ⟨?_, fun q => ?_⟩
      · cases z : s.heap.get? a with
        | none => rfl
        | some o => rw [up _ _ (F.keep _ _ z)] at ha; cases ha
      · obtain ⟨o, _, _, ho, _⟩ := F.ns
        rw [q, up _ _ ho] at ha; cases ha
    have hkeep : ∀ b o, b ≠ s.heap.objs.size → b ≠ I → h₁.get? b = some o → h'.get? b = some o := fun b o hb hbI q => hk b o hb (hw b o q hbI) (up b o q)
    have hDI : D ≠ I := by
      rintro q
      rw [q] at hD
      have := up _ _ zI.1
      rw [this] at hD; cases hD
    refine hQ h' tk' D kW ys oI' hys hI2 hI3 ⟨hn, fun b o q => hkeep b o (Nat.ne_of_lt (Heap.lt_size q)) (fun q2 => by rw [q2, zI.2.2] at q; cases q) (F.keep b o q), Nat.le_refl _⟩ (fun p hp => ?_) hDI
    rcases List.mem_cons.mp hp with rfl | hp
    · exact ⟨hpl, (h0 _ hD).2, (h0 _ hD).1⟩
    · rcases List.mem_cons.mp hp with rfl | hp
      · exact ⟨hI1, zI.2⟩
      · have z := N p (.tail _ hp)
        refine ⟨hkeep _ _ z.2.1 ?_ z.1, z.2⟩
        rcases List.mem_cons.mp hp with rfl | hp
        · exact h5I
        · rcases List.mem_cons.mp hp with rfl | hp
          · exact hTI
          · exact hrest p hp
end Mine
end
-- part L9
section
open PySem PySem.W PyProof.Rows
set_option Elab.async false
set_option maxRecDepth 100000
set_option maxHeartbeats 4000000
set_option pp.deepTerms false
set_option pp.deepTerms.threshold 5
set_option pp.maxSteps 20000
set_option linter.unusedSimpArgs false
set_option linter.unusedVariables false
namespace Mine
local macro_rules | `(tactic| walk_at "eval Name") => `(tactic| first
  | refine nmL (by assumption) (by first | rfl | assumption) ?_
  | refine nmC2 rfl (by assumption) (by news_mem) (by assumption) ?_
  | refine nmC3 rfl (by assumption) ?_
  | refine nmG (by assumption) (by assumption) (by first | exact gl_twin_re_1 _ | exact gl_twin_re_2 _ | exact gl_CRLF _ | exact gl_quotedata _ | exact gl_fix_eols _ | exact gl_parse_varint _ | exact gl_law_numbers _ | exact gl_law_word _ | exact gl_law_spelled _ | exact gl_law_mails _ | exact gl_law_sent _ | exact gl_law_octets _ | exact gl_law_value _ | exact gl_law_primes _) ?_
  | refine nmB (by assumption) (by assumption) (by first | exact gb_next _ | exact gb_enumerate _ | exact gb_chr _ | exact gb_ord _ | exact gb_len _ | exact gb_sum _ | exact gb_range _ | exact gb_iter _ | exact gb_StopIteration _) (by boot_fast) ?_)
local macro_rules | `(tactic| walk_at "storeName") => `(tactic| (refine storeX_L (by assumption) (by assumption) ?_; intro h' F' N'; dsimp only at F' N' ⊢))

local macro_rules | `(tactic| walk_at "loadName") => `(tactic| refine wpAny_loadName_local rfl rfl (Fr.ns (by assumption)) (by first | rfl | assumption) ?_)
local macro_rules | `(tactic| walk_at "callWith ref") => `(tactic| refine callWith_K (Gd.X (by assumption)) (by kernel_rfl) ?_)
local macro_rules | `(tactic| walk_at "And") => `(tactic| ((with_reducible show Frag.In _ _ ∧ _); refine ⟨Frag.In.keeps (Gd.X (by assumption)) (Fr.keep (by assumption)), ?_⟩; (try dsimp only [List.nil_append, List.cons_append])))


local macro_rules | `(tactic| news_mem) => `(tactic| first | exact .head _ | (refine .tail _ ?_; news_mem))


theorem told_if {w : World} {s : Shared} {fa : Addr} {cd : Value} {h₁ : Heap} {tk : Nat} {m : Str → Option Value} {news : List (Addr × Obj)} {E : Value → Shared → Prop} {Q : Flow → Shared → Prop} {W V : Addr} {lv : List (Str × Tok)} {ys : List Value} {k kW : Nat} {es : List (List Nat)} (G : Gd w s.heap)
    (F : Fr s.heap s.heap.objs.size h₁ m) (N : News s.heap s.heap.objs.size h₁ news) (hW : (W, { cls := .type "list", data := .seq (List.toArray ys) kW }) ∈ news) (hV : (V, lst lv k) ∈ news) (hlv : lv.map (·.1) = es.map S) (hys : IntsAre ys (natInts (es.map val))) (hes : ∀ z ∈ es, z.length ≤ 100 ∧ ∀ c ∈ z, c < 64) (he20 : es.length ≤ 20) (hm : m "told" = some (.ref W)) (hm2 : m "evens" = some (.ref V))
    (hQ : ∀ h' tk', Fr s.heap s.heap.objs.size h' m → News s.heap s.heap.objs.size h' news →
      wpAny (model PP w) (callerA.deeper (lawEnv s.heap.objs.size fa cd)) (execs (lawBody.drop 14) (lawEnv s.heap.objs.size fa cd)) Q E { s with heap := h', toks := tk' }) :
    wpAny (model PP w) (callerA.deeper (lawEnv s.heap.objs.size fa cd)) (execs (lawBody.drop 13) (lawEnv s.heap.objs.size fa cd)) Q E { s with heap := h₁, toks := tk } := by
  refine execs_as (l' := _ :: _) rfl ?_
  iterate 4 walk1
  refine lc (by with_unfolding_all first | exact closureFor_none (by decide) | rfl) (by decide) (by with_unfolding_all rfl) (by decide) ?_ (by intro _; with_unfolding_all rfl)
  walk1
  have ru := callerA_units
  have rm := callerA_room
  refine src_list rfl ⟨_, (N _ hV).1, rfl, k, rfl⟩ (by rw [List.size_toArray, strs_len hlv, sizeLine_eq]; omega) (fun i v => ∃ z t, es[i]? = some z ∧ v = .int (val z : Int) t) (fun C => ⟨rfl, rfl⟩) ?_ ?_
  · intro C i v s₃ m₃ E' hv hmv F₃
    obtain ⟨z, t, hz, rfl⟩ := strs_at hlv hv
    have GF := G.keeps F.keep
    dsimp only at F₃
    have hzm := hes z (List.mem_of_getElem? hz)
    iterate 6 walk1
    refine ⟨GF.X.keeps F₃.keep, ?_⟩
    refine wpAny_mono (value_spec (GF.keeps F₃.keep) (by show callerA.depth + 1 < _; omega) rfl hzm.1 hzm.2) (fun v s' r => ?_) (fun _ _ x => x)
    obtain ⟨⟨t', rfl⟩, kp⟩ := r
    exact ⟨⟨z, t', hz, rfl⟩, kp⟩
  · intro s₂ wr zs up hw e hlen hzs
    refine fin_lc F N up hw e fun D k' h' tk' F₅ N₅ => ?_
    have hzi : IntsAre zs (natInts (es.map val)) := ints_of _ _ (by rw [hlen, List.size_toArray, strs_len hlv]; simp [natInts]) fun i y hy => by
      obtain ⟨z, t, h1, rfl⟩ := hzs i y hy
      exact ⟨_, t, by simp [natInts, h1], rfl⟩
    refine ne_intsK ⟨_, (N₅ _ (.tail _ hW)).1, rfl, _, rfl⟩ hys (News.isList N₅ (.head _)) hzi (by show callerA.units + 3 + 64 < cLine; omega) ?_
    rw [decide_eq_true rfl]
    iterate 3 walk1
    exact hQ _ _ F₅ (News.tail N₅)
end Mine
end
-- part L10
section
local macro_rules | `(tactic| walk_at "pad") => `(tactic| skip)
local macro_rules | `(tactic| walk_at "pad") => `(tactic| skip)
local macro_rules | `(tactic| walk_at "pad") => `(tactic| skip)
local macro_rules | `(tactic| walk_at "pad") => `(tactic| skip)
local macro_rules | `(tactic| walk_at "pad") => `(tactic| skip)
local macro_rules | `(tactic| walk_at "pad") => `(tactic| skip)
local macro_rules | `(tactic| walk_at "pad") => `(tactic| skip)
local macro_rules | `(tactic| walk_at "pad") => `(tactic| skip)
local macro_rules | `(tactic| walk_at "pad") => `(tactic| skip)
local macro_rules | `(tactic| walk_at "pad") => `(tactic| skip)
local macro_rules | `(tactic| walk_at "pad") => `(tactic| skip)
local macro_rules | `(tactic| walk_at "pad") => `(tactic| skip)
local macro_rules | `(tactic| walk_at "pad") => `(tactic| skip)
local macro_rules | `(tactic| walk_at "pad") => `(tactic| skip)
open PySem PySem.W PyProof.Rows
set_option Elab.async false
set_option maxRecDepth 100000
set_option maxHeartbeats 4000000
set_option pp.deepTerms false
set_option pp.deepTerms.threshold 5
set_option pp.maxSteps 20000
set_option linter.unusedSimpArgs false
set_option linter.unusedVariables false
namespace Mine
local macro_rules | `(tactic| walk_at "eval Name") => `(tactic| first
  | refine nmL (by assumption) (by first | rfl | assumption) ?_
  | refine nmC2 rfl (by assumption) (by news_mem) (by assumption) ?_
  | refine nmC3 rfl (by assumption) ?_
  | refine nmG (by assumption) (by assumption) (by first | exact gl_twin_re_1 _ | exact gl_twin_re_2 _ | exact gl_CRLF _ | exact gl_quotedata _ | exact gl_fix_eols _ | exact gl_parse_varint _ | exact gl_law_numbers _ | exact gl_law_word _ | exact gl_law_spelled _ | exact gl_law_mails _ | exact gl_law_sent _ | exact gl_law_octets _ | exact gl_law_value _ | exact gl_law_primes _) ?_
  | refine nmB (by assumption) (by assumption) (by first | exact gb_next _ | exact gb_enumerate _ | exact gb_chr _ | exact gb_ord _ | exact gb_len _ | exact gb_sum _ | exact gb_range _ | exact gb_iter _ | exact gb_StopIteration _) (by boot_fast) ?_)
local macro_rules | `(tactic| walk_at "storeName") => `(tactic| (refine storeX_L (by assumption) (by assumption) ?_; intro h' F' N'; dsimp only at F' N' ⊢))

local macro_rules | `(tactic| walk_at "loadName") => `(tactic| refine wpAny_loadName_local rfl rfl (Fr.ns (by assumption)) (by first | rfl | assumption) ?_)
local macro_rules | `(tactic| walk_at "callWith ref") => `(tactic| refine callWith_K (Gd.X (by assumption)) (by kernel_rfl) ?_)
local macro_rules | `(tactic| walk_at "And") => `(tactic| ((with_reducible show Frag.In _ _ ∧ _); refine ⟨Frag.In.keeps (Gd.X (by assumption)) (Fr.keep (by assumption)), ?_⟩; (try dsimp only [List.nil_append, List.cons_append])))


local macro_rules | `(tactic| news_mem) => `(tactic| first | exact .head _ | (refine .tail _ ?_; news_mem))


theorem try_stmt {w : World} {s : Shared} {fa : Addr} {cd : Value} {h₁ : Heap} {tk : Nat} {m : Str → Option Value} {rest : List (Addr × Obj)} {Q : Flow → Shared → Prop} {I T : Addr} {k' : Nat} {o5 oI : Obj} {items : List Value} {e0 : List Nat} {pre : List Int} (G : Gd w s.heap) (K : Below callerA s.heap [] s.heap)
    (F : Fr s.heap s.heap.objs.size h₁ m) (N : News s.heap s.heap.objs.size h₁ ((I, oI) :: (s.heap.objs.size + 5, o5) :: (T, { cls := .type "list", data := .seq (List.toArray items) k' }) :: rest)) (he0 : e0 ≠ [] ∧ e0.length ≤ 100 ∧ ∀ c ∈ e0, c < 64)
    (hd5 : o5.data = .cell (some (.ref I))) (hIc : oI.cls = .type "list_iterator") (hId : oI.data = .fields #[.ref T, .int ((pre.length : Nat) : Int) 0]) (hit : IntsAre items (pre ++ (octs e0).dropLast)) (hrest : ∀ p ∈ rest, p.1 ≠ I)
    (hQ : ∀ h' tk', Fr s.heap s.heap.objs.size h' m → News s.heap s.heap.objs.size h' rest →
      wpAny (model PP w) (callerA.deeper (lawEnv s.heap.objs.size fa cd)) (execs (lawBody.drop 15) (lawEnv s.heap.objs.size fa cd)) Q (fun _ _ => False) { s with heap := h', toks := tk' }) :
    wpAny (model PP w) (callerA.deeper (lawEnv s.heap.objs.size fa cd)) (execs (lawBody.drop 14) (lawEnv s.heap.objs.size fa cd)) Q (fun _ _ => False) { s with heap := h₁, toks := tk } := by
  refine execs_as (l' := _ :: _) rfl ?_
  have rm := callerA_room
  walk1
  refine wpAny_Try_except ?_
  iterate 8 walk1
  refine ⟨G.X.keeps F.keep, ?_⟩
  have zI := N _ (.head _)
  have z5 := N _ (.tail _ (.head _))
  have zT := N _ (.tail _ (.tail _ (.head _)))
  have hTI : T ≠ I := by
    rintro q
    have h1 : h₁.get? T = some _ := zT.1
    have h2 : h₁.get? I = some oI := zI.1
    rw [q, h2] at h1
    rw [Option.some.inj h1] at hIc
    exact absurd (Value.type.inj hIc) (by decide)
  have h5I : s.heap.objs.size + 5 ≠ I := by
    rintro q
    have h1 : h₁.get? (s.heap.objs.size + 5) = some o5 := z5.1
    have h2 : h₁.get? I = some oI := zI.1
    rw [q, h2] at h1
    rw [Option.some.inj h1, hd5] at hId
    cases hId
  have hnI : ∀ p ∈ (s.heap.objs.size + 5, o5) :: (T, ({ cls := .type "list", data := .seq (List.toArray items) k' } : Obj)) :: rest, p.1 ≠ I := fun p hp => by
    rcases List.mem_cons.mp hp with rfl | hp
    · exact h5I
    · rcases List.mem_cons.mp hp with rfl | hp
      · exact hTI
      · exact hrest p hp
  have hlen := IntsAre.length hit
  rw [List.length_append, List.length_dropLast, octs_length] at hlen
  have hpos : 1 ≤ e0.length := List.length_pos_iff.mpr he0.1
  have hdl : e0.dropLast.length = e0.length - 1 := List.length_dropLast
  refine varint_raise (l := e0.dropLast) (j := pre.length) K G F N hnI rfl rfl rfl (by show callerA.depth + 1 < _; omega) rfl hIc hId (.tail _ (.head _)) rfl rfl (by omega) (fun c hc => he0.2.2 c (List.dropLast_subset _ hc)) (fun i c hi => ?_) (by omega) fun g h' e t tk' Fg hsm R => ?_
  · have hlt : i < e0.length - 1 := by have := (List.getElem?_eq_some_iff.mp hi).1; omega
    have hi' : e0[i]? = some c := by
      rw [List.getElem?_dropLast, if_pos hlt] at hi; exact hi
    have hlt2 : pre.length + i < items.length := by omega
    obtain ⟨n, t, hv, hn⟩ := IntsAre.at hit (pre.length + i) _ (List.getElem?_eq_getElem hlt2)
    rw [List.getElem?_append_right (by omega), show pre.length + i - pre.length = i by omega, List.getElem?_dropLast, octs_length, if_pos hlt] at hn
    simp [octs, List.getElem?_mapIdx, hi'] at hn
    refine ⟨t, ?_⟩
    rw [List.getElem?_eq_getElem hlt2, hv, hdl, ← hn, show e0.length - 1 + 1 = e0.length by omega]
  · refine caught_stop G K Fg hsm R (fun h₉ F₉ N₉ => ?_) rfl rfl rfl rfl rfl
    iterate 2 walk1
    exact wpAny_execs_nil (hQ h₉ tk' F₉ fun p hp => N₉ p (.tail _ (.tail _ hp)))
end Mine
end
-- part L11a
section
open PySem PySem.W PyProof.Rows
set_option Elab.async false
set_option maxRecDepth 100000
set_option maxHeartbeats 4000000
set_option pp.deepTerms false
set_option pp.deepTerms.threshold 5
set_option pp.maxSteps 20000
set_option linter.unusedSimpArgs false
set_option linter.unusedVariables false
namespace Mine
local macro_rules | `(tactic| walk_at "eval Name") => `(tactic| first
  | refine nmL (by assumption) (by first | rfl | assumption) ?_
  | refine nmC2 rfl (by assumption) (by news_mem) (by assumption) ?_
  | refine nmC3 rfl (by assumption) ?_
  | refine nmG (by assumption) (by assumption) (by first | exact gl_twin_re_1 _ | exact gl_twin_re_2 _ | exact gl_CRLF _ | exact gl_quotedata _ | exact gl_fix_eols _ | exact gl_parse_varint _ | exact gl_law_numbers _ | exact gl_law_word _ | exact gl_law_spelled _ | exact gl_law_mails _ | exact gl_law_sent _ | exact gl_law_octets _ | exact gl_law_value _ | exact gl_law_primes _) ?_
  | refine nmB (by assumption) (by assumption) (by first | exact gb_next _ | exact gb_enumerate _ | exact gb_chr _ | exact gb_ord _ | exact gb_len _ | exact gb_sum _ | exact gb_range _ | exact gb_iter _ | exact gb_StopIteration _) (by boot_fast) ?_)
local macro_rules | `(tactic| walk_at "storeName") => `(tactic| (refine storeX_L (by assumption) (by assumption) ?_; intro h' F' N'; dsimp only at F' N' ⊢))

local macro_rules | `(tactic| walk_at "loadName") => `(tactic| refine wpAny_loadName_local rfl rfl (Fr.ns (by assumption)) (by first | rfl | assumption) ?_)
local macro_rules | `(tactic| walk_at "callWith ref") => `(tactic| refine callWith_K (Gd.X (by assumption)) (by kernel_rfl) ?_)
local macro_rules | `(tactic| walk_at "And") => `(tactic| ((with_reducible show Frag.In _ _ ∧ _); refine ⟨Frag.In.keeps (Gd.X (by assumption)) (Fr.keep (by assumption)), ?_⟩; (try dsimp only [List.nil_append, List.cons_append])))


local macro_rules | `(tactic| news_mem) => `(tactic| first | exact .head _ | (refine .tail _ ?_; news_mem))


abbrev lstP (q : List PT) (k : Nat) : Obj := { cls := .type "list", data := .seq (q.map PT.val).toArray k }
def aliked (z : List Nat) (q : Nat) : Bool := decide (dotF true (fixF false (rep ((phi z).take ((phi z).length / q)) q)) = dotF true (phi z))
def geo (d q : Nat) : Int := ((List.range q).map fun i => (64 : Int) ^ (d * i)).sum
def rept (z : List Nat) : Bool := (primesOf (phi z).length).any (aliked z)

structure Names (m : Str → Option Value) (H V U W X D : Addr) : Prop where
  hits : m "hits" = some (.ref H)
  evens : m "evens" = some (.ref V)
  sends : m "sends" = some (.ref U)
  told : m "told" = some (.ref W)
  words : m "words" = some (.ref X)
  pairs : m "pairs" = some (.ref D)

theorem slice_ss_k {w : World} {A : Around} {E : Value → Shared → Prop} {s : Shared} {value slice : PySem.Expr} {x : Str} {t : Tok} {Q : Value → Shared → Prop} {i j : Int} {ui uj : Tok}
    (h : ∀ h' t' k, (∀ b o, s.heap.get? b = some o → h'.get? b = some o) → Q (.str (Txt.slice x (some i) (some j)) t') { s with heap := h', toks := k })
    (hsz : x.length ≤ sizeLine)
    (hs : subscripted slice false (.str x t) (.ref s.heap.objs.size) = operate [.ref s.heap.objs.size, .str x t] (getItem (.str x t) (.ref s.heap.objs.size)) := by with_unfolding_all rfl)
    (ht : ∀ r, letTemporaryGo value (.str x t) r = pure () := by intro _; with_unfolding_all rfl) :
    wpAny (model PP w) A (subscriptTail value slice (.str x t) (.ref s.heap.objs.size)) Q E { s with heap := s.heap.push { cls := .type "slice", data := .fields #[.int i ui, .int j uj, .none] } } :=
  tail_of_ItemOn (SBH.sliceItem_ss (keptK s) (fun _ _ e => e) h hsz) hs ht

theorem strs_get {lq : List (Str × Tok)} {zs : List (List Nat)} (h : lq.map (·.1) = zs.map S) {n : Nat} {z : List Nat} (hz : zs[n]? = some z) : ∃ t, (strValues lq).toArray[n]? = some (.str (S z) t) := by
  have hl0 : lq[n]?.map (·.1) = some (S z) := by rw [← List.getElem?_map, h, List.getElem?_map, hz]; rfl
  obtain ⟨q, hq, hq2⟩ := Option.map_eq_some_iff.mp hl0
  exact ⟨q.2, by simp [strValues, hq, ← hq2]⟩
theorem primesTo_le {n : Nat} : ∀ {i p : Nat}, p ∈ primesTo n i → p ≤ i + 1
  | i + 1, p, h => by
    rw [primesTo, prStep] at h
    split at h
    · rcases List.mem_append.mp h with h | h
      · have := primesTo_le h; omega
      · rw [List.mem_singleton.mp h]; omega
    · have := primesTo_le h; omega
theorem sum_pos : ∀ l : List Int, (∀ x ∈ l, 1 ≤ x) → l ≠ [] → 1 ≤ l.sum
  | [a], h, _ => by simpa using h a (.head _)
  | a :: b :: r, h, _ => by
    have ih := sum_pos (b :: r) (fun x hx => h x (.tail _ hx)) (by simp)
    have := h a (.head _)
    rw [List.sum_cons]; omega
theorem geo_ne {d q : Nat} (h : 1 ≤ q) : geo d q ≠ 0 := by
  have := sum_pos ((List.range q).map fun i => (64 : Int) ^ (d * i)) (fun x hx => by
    obtain ⟨i, _, rfl⟩ := List.mem_map.mp hx
    have : (0 : Int) < 64 ^ (d * i) := Int.pow_pos (by decide)
    omega) (by intro q0; have := congrArg List.length q0; simp at this; omega)
  unfold geo
  omega

def loopBody : List Stmt := match lawBody.drop 16 with
  | .For _ _ body _ _ :: _ => body
  | _ => []
end Mine
end
-- part L11b
section
local macro_rules | `(tactic| walk_at "pad") => `(tactic| skip)
local macro_rules | `(tactic| walk_at "pad") => `(tactic| skip)
local macro_rules | `(tactic| walk_at "pad") => `(tactic| skip)
local macro_rules | `(tactic| walk_at "pad") => `(tactic| skip)
local macro_rules | `(tactic| walk_at "pad") => `(tactic| skip)
local macro_rules | `(tactic| walk_at "pad") => `(tactic| skip)
local macro_rules | `(tactic| walk_at "pad") => `(tactic| skip)
local macro_rules | `(tactic| walk_at "pad") => `(tactic| skip)
local macro_rules | `(tactic| walk_at "pad") => `(tactic| skip)
local macro_rules | `(tactic| walk_at "pad") => `(tactic| skip)
local macro_rules | `(tactic| walk_at "pad") => `(tactic| skip)
local macro_rules | `(tactic| walk_at "pad") => `(tactic| skip)
local macro_rules | `(tactic| walk_at "pad") => `(tactic| skip)
local macro_rules | `(tactic| walk_at "pad") => `(tactic| skip)
open PySem PySem.W PyProof.Rows
set_option Elab.async false
set_option maxRecDepth 100000
set_option maxHeartbeats 4000000
set_option pp.deepTerms false
set_option pp.deepTerms.threshold 5
set_option pp.maxSteps 20000
set_option linter.unusedSimpArgs false
set_option linter.unusedVariables false
namespace Mine
local macro_rules | `(tactic| walk_at "eval Name") => `(tactic| first
  | refine nmL (by assumption) (by first | rfl | assumption) ?_
  | refine nmC2 rfl (by assumption) (by news_mem) (by assumption) ?_
  | refine nmC3 rfl (by assumption) ?_
  | refine nmG (by assumption) (by assumption) (by first | exact gl_twin_re_1 _ | exact gl_twin_re_2 _ | exact gl_CRLF _ | exact gl_quotedata _ | exact gl_fix_eols _ | exact gl_parse_varint _ | exact gl_law_numbers _ | exact gl_law_word _ | exact gl_law_spelled _ | exact gl_law_mails _ | exact gl_law_sent _ | exact gl_law_octets _ | exact gl_law_value _ | exact gl_law_primes _) ?_
  | refine nmB (by assumption) (by assumption) (by first | exact gb_next _ | exact gb_enumerate _ | exact gb_chr _ | exact gb_ord _ | exact gb_len _ | exact gb_sum _ | exact gb_range _ | exact gb_iter _ | exact gb_StopIteration _) (by boot_fast) ?_)
local macro_rules | `(tactic| walk_at "storeName") => `(tactic| (refine storeX_L (by assumption) (by assumption) ?_; intro h' F' N'; dsimp only at F' N' ⊢))

local macro_rules | `(tactic| walk_at "loadName") => `(tactic| refine wpAny_loadName_local rfl rfl (Fr.ns (by assumption)) (by first | rfl | assumption) ?_)
local macro_rules | `(tactic| walk_at "callWith ref") => `(tactic| refine callWith_K (Gd.X (by assumption)) (by kernel_rfl) ?_)
local macro_rules | `(tactic| walk_at "And") => `(tactic| ((with_reducible show Frag.In _ _ ∧ _); refine ⟨Frag.In.keeps (Gd.X (by assumption)) (Fr.keep (by assumption)), ?_⟩; (try dsimp only [List.nil_append, List.cons_append])))


local macro_rules | `(tactic| news_mem) => `(tactic| first | exact .head _ | (refine .tail _ ?_; news_mem))


theorem loop_tail {w : World} {s : Shared} {fa : Addr} {cd : Value} {h₁ : Heap} {tk : Nat} {m : Str → Option Value} {own rest : List (Addr × Obj)} {P : Flow → Shared → Prop} {H V U W X D : Addr} {o6 o7 : Obj} {lx : List (Str × Tok)} {q hs : List PT} {kx kd k' i : Nat} {ti : Tok} {z : List Nat} {qi : PT} (G : Gd w s.heap)
    (F : Fr s.heap s.heap.objs.size h₁ m) (N : News s.heap s.heap.objs.size h₁ ((s.heap.objs.size + 7, o7) :: (s.heap.objs.size + 6, o6) :: (own ++ (H, lstP hs k') :: rest))) (M : Names m H V U W X D)
    (h7H : s.heap.objs.size + 7 ≠ H) (h6H : s.heap.objs.size + 6 ≠ H) (hoH : ∀ p ∈ own, p.1 ≠ H) (hHr : ∀ p ∈ rest, p.1 ≠ H) (hX : (X, lst lx kx) ∈ rest) (hD : (D, lstP q kd) ∈ rest) (hT : ∀ p ∈ q, p.ent ∈ rest)
    (hgx : ∃ tx, (strValues lx).toArray[i + 2]? = some (.str (S z) tx)) (hqi : q[i]? = some qi) (hi9 : i < 9) (hz60 : z.length ≤ 60) (hhs : hs.length ≤ 9) (hrep : m "repeat" = some (.bool (rept z))) (hmk : m "k" = some (.int (2 + (i : Int)) ti))
    (hC : rept z = Txt.contains (Txt.slice (S z ++ S z) (some 1) (some (-1))) (S z))
    (hQ : ∀ h' tk' k'', Fr s.heap s.heap.objs.size h' m → News s.heap s.heap.objs.size h' ((s.heap.objs.size + 7, o7) :: (s.heap.objs.size + 6, o6) :: (own ++ (H, lstP (hs ++ if rept z = true then [qi] else []) k'') :: rest)) → P .next { s with heap := h', toks := tk' }) :
    wpAny (model PP w) (callerA.deeper (lawEnv s.heap.objs.size fa cd)) (execs (loopBody.drop 3) (lawEnv s.heap.objs.size fa cd)) P (fun _ _ => False) { s with heap := h₁, toks := tk } := by
  refine execs_as (l' := _ :: _) rfl ?_
  obtain ⟨mh, mv, mu, mt, mw, mp⟩ := M
  obtain ⟨tx, hgx⟩ := hgx
  have hk2 : (2 + (i : Int)).toNat = i + 2 := by omega
  have fx : ∀ {h : Heap} {k : Nat} {hs : List PT} {x : Addr × Obj}, News s.heap s.heap.objs.size h ((s.heap.objs.size + 7, o7) :: (s.heap.objs.size + 6, o6) :: (own ++ (H, lstP hs k) :: rest)) → x ∈ rest → h.get? x.1 = some x.2 := fun N hx => (N _ (.tail _ (.tail _ (List.mem_append_right _ (.tail _ hx))))).1
  have hlX : h₁.IsList X (strValues lx).toArray := ⟨_, fx N hX, rfl, _, rfl⟩
  have ru := callerA_units
  iterate 8 walk1
  refine item_list hlX (by omega) (by omega) (by rw [hk2]; exact hgx) ?_
  iterate 5 walk1
  refine item_list hlX (by omega) (by omega) (by rw [hk2]; exact hgx) ?_
  iterate 3 walk1
  refine item_list hlX (by omega) (by omega) (by rw [hk2]; exact hgx) ?_
  refine PyProof.Rows.add_str (fun t' tk' => ?_) (by rw [S_length, sizeLine_eq]; omega)
  iterate 8 walk1
  refine slice_ss_k (fun h₂ t₂ tk₂ k₂ => ?_) (by rw [S_append, S_length, sizeLine_eq, List.length_append]; omega)
  replace F := fr_up F k₂
  replace N := news_up N k₂
  clear k₂ hlX
  (try dsimp only at F N)
  refine PyProof.Rows.in_str ?_
  rw [show (!(Builtin.Str.occurrences (Txt.slice (S z ++ S z) (some 1) (some (-1))) (S z) 0 (Txt.slice (S z ++ S z) (some 1) (some (-1))).length 1).isEmpty) = rept z from hC.symm]
  iterate 1 walk1
  rw [show (rept z != rept z) = false by simp]
  iterate 3 walk1
  generalize hr0 : rept z = r0 at *
  dsimp only
  iterate 4 walk1
  refine wpAny_truthy_bool ?_
  cases r0 with
  | false =>
    simp only [Bool.false_eq_true, if_false]
    iterate 2 walk1
    have := hQ h₂ tk₂ k' F (by simpa using N)
    exact this
  | true =>
    simp only [if_true]
    iterate 4 walk1
    have hmem : (H, lstP hs k') ∈ (s.heap.objs.size + 7, o7) :: (s.heap.objs.size + 6, o6) :: (own ++ (H, lstP hs k') :: rest) := .tail _ (.tail _ (List.mem_append_right _ (.head _)))
    refine getMethod_append_N N hmem ?_
    have hlD : h₂.IsList D (q.map PT.val).toArray := ⟨_, fx N hD, rfl, _, rfl⟩
    iterate 8 walk1
    refine item_list hlD (by omega) (by omega) (show (q.map PT.val).toArray[(2 + (i : Int) - 2).toNat]? = some qi.val by rw [show (2 + (i : Int) - 2).toNat = i by omega, List.getElem?_toArray, List.getElem?_map, hqi]; rfl) ?_
    walk1
    refine append_at (N _ hmem).1 (fun h₃ hs₃ ha₃ => ?_) (by rw [List.size_toArray, List.length_map, sizeLine_eq]; omega)
    have hH := (N _ hmem).2
    have F' := F.change hs₃ hH.1 hH.2
    have N' : News s.heap s.heap.objs.size h₃ ((s.heap.objs.size + 7, o7) :: (s.heap.objs.size + 6, o6) :: (own ++ (H, lstP (hs ++ [qi]) (k' + 1)) :: rest)) := fun p hp => by
      have keep : p.1 ≠ H → p ∈ (s.heap.objs.size + 7, o7) :: (s.heap.objs.size + 6, o6) :: (own ++ (H, lstP hs k') :: rest) → h₃.get? p.1 = some p.2 ∧ p.1 ≠ s.heap.objs.size ∧ s.heap.get? p.1 = none := fun h1 h2 => ⟨hs₃.extBut _ _ h1 (N p h2).1, (N p h2).2⟩
      rcases List.mem_cons.mp hp with rfl | hp
      · exact keep h7H (.head _)
      · rcases List.mem_cons.mp hp with rfl | hp
        · exact keep h6H (.tail _ (.head _))
        · rcases List.mem_append.mp hp with hp | hp
          · exact keep (hoH p hp) (.tail _ (.tail _ (List.mem_append_left _ hp)))
          · rcases List.mem_cons.mp hp with rfl | hp
            · refine ⟨?_, hH⟩
              show h₃.get? H = some (lstP (hs ++ [qi]) (k' + 1))
              rw [ha₃]
              simp [lstP]
            · exact keep (hHr p hp) (.tail _ (.tail _ (List.mem_append_right _ (.tail _ hp))))
    iterate 2 walk1
    exact hQ h₃ _ (k' + 1) F' (by simpa using N')
end Mine
end
-- part L11
section
open PySem PySem.W PyProof.Rows
set_option Elab.async false
set_option maxRecDepth 100000
set_option maxHeartbeats 4000000
set_option pp.deepTerms false
set_option pp.deepTerms.threshold 5
set_option pp.maxSteps 20000
set_option linter.unusedSimpArgs false
set_option linter.unusedVariables false
namespace Mine
local macro_rules | `(tactic| walk_at "eval Name") => `(tactic| first
  | refine nmL (by assumption) (by first | rfl | assumption) ?_
  | refine nmC2 rfl (by assumption) (by news_mem) (by assumption) ?_
  | refine nmC3 rfl (by assumption) ?_
  | refine nmG (by assumption) (by assumption) (by first | exact gl_twin_re_1 _ | exact gl_twin_re_2 _ | exact gl_CRLF _ | exact gl_quotedata _ | exact gl_fix_eols _ | exact gl_parse_varint _ | exact gl_law_numbers _ | exact gl_law_word _ | exact gl_law_spelled _ | exact gl_law_mails _ | exact gl_law_sent _ | exact gl_law_octets _ | exact gl_law_value _ | exact gl_law_primes _) ?_
  | refine nmB (by assumption) (by assumption) (by first | exact gb_next _ | exact gb_enumerate _ | exact gb_chr _ | exact gb_ord _ | exact gb_len _ | exact gb_sum _ | exact gb_range _ | exact gb_iter _ | exact gb_StopIteration _) (by boot_fast) ?_)
local macro_rules | `(tactic| walk_at "storeName") => `(tactic| (refine storeX_L (by assumption) (by assumption) ?_; intro h' F' N'; dsimp only at F' N' ⊢))

local macro_rules | `(tactic| walk_at "loadName") => `(tactic| refine wpAny_loadName_local rfl rfl (Fr.ns (by assumption)) (by first | rfl | assumption) ?_)
local macro_rules | `(tactic| walk_at "callWith ref") => `(tactic| refine callWith_K (Gd.X (by assumption)) (by kernel_rfl) ?_)
local macro_rules | `(tactic| walk_at "And") => `(tactic| ((with_reducible show Frag.In _ _ ∧ _); refine ⟨Frag.In.keeps (Gd.X (by assumption)) (Fr.keep (by assumption)), ?_⟩; (try dsimp only [List.nil_append, List.cons_append])))


local macro_rules | `(tactic| news_mem) => `(tactic| first | exact .head _ | (refine .tail _ ?_; news_mem))

theorem for_stmt {w : World} {s : Shared} {fa : Addr} {cd : Value} {h₁ : Heap} {tk : Nat} {m : Str → Option Value} {rest : List (Addr × Obj)} {Q : Flow → Shared → Prop} {E : Value → Shared → Prop} {H V U W X D : Addr} {o6 o7 : Obj} {v6 v7 : Option Value} {ws : List (List Nat)} {lv lu lx : List (Str × Tok)} {ys : List Value} {q : List PT} {kv ku kw kx kd : Nat} (G : Gd w s.heap)
    (F : Fr s.heap s.heap.objs.size h₁ m) (N : News s.heap s.heap.objs.size h₁ ((H, lstP [] 0) :: (s.heap.objs.size + 6, o6) :: (s.heap.objs.size + 7, o7) :: rest)) (M : Names m H V U W X D)
    (hd6 : o6.data = .cell v6) (hd7 : o7.data = .cell v7) (hHr : ∀ p ∈ rest, p.1 ≠ H) (h6r : ∀ p ∈ rest, p.1 ≠ s.heap.objs.size + 6) (h7r : ∀ p ∈ rest, p.1 ≠ s.heap.objs.size + 7)
    (hV : (V, lst lv kv) ∈ rest) (hU : (U, lst lu ku) ∈ rest) (hW : (W, { cls := .type "list", data := .seq (List.toArray ys) kw }) ∈ rest) (hX : (X, lst lx kx) ∈ rest) (hD : (D, lstP q kd) ∈ rest) (hT : ∀ p ∈ q, p.ent ∈ rest)
    (hlx : lx.map (·.1) = ws.map S) (hlv : lv.map (·.1) = (ws.map phi).map S) (hlu : lu.map (·.1) = (ws.map fun z => dotF true (phi z)).map S) (hys : IntsAre ys (natInts ((ws.map phi).map val)))
    (h11 : ws.length = 11) (hq9 : q.length = 9) (hws : ∀ z ∈ ws, (phi z).length ≤ 60 ∧ 1 ≤ (phi z).length ∧ (∀ c ∈ phi z, c < 64) ∧ z.length ≤ 60)
    (hB : ∀ z ∈ ws.drop 2, ∀ p ∈ primesOf (phi z).length, aliked z p = decide ((val (phi z) : Int).fmod (geo ((phi z).length / p) p) = 0))
    (hC : ∀ z ∈ ws.drop 2, rept z = Txt.contains (Txt.slice (S z ++ S z) (some 1) (some (-1))) (S z))
    (hQ : ∀ h' tk' m' o6' o7' k', Fr s.heap s.heap.objs.size h' m' → Names m' H V U W X D → News s.heap s.heap.objs.size h' ((H, lstP ((List.range 9).filterMap fun i => if rept (ws.getD (i + 2) []) = true then q[i]? else none) k') :: (s.heap.objs.size + 6, o6') :: (s.heap.objs.size + 7, o7') :: rest) →
      wpAny (model PP w) (callerA.deeper (lawEnv s.heap.objs.size fa cd)) (execs (lawBody.drop 17) (lawEnv s.heap.objs.size fa cd)) Q E { s with heap := h', toks := tk' })
    (hE : E = fun _ _ => False) :
    wpAny (model PP w) (callerA.deeper (lawEnv s.heap.objs.size fa cd)) (execs (lawBody.drop 16) (lawEnv s.heap.objs.size fa cd)) Q E { s with heap := h₁, toks := tk } := by
  subst hE
  refine execs_as (l' := _ :: _) rfl ?_
  have rm := callerA_room
  have ru := callerA_units
  walk1
  refine For_turns F ?_
  iterate 9 walk1
  rename Fr _ _ _ _ => F₁
  rename News _ _ _ _ => N₁
  refine for_range rfl F₁ N₁ (by assumption) (by decide) (by decide) (by decide)
    (fun i m news => ∃ o6 o7 v6 v7 k', news = (H, lstP ((List.range i).filterMap fun i => if rept (ws.getD (i + 2) []) = true then q[i]? else none) k') :: (s.heap.objs.size + 6, o6) :: (s.heap.objs.size + 7, o7) :: rest ∧ o6.data = .cell v6 ∧ o7.data = .cell v7 ∧ Names m H V U W X D) ⟨o6, o7, v6, v7, 0, rfl, hd6, hd7, M⟩ ?_ ?_
  · rintro i ti m₁ news₁ h₃ tk₃ own wr hi ⟨o6, o7, v6, v7, k', rfl, hd6, hd7, M⟩ hw hown F₃ N₃
    dsimp only at F₃ N₃ ⊢
    generalize hLs : List.filterMap (fun i => if rept (ws.getD (i + 2) []) = true then q[i]? else none) (List.range i) = hs at N₃
    refine wpAny_assign_Name (storeX_L F₃ N₃ (fun h₄ F N => ?_))
    dsimp only at F N ⊢
    have hi9 : i < 9 := by simpa using hi
    obtain ⟨z, hz⟩ : ∃ z, ws[i + 2]? = some z := ⟨_, List.getElem?_eq_getElem (by omega)⟩
    have hzd : z ∈ ws.drop 2 := List.mem_of_getElem? (i := i) (by rw [List.getElem?_drop, Nat.add_comm]; exact hz)
    have hzw := hws z (List.mem_of_getElem? hz)
    have hk2 : (2 + (i : Int)).toNat = i + 2 := by omega
    obtain ⟨mh, mv, mu, mt, mw, mp⟩ := M
    obtain ⟨tv, hgv⟩ := strs_get hlv (n := i + 2) (z := phi z) (by rw [List.getElem?_map, hz]; rfl)
    obtain ⟨tu, hgu⟩ := strs_get hlu (n := i + 2) (z := dotF true (phi z)) (by rw [List.getElem?_map, hz]; rfl)
    obtain ⟨tx, hgx⟩ := strs_get hlx (n := i + 2) (z := z) hz
    have up : ∀ {h : Heap} {c6 c7 : Obj} {pre : List (Addr × Obj)} {p : Addr × Obj}, News s.heap s.heap.objs.size h (pre ++ (H, c6) :: (s.heap.objs.size + 6, c7) :: (s.heap.objs.size + 7, o7) :: rest) → p ∈ rest → True := fun _ _ => trivial
    iterate 9 walk1
    refine item_list ⟨_, (N _ (List.mem_append_right _ (.tail _ (.tail _ (.tail _ hV))))).1, rfl, _, rfl⟩ (by omega) (by omega) (by rw [hk2]; exact hgv) ?_
    walk1
    refine PySem.P.len_str (by rw [S_length]; have := hzw.1; omega) ?_
    rw [S_length]
    have hz6 := N _ (List.mem_append_right _ (.tail _ (.head _)))
    have hH6 : H ≠ s.heap.objs.size + 6 := by
      rintro q
      have h1 := (N _ (List.mem_append_right _ (.head _))).1
      have h2 := hz6.1
      dsimp only at h1 h2
      rw [q, h2] at h1
      rw [Option.some.inj h1] at hd6
      cases hd6
    have hH7 : H ≠ s.heap.objs.size + 7 := by
      rintro q
      have h1 := (N _ (List.mem_append_right _ (.head _))).1
      have h2 := (N _ (List.mem_append_right _ (.tail _ (.tail _ (.head _))))).1
      dsimp only at h1 h2
      rw [q, h2] at h1
      rw [Option.some.inj h1] at hd7
      cases hd7
    refine stC (own ++ (H, lstP hs k') :: (s.heap.objs.size + 7, o7) :: rest) F N (c := s.heap.objs.size + 6) (o := o6) (List.mem_append_right _ (.tail _ (.head _))) hd6 ?_ rfl (fun h₅ o6' F hd6' N => ?_)
    · intro p hp
      rcases List.mem_append.mp hp with hp | hp
      · exact ⟨List.mem_append_left _ hp, .inl (hown p hp (s.heap.objs.size + 6, o6) (.tail _ (.head _)))⟩
      · rcases List.mem_cons.mp hp with rfl | hp
        · exact ⟨List.mem_append_right _ (.head _), .inl hH6⟩
        · rcases List.mem_cons.mp hp with rfl | hp
          · exact ⟨List.mem_append_right _ (.tail _ (.tail _ (.head _))), .inl (by simp)⟩
          · exact ⟨List.mem_append_right _ (.tail _ (.tail _ (.tail _ hp))), .inl (h6r p hp)⟩
    iterate 3 walk1
    refine storeX_L F N (fun h₆ F N => ?_)
    dsimp only at F N ⊢
    walk1
    refine For_turns F ?_
    iterate 6 walk1
    refine ⟨G.X.keeps F.keep, ?_⟩
    refine wpAny_mono (primes_spec (G.keeps F.keep) (by show callerA.depth + 1 < _; omega) rfl (by show callerA.units + 3 + 100 < _; omega) hzw.2.1 (by have := hzw.1; omega)) (fun v s' r => ?_) (fun _ _ x => x)
    obtain ⟨⟨ap, op, kp, pi, rfl, hop, hpc, hpd, hpn, hpi⟩, h₇, tk₇, rfl, k₇⟩ := r
    have hap7 : ap ≠ s.heap.objs.size + 7 := by
      rintro q
      have h2 := (N (s.heap.objs.size + 7, o7) (.tail _ (List.mem_append_right _ (.tail _ (.head _))))).1
      dsimp only at h2
      have h3 := hpn
      dsimp only at h3
      rw [q, h2] at h3; cases h3
    have N' := news_up N k₇
    have F' := fr_up F k₇
    dsimp only at F' N' hop ⊢
    clear k₇ hpn
    have hsizes := hzw.1
    have hpl : h₇.IsList ap pi.toArray := ⟨op, hop, hpc, kp, hpd⟩
    have hapL : ap ≠ s.heap.objs.size := by
      rintro q
      obtain ⟨oL, es, ep, hL, hLd, _⟩ := F'.ns
      have h2 := hop
      rw [q] at h2
      have h3 : h₇.get? s.heap.objs.size = some oL := hL
      rw [h3] at h2
      rw [← Option.some.inj h2] at hpd
      rw [hLd] at hpd
      cases hpd
    refine for_list_t rfl F' (news := (s.heap.objs.size + 7, o7) :: (s.heap.objs.size + 6, o6') :: (own ++ (H, lstP hs k') :: rest)) (fun p hp => ?_) hpl hapL
      (fun j m news => ∃ o7' v7', news = (s.heap.objs.size + 7, o7') :: (s.heap.objs.size + 6, o6') :: (own ++ (H, lstP hs k') :: rest) ∧ o7'.data = .cell v7' ∧ m "repeat" = some (.bool (((primesOf (phi z).length).take j).any (aliked z))) ∧ m "k" = some (.int (2 + (i : Int)) ti) ∧ Names m H V U W X D)
      ⟨o7, v7, rfl, hd7, rfl, rfl, ⟨mh, mv, mu, mt, mw, mp⟩⟩ ?_ ?_
    · rcases List.mem_cons.mp hp with rfl | hp
      · exact N' _ (.tail _ (List.mem_append_right _ (.tail _ (.head _))))
      · rcases List.mem_cons.mp hp with rfl | hp
        · exact N' _ (.head _)
        · rcases List.mem_append.mp hp with hp | hp
          · exact N' p (.tail _ (List.mem_append_left _ hp))
          · rcases List.mem_cons.mp hp with rfl | hp
            · exact N' _ (.tail _ (List.mem_append_right _ (.head _)))
            · exact N' p (.tail _ (List.mem_append_right _ (.tail _ (.tail _ hp))))
    · rintro j v m₁ news₁ h₈ tk₈ own2 wr2 hv ⟨o7', v7', rfl, hd7', hrep, hmk, ⟨mh, mv, mu, mt, mw, mp⟩⟩ hw2 hown2 F₈ N₈
      clear F N F' N' F₃ N₃ F₁ N₁
      obtain ⟨n, tq, rfl, hnq⟩ := IntsAre.at hpi j v (by simpa using hv)
      rw [natInts, List.getElem?_map] at hnq
      obtain ⟨p, hp, rfl⟩ := Option.map_eq_some_iff.mp hnq
      have hpm := List.mem_of_getElem? hp
      have hp2 : 2 ≤ p := primesTo_ge hpm
      have hple : p ≤ (phi z).length := by have := primesTo_le hpm; omega
      dsimp only at F₈ N₈ ⊢
      refine wpAny_assign_Name (stC (own2 ++ (s.heap.objs.size + 6, o6') :: (own ++ (H, lstP hs k') :: rest)) F₈ N₈ (c := s.heap.objs.size + 7) (o := o7') (List.mem_append_right _ (.head _)) hd7' ?_ rfl (fun h₉ o7q F hd7q N => ?_))
      · intro x hx
        rcases List.mem_append.mp hx with hx | hx
        · refine ⟨List.mem_append_left _ hx, .inl ?_⟩
          rcases hown2 x hx with q | q
          · rw [q]; exact hap7
          · exact q (s.heap.objs.size + 7, o7') (.head _)
        · rcases List.mem_cons.mp hx with rfl | hx
          · exact ⟨List.mem_append_right _ (.tail _ (.head _)), .inl (by simp)⟩
          · refine ⟨List.mem_append_right _ (.tail _ (.tail _ hx)), .inl ?_⟩
            rcases List.mem_append.mp hx with hx | hx
            · exact hown x hx (s.heap.objs.size + 7, o7) (.tail _ (.tail _ (.head _)))
            · rcases List.mem_cons.mp hx with rfl | hx
              · exact hH7
              · exact h7r x hx
      have fx : ∀ {h : Heap} {c : Obj} {x : Addr × Obj}, News s.heap s.heap.objs.size h ((s.heap.objs.size + 7, c) :: (own2 ++ (s.heap.objs.size + 6, o6') :: (own ++ (H, lstP hs k') :: rest))) → x ∈ rest → h.get? x.1 = some x.2 := fun N hx => (N _ (.tail _ (List.mem_append_right _ (.tail _ (List.mem_append_right _ (.tail _ hx)))))).1
      have hlV : h₉.IsList V (strValues lv).toArray := ⟨_, fx N hV, rfl, _, rfl⟩
      have hlU : h₉.IsList U (strValues lu).toArray := ⟨_, fx N hU, rfl, _, rfl⟩
      have hlW : h₉.IsList W ys.toArray := ⟨_, fx N hW, rfl, _, rfl⟩
      have c6 : h₉.IsCell (s.heap.objs.size + 6) (some (.int ((phi z).length : Int) _)) := ⟨o6', (N _ (.tail _ (List.mem_append_right _ (.head _)))).1, hd6'⟩
      have c7 : h₉.IsCell (s.heap.objs.size + 7) (some (.int (p : Int) tq)) := ⟨o7q, (N _ (.head _)).1, hd7q⟩
      iterate 12 walk1
      refine item_list hlV (by omega) (by omega) (by rw [hk2]; exact hgv) ?_
      iterate 6 walk1
      refine PyProof.Rows.floordiv_int (by omega) ?_ (.inl (PyProof.noPylong_small (by omega)))
      rw [show ((phi z).length : Int).fdiv (p : Int) = (((phi z).length / p : Nat) : Int) by rw [Int.fdiv_eq_ediv_of_nonneg _ (by omega)]; simp]
      have hdle : (phi z).length / p ≤ (phi z).length := Nat.div_le_self _ _
      generalize hdd : (phi z).length / p = d at *
      iterate 1 walk1
      refine slice_ns_k (fun h₁₀ t₁₀ k₁₀ k10 => ?_) (by rw [S_length, sizeLine_eq]; omega)
      rw [slice_take _ _ hdle]
      replace F := fr_up F k10
      replace hlV := isList_up hlV k10
      replace hlU := isList_up hlU k10
      replace hlW := isList_up hlW k10
      replace c6 := c6.keeps k10
      replace c7 := c7.keeps k10
      replace N := news_up N k10
      clear k10
      (try dsimp only at F N)
      have htl : ((phi z).take d).length = d := by rw [List.length_take]; omega
      have hpd : p * d ≤ (phi z).length := by rw [← hdd, Nat.mul_comm]; exact Nat.div_mul_le_self _ _
      walk1
      refine SB.mul (mulOk_of 60 60 (by rw [S_length, htl]; omega) (by omega) (by omega) (by decide) (by decide)) fun t₁₁ k₁₁ => ?_
      rw [mul_S]
      walk1
      refine ⟨G.X.keeps F.keep, ?_⟩
      refine wpAny_mono (quote_spec (G.keeps F.keep) (by show callerA.depth + 1 < _; omega) (by rw [rep_length, htl]; omega)) (fun v s' r => ?_) (fun _ _ x => x)
      obtain ⟨⟨tr, rfl⟩, h₁₂, tk₁₂, rfl, k12⟩ := r
      replace F := fr_up F k12
      replace hlU := isList_up hlU k12
      replace hlW := isList_up hlW k12
      replace c6 := c6.keeps k12
      replace c7 := c7.keeps k12
      replace N := news_up N k12
      clear k12 hlV
      (try dsimp only at F N)
      iterate 3 walk1
      refine item_list hlU (by omega) (by omega) (by rw [hk2]; exact hgu) ?_
      refine PyProof.Rows.eq_str ?_
      have hal : (S (dotF true (fixF false (rep ((phi z).take d) p))) == S (dotF true (phi z))) = aliked z p := by rw [S_beq, aliked, hdd]
      first | rw [hal] | (rw [S_cps, S_cps, show (dotF true (fixF false (rep ((phi z).take d) p)) == dotF true (phi z)) = aliked z p by rw [aliked, hdd, Bool.eq_iff_iff]; simp])
      refine storeX_L F N (fun h₁₃ F N => ?_)
      have hlW : h₁₃.IsList W ys.toArray := ⟨_, fx N hW, rfl, _, rfl⟩
      have c6 : h₁₃.IsCell (s.heap.objs.size + 6) (some (.int ((phi z).length : Int) _)) := ⟨o6', (N _ (.tail _ (List.mem_append_right _ (.head _)))).1, hd6'⟩
      have c7 : h₁₃.IsCell (s.heap.objs.size + 7) (some (.int (p : Int) tq)) := ⟨o7q, (N _ (.head _)).1, hd7q⟩
      dsimp only at F N ⊢
      have hyl := IntsAre.length hys
      have hlt : i + 2 < ys.length := by rw [hyl]; simp [natInts]; omega
      obtain ⟨nv, tnv, hyv, hnv⟩ := IntsAre.at hys (i + 2) _ (List.getElem?_eq_getElem hlt)
      have hnv' : nv = (val (phi z) : Int) := by
        simp [natInts, hz] at hnv
        exact hnv.symm
      subst hnv'
      iterate 9 walk1
      refine item_list hlW (by omega) (by omega) (by rw [hk2, List.getElem?_toArray, List.getElem?_eq_getElem hlt, hyv]) ?_
      iterate 4 walk1
      refine lc (by with_unfolding_all rfl) (by decide) (by with_unfolding_all rfl) (by decide) ?_ (by intro _; with_unfolding_all rfl)
      iterate 6 walk1
      refine call_range_1 ?_
      have kp : ∀ (ob : Obj) b o, h₁₃.get? b = some o → (h₁₃.push ob).get? b = some o := fun ob b o e => Heap.get?_push_of_some _ e
      have F14 := fr_up F (kp { cls := .type "range", data := .fields #[.int 0 (tk₁₂ + 1), .int (p : Int) tq, .int 1 (tk₁₂ + 1 + 1)] })
      have N14 := news_up N (kp { cls := .type "range", data := .fields #[.int 0 (tk₁₂ + 1), .int (p : Int) tq, .int 1 (tk₁₂ + 1 + 1)] })
      replace c6 := c6.keeps (kp { cls := .type "range", data := .fields #[.int 0 (tk₁₂ + 1), .int (p : Int) tq, .int 1 (tk₁₂ + 1 + 1)] })
      replace c7 := c7.keeps (kp { cls := .type "range", data := .fields #[.int 0 (tk₁₂ + 1), .int (p : Int) tq, .int 1 (tk₁₂ + 1 + 1)] })
      have hlen : ((p : Int) - 0).toNat = p := by omega
      refine src_range rfl (IsRange.new ..) (by omega) (by decide) (by omega) (by rw [hlen, sizeLine_eq]; omega) (fun i v => ∃ t, v = .int ((64 : Int) ^ (d * i)) t) (fun C => ⟨rfl, rfl⟩) ?_ ?_
      · intro C i' t' s₃ m₃ E' hi' hmi F₃
        have c6 := c6.keeps F₃.keep
        have c7 := c7.keeps F₃.keep
        clear F N F14 N14
        dsimp only at F₃ c6 c7
        iterate 6 walk1
        refine PyProof.Rows.floordiv_int (by omega) ?_ (.inl (PyProof.noPylong_small (by omega)))
        rw [show ((phi z).length : Int).fdiv (p : Int) = (d : Int) by rw [Int.fdiv_eq_ediv_of_nonneg _ (by omega), ← hdd]; simp]
        walk1
        rw [hlen] at hi'
        have hdi : d * i' ≤ 60 := Nat.le_trans (Nat.mul_le_mul_left _ (Nat.le_of_lt hi')) (by rw [Nat.mul_comm]; omega)
        refine mul_int ?_ (.of_left (intBits_le_64 (by omega) (by omega)))
        rw [show ((d : Int) * (0 + (i' : Int))) = ((d * i' : Nat) : Int) by simp]
        refine pow_int_small (by omega) (by omega) (by decide) ?_
        exact ⟨⟨_, by rw [Int.toNat_natCast]⟩, _, _, rfl, fun _ _ e => e⟩
      · intro s₂ wr' zs up hw' e hlz hzs
        refine fin_lc F14 N14 up hw' e fun D' kD' h' tk' F₁₅ N₁₅ => ?_
        walk1
        have hgi : IntsAre zs ((List.range p).map fun i => (64 : Int) ^ (d * i)) := ints_of _ _ (by rw [hlz, hlen]; simp) fun i y hy => by
          obtain ⟨t, rfl⟩ := hzs i y hy
          have hip : i < p := by
            have := (List.getElem?_eq_some_iff.mp hy).1
            rw [hlz, hlen] at this; exact this
          exact ⟨_, t, by simp [hip], rfl⟩
        refine sum_K rfl (News.isList N₁₅ (.head _)) hgi fun h'' tk'' t'' k15 => ?_
        replace F := fr_up F₁₅ k15
        replace N := news_up (News.tail N₁₅) k15
        have hg0 : geo d p ≠ 0 := geo_ne (by omega)
        rw [show ((List.range p).map fun i => (64 : Int) ^ (d * i)).sum = geo d p from rfl]
        refine mod_int' hg0 ?_
        dsimp only at F N ⊢
        iterate 3 walk1
        have hcond : (aliked z p != ((val (phi z) : Int).fmod (geo d p) == 0)) = false := by
          have := hB z hzd p hpm
          rw [hdd] at this
          rw [this]
          by_cases h0 : (val (phi z) : Int).fmod (geo d p) = 0 <;> simp [h0]
        rw [hcond]
        clear F14 N14 F₁₅ N₁₅
        have hany : ((primesOf (phi z).length).take (j + 1)).any (aliked z) = (((primesOf (phi z).length).take j).any (aliked z) || aliked z p) := by
          rw [List.take_add_one, hp, List.any_append]; simp
        have newsOk : ∀ {h : Heap}, News s.heap s.heap.objs.size h ((s.heap.objs.size + 7, o7q) :: (own2 ++ (s.heap.objs.size + 6, o6') :: (own ++ (H, lstP hs k') :: rest))) → News s.heap s.heap.objs.size h (own2 ++ (s.heap.objs.size + 7, o7q) :: (s.heap.objs.size + 6, o6') :: (own ++ (H, lstP hs k') :: rest)) := fun N p hp => by
          rcases List.mem_append.mp hp with hp | hp
          · exact N p (.tail _ (List.mem_append_left _ hp))
          · rcases List.mem_cons.mp hp with rfl | hp
            · exact N _ (.head _)
            · exact N p (.tail _ (List.mem_append_right _ hp))
        iterate 7 walk1
        refine wpAny_truthy_bool ?_
        generalize hr0 : ((primesOf (phi z).length).take j).any (aliked z) = r0 at *
        cases r0 with
        | true =>
          simp only [if_true]
          refine storeX_L F N (fun h₁₆ F N => ?_)
          dsimp only at F N ⊢
          walk1
          refine LoopStepV.next (LoopStepU.intro (news₂ := (s.heap.objs.size + 7, o7q) :: (s.heap.objs.size + 6, o6') :: (own ++ (H, lstP hs k') :: rest)) F (newsOk N) (fun p hp => ?_) ⟨o7q, _, rfl, hd7q, ?_, hmk, ⟨mh, mv, mu, mt, mw, mp⟩⟩)
          · rcases List.mem_cons.mp hp with rfl | hp
            · exact hw2 (s.heap.objs.size + 7, o7') (.head _)
            · exact hw2 p (.tail _ hp)
          · rw [hany]; rfl
        | false =>
          simp only [Bool.false_eq_true, if_false]
          iterate 2 walk1
          refine storeX_L F N (fun h₁₆ F N => ?_)
          dsimp only at F N ⊢
          walk1
          refine LoopStepV.next (LoopStepU.intro (news₂ := (s.heap.objs.size + 7, o7q) :: (s.heap.objs.size + 6, o6') :: (own ++ (H, lstP hs k') :: rest)) F (newsOk N) (fun p hp => ?_) ⟨o7q, _, rfl, hd7q, ?_, hmk, ⟨mh, mv, mu, mt, mw, mp⟩⟩)
          · rcases List.mem_cons.mp hp with rfl | hp
            · exact hw2 (s.heap.objs.size + 7, o7') (.head _)
            · exact hw2 p (.tail _ hp)
          · rw [hany]; rfl
    · rintro h₂₀ tk₂₀ m₂ news₂ F N ⟨o7', v7', rfl, hd7', hrep, hmk, ⟨mh, mv, mu, mt, mw, mp⟩⟩
      have hsz : (pi.toArray).size = (primesOf (phi z).length).length := by
        have := IntsAre.length hpi
        rw [natInts, List.length_map] at this
        rw [List.size_toArray, this]
      rw [hsz, List.take_length] at hrep
      have hrep : m₂ "repeat" = some (.bool (rept z)) := hrep
      clear F' N' F₃ N₃ F₁ N₁
      dsimp only at F N ⊢
      obtain ⟨qi, hqi⟩ : ∃ qi, q[i]? = some qi := ⟨_, List.getElem?_eq_getElem (by omega)⟩
      have hhl : hs.length ≤ 9 := by
        rw [← hLs]
        exact Nat.le_trans (List.length_filterMap_le _ _) (by rw [List.length_range]; omega)
      have hstep : List.filterMap (fun i => if rept (ws.getD (i + 2) []) = true then q[i]? else none) (List.range (i + 1)) = hs ++ if rept z = true then [qi] else [] := by
        rw [List.range_succ, List.filterMap_append, hLs]
        congr 1
        have hg : ws.getD (i + 2) [] = z := by rw [List.getD_eq_getElem?_getD, hz]; rfl
        simp only [List.filterMap_cons, List.filterMap_nil, hg]
        by_cases hr : rept z = true
        · simp [hr, hqi]
        · simp [hr]
      refine loop_tail G F N ⟨mh, mv, mu, mt, mw, mp⟩ (Ne.symm hH7) (Ne.symm hH6) (fun p hp => hown p hp (H, lstP hs k') (by rw [← hLs]; exact .head _)) hHr hX hD hT ⟨tx, hgx⟩ hqi hi9 hzw.2.2.2 hhl hrep hmk (hC z hzd) fun h' tk' k'' F' N' => ?_
      refine LoopStepV.next (LoopStepU.intro (news₂ := (H, lstP (hs ++ if rept z = true then [qi] else []) k'') :: (s.heap.objs.size + 6, o6') :: (s.heap.objs.size + 7, o7') :: rest) F' (fun p hp => ?_) (fun p hp => ?_) ⟨o6', o7', _, _, k'', by rw [hstep], hd6', hd7', ⟨mh, mv, mu, mt, mw, mp⟩⟩)
      · rcases List.mem_append.mp hp with hp | hp
        · exact N' p (.tail _ (.tail _ (List.mem_append_left _ hp)))
        · rcases List.mem_cons.mp hp with rfl | hp
          · exact N' _ (.tail _ (.tail _ (List.mem_append_right _ (.head _))))
          · rcases List.mem_cons.mp hp with rfl | hp
            · exact N' _ (.tail _ (.head _))
            · rcases List.mem_cons.mp hp with rfl | hp
              · exact N' _ (.head _)
              · exact N' p (.tail _ (.tail _ (List.mem_append_right _ (.tail _ hp))))
      · rcases List.mem_cons.mp hp with rfl | hp
        · exact hw (H, lstP hs k') (by rw [← hLs]; exact .head _)
        · rcases List.mem_cons.mp hp with rfl | hp
          · exact hw (s.heap.objs.size + 6, o6) (.tail _ (.head _))
          · rcases List.mem_cons.mp hp with rfl | hp
            · exact hw (s.heap.objs.size + 7, o7) (.tail _ (.tail _ (.head _)))
            · exact hw p (.tail _ (.tail _ (.tail _ hp)))
  · rintro h' tk' m' news' F' N' ⟨o6, o7, v6, v7, k', rfl, hd6, hd7, M⟩
    exact hQ h' tk' m' o6 o7 k' F' M N'
end Mine
end
-- part L12
section
local macro_rules | `(tactic| walk_at "pad") => `(tactic| skip)
local macro_rules | `(tactic| walk_at "pad") => `(tactic| skip)
local macro_rules | `(tactic| walk_at "pad") => `(tactic| skip)
local macro_rules | `(tactic| walk_at "pad") => `(tactic| skip)
local macro_rules | `(tactic| walk_at "pad") => `(tactic| skip)
local macro_rules | `(tactic| walk_at "pad") => `(tactic| skip)
local macro_rules | `(tactic| walk_at "pad") => `(tactic| skip)
local macro_rules | `(tactic| walk_at "pad") => `(tactic| skip)
local macro_rules | `(tactic| walk_at "pad") => `(tactic| skip)
local macro_rules | `(tactic| walk_at "pad") => `(tactic| skip)
local macro_rules | `(tactic| walk_at "pad") => `(tactic| skip)
local macro_rules | `(tactic| walk_at "pad") => `(tactic| skip)
local macro_rules | `(tactic| walk_at "pad") => `(tactic| skip)
local macro_rules | `(tactic| walk_at "pad") => `(tactic| skip)
open PySem PySem.W PyProof.Rows
set_option Elab.async false
set_option maxRecDepth 100000
set_option maxHeartbeats 4000000
set_option pp.deepTerms false
set_option pp.deepTerms.threshold 5
set_option pp.maxSteps 20000
set_option linter.unusedSimpArgs false
set_option linter.unusedVariables false
namespace Mine
local macro_rules | `(tactic| walk_at "eval Name") => `(tactic| first
  | refine nmL (by assumption) (by first | rfl | assumption) ?_
  | refine nmC2 rfl (by assumption) (by news_mem) (by assumption) ?_
  | refine nmC3 rfl (by assumption) ?_
  | refine nmG (by assumption) (by assumption) (by first | exact gl_twin_re_1 _ | exact gl_twin_re_2 _ | exact gl_CRLF _ | exact gl_quotedata _ | exact gl_fix_eols _ | exact gl_parse_varint _ | exact gl_law_numbers _ | exact gl_law_word _ | exact gl_law_spelled _ | exact gl_law_mails _ | exact gl_law_sent _ | exact gl_law_octets _ | exact gl_law_value _ | exact gl_law_primes _) ?_
  | refine nmB (by assumption) (by assumption) (by first | exact gb_next _ | exact gb_enumerate _ | exact gb_chr _ | exact gb_ord _ | exact gb_len _ | exact gb_sum _ | exact gb_range _ | exact gb_iter _ | exact gb_StopIteration _) (by boot_fast) ?_)
local macro_rules | `(tactic| walk_at "storeName") => `(tactic| (refine storeX_L (by assumption) (by assumption) ?_; intro h' F' N'; dsimp only at F' N' ⊢))

local macro_rules | `(tactic| walk_at "loadName") => `(tactic| refine wpAny_loadName_local rfl rfl (Fr.ns (by assumption)) (by first | rfl | assumption) ?_)
local macro_rules | `(tactic| walk_at "callWith ref") => `(tactic| refine callWith_K (Gd.X (by assumption)) (by kernel_rfl) ?_)
local macro_rules | `(tactic| walk_at "And") => `(tactic| ((with_reducible show Frag.In _ _ ∧ _); refine ⟨Frag.In.keeps (Gd.X (by assumption)) (Fr.keep (by assumption)), ?_⟩; (try dsimp only [List.nil_append, List.cons_append])))


local macro_rules | `(tactic| news_mem) => `(tactic| first | exact .head _ | (refine .tail _ ?_; news_mem))


theorem bits_lt {x : Int} {n : Nat} (h0 : 0 ≤ x) (h : x < 2 ^ n) : Builtin.Int.intBits x ≤ n := by
  unfold Builtin.Int.intBits
  split
  · exact Nat.zero_le _
  · rename_i hx
    have hn : x.natAbs < 2 ^ n := by
      have : ((x.natAbs : Nat) : Int) < ((2 ^ n : Nat) : Int) := by
        rw [Int.natAbs_of_nonneg h0]; push_cast; exact h
      omega
    have h1 : x.natAbs ≠ 0 := by
      intro q
      exact hx (by simp at q; simp [q])
    have := (Nat.log2_lt h1).2 hn
    omega
theorem mulOk_360 {a : Int} {n : Nat} (h0 : 0 ≤ a) (h : a < 2 ^ 360) (hn : n ≤ 60) : IntMulOk a ((64 : Int) ^ n - 1) := by
  have h1 : (64 : Int) ^ n = ((64 ^ n : Nat) : Int) := by push_cast; rfl
  have h2 : 64 ^ n ≤ 64 ^ 60 := Nat.pow_le_pow_right (by decide) hn
  have h3 : (64 : Nat) ^ 60 = 2 ^ 360 := by decide +kernel
  have h4 : 0 < 64 ^ n := Nat.pow_pos (by decide)
  have h5 : ((2 ^ 360 : Nat) : Int) = (2 : Int) ^ 360 := by push_cast; rfl
  refine mulOk_of_bits (m := 360) (n := 360) (bits_lt h0 h) (bits_lt (by omega) (by rw [h1, ← h5]; omega)) (by decide)

theorem end_stmt {w : World} {s : Shared} {fa : Addr} {cd : Value} {h₁ : Heap} {tk : Nat} {m : Str → Option Value} {rest : List (Addr × Obj)} {H V U W X D : Addr} {lv : List (Str × Tok)} {ys : List Value} {q hs : List PT} {kv kw kd kh : Nat} {p3 p4 : Obj} {tx ty : Tok} {x y e0 e1 : List Nat} {r : Bool} (G : Gd w s.heap)
    (F : Fr s.heap s.heap.objs.size h₁ m) (N : News s.heap s.heap.objs.size h₁ ((s.heap.objs.size + 3, p3) :: (s.heap.objs.size + 4, p4) :: (H, lstP hs kh) :: rest)) (M : Names m H V U W X D)
    (hd3 : p3.data = .cell (some (.str (S x) tx))) (hd4 : p4.data = .cell (some (.str (S y) ty))) (hV : (V, lst lv kv) ∈ rest) (hW : (W, { cls := .type "list", data := .seq (List.toArray ys) kw }) ∈ rest) (hD : (D, lstP q kd) ∈ rest) (hTq : ∀ p ∈ q, p.ent ∈ rest) (hTh : ∀ p ∈ hs, p.ent ∈ rest)
    (hx11 : x.length ≤ 11) (hy11 : y.length ≤ 11) (hv0 : ∃ t, (strValues lv).toArray[0]? = some (.str (S e0) t)) (hv1 : ∃ t, (strValues lv).toArray[1]? = some (.str (S e1) t)) (hy0 : ∃ t, ys.toArray[0]? = some (.int (val e0 : Int) t)) (hy1 : ∃ t, ys.toArray[1]? = some (.int (val e1 : Int) t)) (he0 : e0.length ≤ 60) (he1 : e1.length ≤ 60) (hb0 : (val e0 : Int) < 2 ^ 360) (hb1 : (val e1 : Int) < 2 ^ 360) (hq9 : q.length ≤ 9) (hh9 : hs.length ≤ 9)
    (hr : decide (dotF true (fixF false (x ++ y)) = dotF true (fixF false (y ++ x))) = r) (hr2 : decide ((val e0 : Int) * ((64 : Int) ^ e1.length - 1) = (val e1 : Int) * ((64 : Int) ^ e0.length - 1)) = r)
    (ht : r = true → hs.map PT.pr = q.map PT.pr) (hf : r = false → hs.length < 2 ∧ ∀ p ∈ hs, ¬ (1 < p.a ∧ 1 < p.b)) :
    wpAny (model PP w) (callerA.deeper (lawEnv s.heap.objs.size fa cd)) (execs (lawBody.drop 17) (lawEnv s.heap.objs.size fa cd)) (fun f s' => ∃ h' tk' m', f = .ret (.bool true) ∧ s' = { s with heap := h', toks := tk' } ∧ Fr s.heap s.heap.objs.size h' m') (fun _ _ => False) { s with heap := h₁, toks := tk } := by
  refine execs_as (l' := _ :: _) rfl ?_
  obtain ⟨mh, mv, mu, mt, mw, mp⟩ := M
  have rm := callerA_room
  have ru := callerA_units
  iterate 10 walk1
  refine PyProof.Rows.add_str (fun t₂ tk₂ => ?_) (by rw [S_length, S_length, sizeLine_eq]; omega)
  rw [S_append]
  walk1
  refine ⟨G.X.keeps F.keep, ?_⟩
  refine wpAny_mono (quote_spec (G.keeps F.keep) (by show callerA.depth + 1 < _; omega) (by rw [List.length_append]; omega)) (fun v s' r₁ => ?_) (fun _ _ x => x)
  obtain ⟨⟨tr, rfl⟩, h₂, tk₃, rfl, k₂⟩ := r₁
  replace F := fr_up F k₂
  replace N := news_up N k₂
  clear k₂
  (try dsimp only at F N)
  iterate 7 walk1
  refine PyProof.Rows.add_str (fun t₂ tk₂ => ?_) (by rw [S_length, S_length, sizeLine_eq]; omega)
  rw [S_append]
  walk1
  refine ⟨G.X.keeps F.keep, ?_⟩
  refine wpAny_mono (quote_spec (G.keeps F.keep) (by show callerA.depth + 1 < _; omega) (by rw [List.length_append]; omega)) (fun v s' r₁ => ?_) (fun _ _ x => x)
  obtain ⟨⟨tr₂, rfl⟩, h₃, tk₅, rfl, k₃⟩ := r₁
  replace F := fr_up F k₃
  replace N := news_up N k₃
  clear k₃
  (try dsimp only at F N)
  refine PyProof.Rows.eq_str ?_
  rw [S_beq, hr]
  refine storeX_L F N (fun h₄ F N => ?_)
  dsimp only at F N ⊢
  iterate 9 walk1
  obtain ⟨t0, hv0⟩ := hv0
  obtain ⟨t1, hv1⟩ := hv1
  obtain ⟨u0, hy0⟩ := hy0
  obtain ⟨u1, hy1⟩ := hy1
  have fx : ∀ {h : Heap} {p3 p4 : Obj} {x : Addr × Obj}, News s.heap s.heap.objs.size h ((s.heap.objs.size + 3, p3) :: (s.heap.objs.size + 4, p4) :: (H, lstP hs kh) :: rest) → x ∈ rest → h.get? x.1 = some x.2 := fun N hx => (N _ (.tail _ (.tail _ (.tail _ hx)))).1
  have hlV : h₄.IsList V (strValues lv).toArray := ⟨_, fx N hV, rfl, _, rfl⟩
  have hlW : h₄.IsList W ys.toArray := ⟨_, fx N hW, rfl, _, rfl⟩
  refine item_list hlW (by omega) (by omega) hy0 ?_
  iterate 10 walk1
  refine item_list hlV (by omega) (by omega) hv1 ?_
  walk1
  refine PySem.P.len_str (by rw [S_length]; omega) ?_
  rw [S_length]
  refine pow_int_small (by omega) (by omega) (by decide) ?_
  rw [Int.toNat_natCast]
  iterate 2 walk1
  refine mul_int ?_ (mulOk_360 (by omega) hb0 he1)
  iterate 4 walk1
  refine item_list hlW (by omega) (by omega) hy1 ?_
  iterate 10 walk1
  refine item_list hlV (by omega) (by omega) hv0 ?_
  walk1
  refine PySem.P.len_str (by rw [S_length]; omega) ?_
  rw [S_length]
  refine pow_int_small (by omega) (by omega) (by decide) ?_
  rw [Int.toNat_natCast]
  iterate 2 walk1
  refine mul_int ?_ (mulOk_360 (by omega) hb1 he0)
  have hc : ((val e0 : Int) * ((64 : Int) ^ e1.length - 1) == (val e1 : Int) * ((64 : Int) ^ e0.length - 1)) = r := by rw [← hr2, Bool.eq_iff_iff]; simp
  walk1
  rw [hc]
  walk1
  rw [show (r != r) = false by simp]
  iterate 3 walk1
  dsimp only
  iterate 4 walk1
  refine wpAny_truthy_bool ?_
  cases r with
  | true =>
    simp only [if_true]
    iterate 5 walk1
    have hlH : h₄.IsList H (hs.map PT.val).toArray := ⟨_, (N _ (.tail _ (.tail _ (.head _)))).1, rfl, _, rfl⟩
    have hlD : h₄.IsList D (q.map PT.val).toArray := ⟨_, fx N hD, rfl, _, rfl⟩
    refine eq_pairs hlH hlD (fun p hp => fx N (hTh p hp)) (fun p hp => fx N (hTq p hp)) (by show callerA.units + 3 + 64 < cLine; omega) ?_
    rw [ht rfl, decide_eq_true rfl]
    exact ⟨_, _, _, rfl, rfl, F⟩
  | false =>
    simp only [Bool.false_eq_true, if_false]
    obtain ⟨hh2, hf⟩ := hf rfl
    iterate 11 walk1
    have hlH : h₄.IsList H (hs.map PT.val).toArray := ⟨_, (N _ (.tail _ (.tail _ (.head _)))).1, rfl, _, rfl⟩
    refine PyProof.Rows.len_list hlH (by rw [List.size_toArray, List.length_map]; omega) ?_
    rw [show ((hs.map PT.val).toArray).size = hs.length by simp]
    iterate 2 walk1
    rw [show decide ((hs.length : Int) < 2) = true by simp; omega]
    iterate 4 walk1
    refine lcG (by with_unfolding_all first | exact closureFor_none (by decide) | rfl) (by decide) (by with_unfolding_all rfl) (by decide) ?_ (by intro _; with_unfolding_all rfl)
    walk1
    refine src_filter (fun _ => false) rfl hlH (by rw [List.length_map, sizeLine_eq]; omega) (fun C => ⟨rfl, rfl⟩) ?_ ?_ ?_
    · intro C v s₅ m₅ E' hv hm F₅
      obtain ⟨p, hp, rfl⟩ := List.mem_map.mp hv
      have htp : IsTup s₅.heap p.addr #[.int (p.a : Int) p.ta, .int (p.b : Int) p.tb] := ⟨p.obj, F₅.keep _ _ (fx N (hTh p hp)), rfl, _, rfl⟩
      have hfp := hf p hp
      dsimp only at F₅ htp
      iterate 5 walk1
      refine item_tuple (j := 0) (x := .int (p.a : Int) p.ta) htp (by decide) (by decide) rfl rfl ?_
      iterate 2 walk1
      by_cases ha : 1 < p.a
      · rw [show decide ((p.a : Int) > 1) = true by simp; omega]
        have hb : ¬ 1 < p.b := fun x => hfp ⟨ha, x⟩
        iterate 7 walk1
        refine item_tuple (j := 1) (x := .int (p.b : Int) p.tb) htp (by decide) (by decide) rfl rfl ?_
        iterate 2 walk1
        rw [show decide ((p.b : Int) > 1) = false by simp; omega]
        iterate 1 walk1
        exact ⟨rfl, keeps_tk _ _⟩
      · rw [show decide ((p.a : Int) > 1) = false by simp; omega]
        iterate 2 walk1
        exact ⟨rfl, keeps_tk _ _⟩
    · intro C v s₅ m₅ E' hv hm F₅
      refine nmL F₅ hm ⟨rfl, Keeps.refl _⟩
    · intro s₅ wr₅ up hw₅ e
      refine fin_lc F N up hw₅ e fun D₅ kD₅ h' tk' F₅ N₅ => ?_
      iterate 3 walk1
      rename Fr _ _ _ _ => F₆
      rename News _ _ _ _ => N₆
      have e0 : (List.filter (fun _ => false) (hs.map PT.val)) = ([] : List PT).map PT.val := by simp
      have hD5 := News.isList N₆ (.tail _ (.head _))
      rw [e0] at hD5
      refine eq_pairs (q₁ := []) (q₂ := []) hD5 (News.isList N₆ (.head _)) (fun p hp => nomatch hp) (fun p hp => nomatch hp) (by show callerA.units + 3 + 64 < cLine; omega) ?_
      rw [decide_eq_true rfl]
      exact ⟨_, _, _, rfl, rfl, F₆⟩
end Mine
end
-- part P1
section
/-! Words: powers, commuting, primitive. -/
namespace Mine
/-- commuting words are powers of one word -/
theorem comm_pow : ∀ (n : Nat) (a b : List Nat), a.length + b.length ≤ n → a ++ b = b ++ a → ∃ z i j, a = (List.replicate i z).flatten ∧ b = (List.replicate j z).flatten
  | 0, a, b, hn, _ => by
    have ha : a = [] := List.length_eq_zero_iff.mp (by omega)
    have hb : b = [] := List.length_eq_zero_iff.mp (by omega)
    exact ⟨[], 0, 0, by simp [ha], by simp [hb]⟩
  | n + 1, a, b, hn, h => by
    by_cases ha : a = []
    · exact ⟨b, 0, 1, by simp [ha], by simp⟩
    by_cases hb : b = []
    · exact ⟨a, 1, 0, by simp, by simp [hb]⟩
    have ha' := List.length_pos_iff.mpr ha
    have hb' := List.length_pos_iff.mpr hb
    rcases Nat.le_total a.length b.length with hl | hl
    · -- b = a ++ c
      have hp : a <+: b := by
        have h1 : a <+: b ++ a := ⟨b, h⟩
        exact List.prefix_of_prefix_length_le h1 (List.prefix_append b a) hl
      obtain ⟨c, rfl⟩ := hp
      have hc : a ++ c = c ++ a := by
        rw [List.append_assoc] at h
        exact List.append_cancel_left h
      rw [List.length_append] at hn
      obtain ⟨z, i, j, h1, h2⟩ := comm_pow n a c (by omega) hc
      refine ⟨z, i, i + j, h1, ?_⟩
      rw [← List.replicate_append_replicate, List.flatten_append, ← h1, ← h2]
    · have hp : b <+: a := by
        have h1 : b <+: a ++ b := ⟨a, h.symm⟩
        exact List.prefix_of_prefix_length_le h1 (List.prefix_append a b) hl
      obtain ⟨c, rfl⟩ := hp
      have hc : c ++ b = b ++ c := by
        rw [List.append_assoc] at h
        exact List.append_cancel_left h
      rw [List.length_append] at hn
      obtain ⟨z, i, j, h1, h2⟩ := comm_pow n c b (by omega) hc
      refine ⟨z, j + i, j, ?_, h2⟩
      rw [← List.replicate_append_replicate, List.flatten_append, ← h1, ← h2]
end Mine
end
-- part P2
section
local macro_rules | `(tactic| walk_at "pad") => `(tactic| skip)
local macro_rules | `(tactic| walk_at "pad") => `(tactic| skip)
local macro_rules | `(tactic| walk_at "pad") => `(tactic| skip)
local macro_rules | `(tactic| walk_at "pad") => `(tactic| skip)
local macro_rules | `(tactic| walk_at "pad") => `(tactic| skip)
local macro_rules | `(tactic| walk_at "pad") => `(tactic| skip)
local macro_rules | `(tactic| walk_at "pad") => `(tactic| skip)
local macro_rules | `(tactic| walk_at "pad") => `(tactic| skip)
local macro_rules | `(tactic| walk_at "pad") => `(tactic| skip)
local macro_rules | `(tactic| walk_at "pad") => `(tactic| skip)
local macro_rules | `(tactic| walk_at "pad") => `(tactic| skip)
local macro_rules | `(tactic| walk_at "pad") => `(tactic| skip)
local macro_rules | `(tactic| walk_at "pad") => `(tactic| skip)
local macro_rules | `(tactic| walk_at "pad") => `(tactic| skip)
open PySem PySem.W PyProof.Rows
/-! The plain laws. -/
set_option linter.unusedSimpArgs false
set_option linter.unusedVariables false
namespace Mine

theorem slice_mid (w : List Nat) (h : 2 ≤ w.length) : Txt.slice (S w) (some 1) (some (-1)) = S (w.drop 1).dropLast := by
  have e : Txt.slice (S w) (some 1) (some (-1)) = Txt.slice (S w) (some 1) (some ((w.length : Int) - 1)) := by
    have hi : Builtin.Str.strSliceIndices (some 1) (some (-1)) 1 (S w).length = Builtin.Str.strSliceIndices (some 1) (some ((w.length : Int) - 1)) 1 (S w).length := by
      unfold Builtin.Str.strSliceIndices
      rw [S_length]
      simp only [show (1 : Int) > 0 by decide, if_true, show ((-1 : Int) < 0) = True by simp, if_true]
      rw [if_neg (show ¬ ((w.length : Int) - 1 < 0) by omega)]
      rw [show (-1 : Int) + (w.length : Int) = (w.length : Int) - 1 by omega]
    unfold Txt.slice
    rw [hi]
  rw [e]
  have h2 := eq_of_beq (slice_closes (x := S w) (i := 1) (j := (w.length : Int) - 1) ⟨by decide, by omega, by rw [S_cps]; omega⟩)
  rw [h2, S_cps]
  show S _ = S _
  congr 1
  rw [show (Int.toNat 1) = 1 from rfl, show ((w.length : Int) - 1 - 1).toNat = w.length - 2 by omega, List.dropLast_eq_take, List.length_drop]
  congr 1
theorem contains_iff (x y : List Nat) : Txt.contains (S x) (S y) = true ↔ ∃ i, i + y.length ≤ x.length ∧ (x.drop i).take y.length = y := by
  unfold Txt.contains
  rw [StrLaws.found_iff]
  constructor
  · rintro ⟨i, h1, h2⟩
    rw [S_length, S_length] at h1
    rw [StrLaws.subAt_eq, S_length, S_cps, S_cps] at h2
    exact ⟨i, h1, eq_of_beq h2⟩
  · rintro ⟨i, h1, h2⟩
    refine ⟨i, by rw [S_length, S_length]; exact h1, ?_⟩
    rw [StrLaws.subAt_eq, S_length, S_cps, S_cps, h2]; simp

def NonPrim (W : List Nat) : Prop := ∃ z j, 2 ≤ j ∧ W = rep z j

theorem rep_add (z : List Nat) (a b : Nat) : rep z (a + b) = rep z a ++ rep z b := by
  unfold rep
  rw [← List.replicate_append_replicate, List.flatten_append]
theorem rep_mul (z : List Nat) (a : Nat) : ∀ b, rep z (a * b) = rep (rep z a) b
  | 0 => by simp [rep]
  | b + 1 => by
    rw [Nat.mul_succ, rep_add, rep_mul z a b, rep_add]
    simp [rep]
theorem rep_one (z : List Nat) : rep z 1 = z := by simp [rep]
theorem rep_zero (z : List Nat) : rep z 0 = [] := by simp [rep]

theorem mid_iff (W : List Nat) (h : W ≠ []) : Txt.contains (Txt.slice (S W ++ S W) (some 1) (some (-1))) (S W) = true ↔ NonPrim W := by
  have hp := List.length_pos_iff.mpr h
  rw [S_append, slice_mid _ (by rw [List.length_append]; omega), contains_iff]
  have hl : ((W ++ W).drop 1).dropLast.length = 2 * W.length - 2 := by rw [List.length_dropLast, List.length_drop, List.length_append]; omega
  rw [hl]
  constructor
  · rintro ⟨i, h1, h2⟩
    have hi : i + 2 ≤ W.length := by omega
    -- W stands in W W at i + 1
    have h3 : ((W ++ W).drop (i + 1)).take W.length = W := by
      rw [List.dropLast_eq_take, List.drop_take, List.take_take, List.drop_drop, Nat.min_eq_left (by rw [List.length_drop, List.length_append]; omega)] at h2
      rw [Nat.add_comm i 1]; exact h2
    have h4 : (W ++ W).drop (i + 1) = W.drop (i + 1) ++ W := List.drop_append_of_le_length (by omega)
    rw [h4] at h3
    have ha : (W.take (i + 1)).length = i + 1 := by rw [List.length_take]; omega
    have hW : W = W.take (i + 1) ++ W.drop (i + 1) := (List.take_append_drop _ _).symm
    have h5 : (W.drop (i + 1) ++ W).take W.length = W.drop (i + 1) ++ W.take (i + 1) := by
      rw [List.take_append, List.take_of_length_le (by rw [List.length_drop]; omega)]
      congr 2
      rw [List.length_drop]; omega
    rw [h5] at h3
    obtain ⟨z, a, b, e1, e2⟩ := comm_pow _ (W.take (i + 1)) (W.drop (i + 1)) (Nat.le_refl _) (by rw [← hW]; exact h3.symm)
    have ha1 : a ≠ 0 := by
      rintro rfl
      rw [e1] at ha; simp at ha
    have hb1 : b ≠ 0 := by
      rintro rfl
      have : (W.drop (i + 1)).length = 0 := by rw [e2]; simp
      rw [List.length_drop] at this; omega
    refine ⟨z, a + b, by omega, ?_⟩
    rw [rep_add]
    exact hW.trans (by rw [e1, e2]; rfl)
  · rintro ⟨z, j, hj, rfl⟩
    have hz : 1 ≤ z.length := by
      rw [rep_length] at hp
      rcases Nat.eq_zero_or_pos z.length with h0 | h0
      · rw [h0] at hp; omega
      · exact h0
    rw [rep_length] at hp hl ⊢
    have hjz : 2 * z.length ≤ j * z.length := Nat.mul_le_mul_right _ hj
    refine ⟨z.length - 1, by omega, ?_⟩
    rw [List.dropLast_eq_take, List.drop_take, List.take_take, List.drop_drop, List.length_drop, List.length_append, rep_length, Nat.min_eq_left (by omega)]
    rw [show 1 + (z.length - 1) = z.length by omega]
    obtain ⟨k, rfl⟩ : ∃ k, j = k + 1 := ⟨j - 1, by omega⟩
    have e : rep z (k + 1) = z ++ rep z k := by rw [Nat.add_comm, rep_add, rep_one]
    have e' : rep z (k + 1) = rep z k ++ z := by rw [rep_add, rep_one]
    conv => lhs; rw [e, List.append_assoc, List.drop_left, ← e]
    rw [show rep z k ++ rep z (k + 1) = rep z (k + 1) ++ rep z k by rw [← rep_add, ← rep_add, Nat.add_comm]]
    exact List.take_left' (rep_length z (k + 1))
end Mine
end
-- part P3
section
open PySem PySem.W PyProof.Rows
set_option linter.unusedSimpArgs false
set_option linter.unusedVariables false
namespace Mine
theorem dotF_inj : ∀ (x y : List Nat) (b : Bool), dotF b x = dotF b y → x = y
  | [], [], _, _ => rfl
  | [], d :: t, b, h => by
    simp only [dotF] at h
    split at h <;> cases h
  | c :: r, [], b, h => by
    simp only [dotF] at h
    split at h <;> cases h
  | c :: r, d :: t, b, h => by
    simp only [dotF] at h
    by_cases hc : (b && c == 46) = true
    · have hc' : c = 46 := by simp at hc; exact hc.2
      rw [if_pos hc] at h
      by_cases hd : (b && d == 46) = true
      · have hd' : d = 46 := by simp at hd; exact hd.2
        rw [if_pos hd] at h
        injection h with _ h
        injection h with _ h
        rw [dotF_inj r t false h, hc', hd']
      · rw [if_neg hd] at h
        injection h with h1 _
        exfalso
        apply hd
        rw [← h1]
        simp at hc ⊢
        exact hc.1
    · rw [if_neg hc] at h
      by_cases hd : (b && d == 46) = true
      · rw [if_pos hd] at h
        injection h with h1 _
        exfalso
        apply hc
        rw [h1]
        simp at hd ⊢
        exact hd.1
      · rw [if_neg hd] at h
        injection h with h1 h2
        subst h1
        rw [dotF_inj r t _ h2]

theorem fix_len : ∀ l : List Nat, (l.length ≤ (fixF false l).length ∧ ((fixF false l).length = l.length → fixF false l = l)) ∧ (l.length ≤ (fixF true l).length + 1 ∧ ((fixF true l).length + 1 = l.length → 10 :: fixF true l = l))
  | [] => by simp [fixF]
  | c :: r => by
    obtain ⟨⟨h1, h2⟩, h3, h4⟩ := fix_len r
    by_cases h13 : c = 13
    · subst h13
      simp only [fixF, if_true, List.length_cons]
      refine ⟨⟨by omega, fun h => ?_⟩, by omega, fun h => by omega⟩
      rw [h4 (by omega)]
    · by_cases h10 : c = 10
      · subst h10
        simp only [fixF, h13, if_false, if_true, Bool.false_eq_true, List.length_cons]
        refine ⟨⟨by omega, fun h => by omega⟩, by omega, fun h => ?_⟩
        rw [h2 (by omega)]
      · simp only [fixF, h13, h10, if_false, List.length_cons]
        refine ⟨⟨by omega, fun h => by rw [h2 (by omega)]⟩, by omega, fun h => by omega⟩

theorem fix_phi : ∀ z : List Nat, 13 ∉ z → fixF false (phi z) = phi z
  | [], _ => rfl
  | c :: r, h => by
    have ih := fix_phi r fun e => h (.tail _ e)
    have h13 : c ≠ 13 := fun e => h (e ▸ .head _)
    simp only [phi]
    split
    · simp [fixF, ih]
    · rename_i h10
      simp [fixF, h13, h10, ih]

theorem val_inj : ∀ (x y : List Nat), x.length = y.length → (∀ c ∈ x, c < 64) → (∀ c ∈ y, c < 64) → val x = val y → x = y
  | [], [], _, _, _, _ => rfl
  | c :: r, d :: t, hl, hx, hy, h => by
    have hl' : r.length = t.length := by simpa using hl
    have h1 := val_lt (l := r) fun a ha => hx a (.tail _ ha)
    have h2 := val_lt (l := t) fun a ha => hy a (.tail _ ha)
    rw [val_cons, val_cons, hl'] at h
    rw [hl'] at h1
    have hp : 0 < 64 ^ t.length := Nat.pow_pos (by decide)
    have e1 : (c * 64 ^ t.length + val r) / 64 ^ t.length = c := by
      rw [Nat.mul_comm, Nat.mul_add_div hp, Nat.div_eq_of_lt h1]; omega
    have e2 : (d * 64 ^ t.length + val t) / 64 ^ t.length = d := by
      rw [Nat.mul_comm, Nat.mul_add_div hp, Nat.div_eq_of_lt h2]; omega
    have hcd : c = d := by rw [← e1, h, e2]
    subst hcd
    rw [val_inj r t hl' (fun a ha => hx a (.tail _ ha)) (fun a ha => hy a (.tail _ ha)) (by omega)]
theorem digits_ex : ∀ (d x : Nat), x < 64 ^ d → ∃ t : List Nat, t.length = d ∧ (∀ c ∈ t, c < 64) ∧ val t = x
  | 0, x, h => ⟨[], rfl, by simp, by have : x = 0 := by simpa using h
                                     rw [this]; rfl⟩
  | d + 1, x, h => by
    have hp : 0 < 64 ^ d := Nat.pow_pos (by decide)
    obtain ⟨t, h1, h2, h3⟩ := digits_ex d (x % 64 ^ d) (Nat.mod_lt _ hp)
    refine ⟨x / 64 ^ d :: t, by simp [h1], fun c hc => ?_, ?_⟩
    · rcases List.mem_cons.mp hc with rfl | hc
      · rw [Nat.div_lt_iff_lt_mul hp]
        rw [Nat.pow_succ] at h; rw [Nat.mul_comm]; exact h
      · exact h2 c hc
    · rw [val_cons, h1, h3, Nat.mul_comm]
      exact Nat.div_add_mod x (64 ^ d)

def geoN (d : Nat) : Nat → Nat
  | 0 => 0
  | p + 1 => geoN d p + 64 ^ (d * p)
theorem geo_eq (d : Nat) : ∀ p, (((List.range p).map fun i => (64 : Int) ^ (d * i)).sum) = (geoN d p : Int)
  | 0 => rfl
  | p + 1 => by
    rw [List.range_succ, List.map_append, List.sum_append, geo_eq d p, geoN]
    simp
theorem val_rep {t : List Nat} {d : Nat} (ht : t.length = d) : ∀ p, val (rep t p) = val t * geoN d p
  | 0 => by simp [rep_zero, geoN, val]
  | p + 1 => by
    rw [Nat.add_comm p 1, rep_add, rep_one, val_append, rep_length, val_rep ht p, ht, Nat.add_comm 1 p, geoN, Nat.mul_add, Nat.mul_comm p d]
    omega
theorem geo_sum (d : Nat) : ∀ p, geoN d p * 64 ^ d + 1 = geoN d p + 64 ^ (d * p)
  | 0 => by simp [geoN]
  | p + 1 => by
    have ih := geo_sum d p
    rw [geoN, Nat.add_mul, Nat.mul_succ, Nat.pow_add]
    omega
theorem rep_lt {t : List Nat} (h : ∀ c ∈ t, c < 64) (p : Nat) : ∀ c ∈ rep t p, c < 64 := by
  intro c hc
  unfold rep at hc
  obtain ⟨l, hl, hc⟩ := List.mem_flatten.mp hc
  rw [List.eq_of_mem_replicate hl] at hc
  exact h c hc
/-- the judge by numbers -/
theorem val_judge {E : List Nat} {d p : Nat} (hE : E.length = d * p) (hp : 1 ≤ p) (hc : ∀ c ∈ E, c < 64) : rep (E.take d) p = E ↔ val E % geoN d p = 0 := by
  have hdl : d ≤ E.length := by rw [hE]; exact Nat.le_mul_of_pos_right d (by omega)
  have htl : (E.take d).length = d := by rw [List.length_take]; omega
  constructor
  · intro h
    rw [← h, val_rep htl]
    exact Nat.mul_mod_left _ _
  · intro h
    obtain ⟨x, hx⟩ := Nat.dvd_of_mod_eq_zero h
    have h1 := val_lt hc
    rw [hE, hx] at h1
    have h2 := geo_sum d p
    have hx64 : x < 64 ^ d := by
      refine Nat.lt_of_not_le fun hge => ?_
      have h3 : geoN d p * 64 ^ d ≤ geoN d p * x := Nat.mul_le_mul_left _ hge
      have h4 : 0 < geoN d p := by
        rcases Nat.eq_zero_or_pos (geoN d p) with h0 | h0
        · exfalso
          obtain ⟨k, rfl⟩ : ∃ k, p = k + 1 := ⟨p - 1, by omega⟩
          rw [geoN] at h0
          have : 0 < 64 ^ (d * k) := Nat.pow_pos (by decide)
          omega
        · exact h0
      omega
    obtain ⟨t, ht1, ht2, ht3⟩ := digits_ex d x hx64
    have he : rep t p = E := val_inj _ _ (by rw [rep_length, ht1, hE, Nat.mul_comm]) (rep_lt ht2 p) hc (by rw [val_rep ht1, ht3, hx, Nat.mul_comm])
    have ht : E.take d = t := by
      rw [← he]
      obtain ⟨k, rfl⟩ : ∃ k, p = k + 1 := ⟨p - 1, by omega⟩
      rw [Nat.add_comm k 1, rep_add, rep_one]
      exact List.take_left' ht1
    rw [ht, he]
end Mine
end
-- part P4
section
local macro_rules | `(tactic| walk_at "pad") => `(tactic| skip)
local macro_rules | `(tactic| walk_at "pad") => `(tactic| skip)
local macro_rules | `(tactic| walk_at "pad") => `(tactic| skip)
local macro_rules | `(tactic| walk_at "pad") => `(tactic| skip)
local macro_rules | `(tactic| walk_at "pad") => `(tactic| skip)
local macro_rules | `(tactic| walk_at "pad") => `(tactic| skip)
local macro_rules | `(tactic| walk_at "pad") => `(tactic| skip)
local macro_rules | `(tactic| walk_at "pad") => `(tactic| skip)
local macro_rules | `(tactic| walk_at "pad") => `(tactic| skip)
local macro_rules | `(tactic| walk_at "pad") => `(tactic| skip)
local macro_rules | `(tactic| walk_at "pad") => `(tactic| skip)
local macro_rules | `(tactic| walk_at "pad") => `(tactic| skip)
local macro_rules | `(tactic| walk_at "pad") => `(tactic| skip)
local macro_rules | `(tactic| walk_at "pad") => `(tactic| skip)
open PySem PySem.W PyProof.Rows
set_option linter.unusedSimpArgs false
set_option linter.unusedVariables false
set_option maxRecDepth 100000
namespace Mine
/-- the law's text judge, as L11 words it -/
def alikeB (z : List Nat) (q : Nat) : Bool := decide (dotF true (fixF false (rep ((phi z).take ((phi z).length / q)) q)) = dotF true (phi z))
def reptB (z : List Nat) : Bool := (primesOf (phi z).length).any (alikeB z)

theorem primes_div : ∀ n ≤ 60, ∀ q ∈ primesOf n, n % q = 0 := by decide +kernel
theorem primes_all : ∀ n ≤ 60, ∀ j ≤ 60, 2 ≤ j → 1 ≤ n → n % j = 0 → (primesOf n).any (fun q => j % q == 0) = true := by decide +kernel
theorem primes_ge {n q : Nat} (h : q ∈ primesOf n) : 2 ≤ q := primesTo_ge h

theorem alike_iff {z : List Nat} {q : Nat} (h13 : 13 ∉ z) (hl : (phi z).length ≤ 60) (hq : q ∈ primesOf (phi z).length) : alikeB z q = true ↔ rep ((phi z).take ((phi z).length / q)) q = phi z := by
  have hd := primes_div _ hl q hq
  have hq2 := primes_ge hq
  have hlen : (rep ((phi z).take ((phi z).length / q)) q).length = (phi z).length := by
    rw [rep_length, List.length_take, Nat.min_eq_left (Nat.div_le_self _ _), Nat.mul_comm]
    exact Nat.div_mul_cancel (Nat.dvd_of_mod_eq_zero hd)
  unfold alikeB
  rw [decide_eq_true_eq]
  constructor
  · intro h
    have h1 := dotF_inj _ _ _ h
    have h2 := (fix_len (rep ((phi z).take ((phi z).length / q)) q)).1.2 (by rw [h1, hlen])
    rw [← h2, h1]
  · intro h
    rw [h, fix_phi z h13]

theorem phi_filter : ∀ z : List Nat, 13 ∉ z → (phi z).filter (· != 13) = z
  | [], _ => rfl
  | c :: r, h => by
    have ih := phi_filter r fun e => h (.tail _ e)
    have h13 : c ≠ 13 := fun e => h (e ▸ .head _)
    simp only [phi]
    split
    · rename_i h10; subst h10; simp [ih]
    · simp [h13, ih]
theorem rep_filter (p : Nat → Bool) (z : List Nat) : ∀ j, (rep z j).filter p = rep (z.filter p) j
  | 0 => by simp [rep]
  | j + 1 => by rw [rep_add, rep_add, List.filter_append, rep_filter p z j, rep_one, rep_one]
theorem phi_rep (z : List Nat) : ∀ j, phi (rep z j) = rep (phi z) j
  | 0 => by simp [rep, phi]
  | j + 1 => by rw [rep_add, rep_add, phi_append, phi_rep z j, rep_one, rep_one]
theorem phi_inj {x y : List Nat} (hx : 13 ∉ x) (hy : 13 ∉ y) (h : phi x = phi y) : x = y := by
  rw [← phi_filter x hx, ← phi_filter y hy, h]

theorem rept_iff {z : List Nat} (h13 : 13 ∉ z) (hz : z ≠ []) (hl : (phi z).length ≤ 60) : reptB z = true ↔ NonPrim z := by
  unfold reptB
  rw [List.any_eq_true]
  have hE1 : 1 ≤ (phi z).length := by
    rcases Nat.eq_zero_or_pos (phi z).length with h0 | h0
    · exact absurd (phi_eq_nil (List.length_eq_zero_iff.mp h0)) hz
    · exact h0
  constructor
  · rintro ⟨q, hq, ha⟩
    have h1 := (alike_iff h13 hl hq).mp ha
    refine ⟨((phi z).take ((phi z).length / q)).filter (· != 13), q, primes_ge hq, ?_⟩
    rw [← rep_filter, h1, phi_filter z h13]
  · rintro ⟨y, j, hj, hzy⟩
    have hE : phi z = rep (phi y) j := by rw [hzy, phi_rep]
    have hEl : (phi z).length = j * (phi y).length := by rw [hE, rep_length]
    have hj60 : j ≤ 60 := by
      have : 1 ≤ (phi y).length := by
        rcases Nat.eq_zero_or_pos (phi y).length with h0 | h0
        · rw [h0] at hEl; omega
        · exact h0
      have : j * 1 ≤ j * (phi y).length := Nat.mul_le_mul_left _ this
      omega
    have hp := primes_all _ hl j hj60 hj hE1 (by rw [hEl]; exact Nat.mul_mod_right _ _)
    obtain ⟨q, hq, hjq⟩ := List.any_eq_true.mp hp
    have hjq' : j % q = 0 := by simpa using hjq
    refine ⟨q, hq, (alike_iff h13 hl hq).mpr ?_⟩
    have hq2 := primes_ge hq
    obtain ⟨k, hk⟩ := Nat.dvd_of_mod_eq_zero hjq'
    have hE2 : phi z = rep (rep (phi y) k) q := by rw [hE, hk, Nat.mul_comm, rep_mul]
    have hlen : (phi z).length / q = (rep (phi y) k).length := by
      have h1 : (phi z).length = q * (rep (phi y) k).length := by rw [← rep_length, ← hE2]
      rw [h1, Nat.mul_div_cancel_left _ (by omega)]
    rw [hlen, hE2]
    obtain ⟨m, rfl⟩ : ∃ m, q = m + 1 := ⟨q - 1, by omega⟩
    have ht : (rep (rep (phi y) k) (m + 1)).take (rep (phi y) k).length = rep (phi y) k := by
      rw [Nat.add_comm m 1, rep_add, rep_one]
      exact List.take_left
    rw [ht]

/-- the judge by numbers, as the law asks it -/
theorem judge_eq {z : List Nat} {q : Nat} (h13 : 13 ∉ z) (hl : (phi z).length ≤ 60) (hc : ∀ c ∈ phi z, c < 64) (hq : q ∈ primesOf (phi z).length) :
    alikeB z q = decide ((val (phi z) : Int).fmod ((List.range q).map fun i => (64 : Int) ^ ((phi z).length / q * i)).sum = 0) := by
  have hd := primes_div _ hl q hq
  have hq2 := primes_ge hq
  have hE : (phi z).length = (phi z).length / q * q := (Nat.div_mul_cancel (Nat.dvd_of_mod_eq_zero hd)).symm
  rw [Bool.eq_iff_iff, alike_iff h13 hl hq, decide_eq_true_eq, geo_eq, Int.fmod_eq_emod_of_nonneg _ (by omega), val_judge hE (by omega) hc]
  rw [show ((val (phi z) : Int) % (geoN ((phi z).length / q) q : Int)) = ((val (phi z) % geoN ((phi z).length / q) q : Nat) : Int) by simp]
  exact ⟨fun h => by rw [h]; rfl, fun h => Int.ofNat.inj h⟩

theorem law_C {z : List Nat} (h13 : 13 ∉ z) (hz : z ≠ []) (hl : (phi z).length ≤ 60) : reptB z = Txt.contains (Txt.slice (S z ++ S z) (some 1) (some (-1))) (S z) := by
  rw [Bool.eq_iff_iff, rept_iff h13 hz hl, mid_iff z hz]

/-- what may change places -/
theorem change_val {a b : List Nat} (ha : ∀ c ∈ a, c < 64) (hb : ∀ c ∈ b, c < 64) : a ++ b = b ++ a ↔ (val a : Int) * ((64 : Int) ^ b.length - 1) = (val b : Int) * ((64 : Int) ^ a.length - 1) := by
  have h1 : a ++ b = b ++ a ↔ val (a ++ b) = val (b ++ a) := by
    refine ⟨fun h => by rw [h], fun h => val_inj _ _ (by simp [Nat.add_comm]) (fun c hc => ?_) (fun c hc => ?_) h⟩
    · rcases List.mem_append.mp hc with h | h
      · exact ha c h
      · exact hb c h
    · rcases List.mem_append.mp hc with h | h
      · exact hb c h
      · exact ha c h
  rw [h1, val_append, val_append, Int.mul_sub, Int.mul_sub]
  have e1 : ((val a * 64 ^ b.length : Nat) : Int) = (val a : Int) * (64 : Int) ^ b.length := by simp
  have e2 : ((val b * 64 ^ a.length : Nat) : Int) = (val b : Int) * (64 : Int) ^ a.length := by simp
  rw [← e1, ← e2]
  omega
end Mine
end
-- part P5
section
open PySem PySem.W PyProof.Rows
set_option linter.unusedSimpArgs false
set_option linter.unusedVariables false
set_option maxRecDepth 100000
namespace Mine
/-! Which joined words are repeats: letters as unknowns, classes of equal ones. -/
def idx (a b m t : Nat) : Nat := if t < m * a then t % a else a + (t - m * a) % b
def mergeC (r : List Nat) (e : Nat × Nat) : List Nat :=
  let x := r.getD e.1 0
  let y := r.getD e.2 0
  if x == y then r else r.map fun k => if k == x then y else k
def eqsOf (a b m n d : Nat) : List (Nat × Nat) := (List.range (m * a + n * b - d)).map fun t => (idx a b m t, idx a b m (t + d))
def closeC (a b m n d : Nat) : List Nat := (eqsOf a b m n d).foldl mergeC (List.range (a + b))
def commC (a b : Nat) (r : List Nat) : Bool := (List.range (a + b)).all fun t => r.getD t 0 == r.getD (if t < b then a + t else t - b) 0
def joinC (a b : Nat) (r r' : List Nat) : List Nat := ((List.range (a + b)).map fun i => (i, r'.getD i 0)).foldl mergeC r
def openC (a b : Nat) : List ((Nat × Nat) × List Nat) :=
  (prs.flatMap fun p => ((List.range (p.1 * a + p.2 * b)).filter fun d => 1 ≤ d && (p.1 * a + p.2 * b) % d == 0).map fun d => (p, closeC a b p.1 p.2 d)).filter fun x => !commC a b x.2
def checkC (a b : Nat) : Bool := (openC a b).all fun x => !(decide (1 < x.1.1) && decide (1 < x.1.2)) && (openC a b).all fun y => x.1 == y.1 || commC a b (joinC a b x.2 y.2)

def OkR (c : Nat → Nat) (n : Nat) (r : List Nat) : Prop := r.length = n ∧ ∀ i < n, r.getD i 0 < n ∧ c i = c (r.getD i 0)
theorem mergeC_ok {c : Nat → Nat} {n : Nat} {r : List Nat} {e : Nat × Nat} (h : OkR c n r) (h1 : e.1 < n) (h2 : e.2 < n) (he : c e.1 = c e.2) : OkR c n (mergeC r e) := by
  unfold mergeC
  by_cases hxy : (r.getD e.1 0 == r.getD e.2 0) = true
  · simp only [hxy, if_true]; exact h
  · simp only [hxy, Bool.false_eq_true, if_false]
    refine ⟨by rw [List.length_map]; exact h.1, fun i hi => ?_⟩
    have hg : (r.map fun k => if (k == r.getD e.1 0) = true then r.getD e.2 0 else k).getD i 0 = if (r.getD i 0 == r.getD e.1 0) = true then r.getD e.2 0 else r.getD i 0 := by
      have hir : i < r.length := by rw [h.1]; exact hi
      simp [List.getD_eq_getElem?_getD, hir]
    rw [hg]
    split
    · rename_i hk
      have hk' := eq_of_beq hk
      refine ⟨(h.2 _ h2).1, ?_⟩
      rw [(h.2 i hi).2, hk', ← (h.2 _ h1).2, he, (h.2 _ h2).2]
    · exact h.2 i hi
theorem foldC_ok {c : Nat → Nat} {n : Nat} : ∀ (es : List (Nat × Nat)) (r : List Nat), OkR c n r → (∀ e ∈ es, e.1 < n ∧ e.2 < n ∧ c e.1 = c e.2) → OkR c n (es.foldl mergeC r)
  | [], r, h, _ => h
  | e :: es, r, h, he => foldC_ok es _ (mergeC_ok h (he e (.head _)).1 (he e (.head _)).2.1 (he e (.head _)).2.2) fun x hx => he x (.tail _ hx)
theorem init_ok (c : Nat → Nat) (n : Nat) : OkR c n (List.range n) := ⟨by simp, fun i hi => by simp [List.getD_eq_getElem?_getD, hi]⟩

theorem check_all : ∀ a < 6, ∀ b < 6, 1 ≤ a → 1 ≤ b → checkC a b = true := by decide +kernel
end Mine
end
-- part P6
section
local macro_rules | `(tactic| walk_at "pad") => `(tactic| skip)
local macro_rules | `(tactic| walk_at "pad") => `(tactic| skip)
local macro_rules | `(tactic| walk_at "pad") => `(tactic| skip)
local macro_rules | `(tactic| walk_at "pad") => `(tactic| skip)
local macro_rules | `(tactic| walk_at "pad") => `(tactic| skip)
local macro_rules | `(tactic| walk_at "pad") => `(tactic| skip)
local macro_rules | `(tactic| walk_at "pad") => `(tactic| skip)
local macro_rules | `(tactic| walk_at "pad") => `(tactic| skip)
local macro_rules | `(tactic| walk_at "pad") => `(tactic| skip)
local macro_rules | `(tactic| walk_at "pad") => `(tactic| skip)
local macro_rules | `(tactic| walk_at "pad") => `(tactic| skip)
local macro_rules | `(tactic| walk_at "pad") => `(tactic| skip)
local macro_rules | `(tactic| walk_at "pad") => `(tactic| skip)
local macro_rules | `(tactic| walk_at "pad") => `(tactic| skip)
open PySem PySem.W PyProof.Rows
set_option linter.unusedSimpArgs false
set_option linter.unusedVariables false
set_option maxRecDepth 100000
namespace Mine
theorem gdl {a b : List Nat} {t : Nat} (h : t < a.length) : (a ++ b).getD t 0 = a.getD t 0 := by
  simp [List.getD_eq_getElem?_getD, List.getElem?_append_left h]
theorem gdr {a b : List Nat} {t : Nat} (h : a.length ≤ t) : (a ++ b).getD t 0 = b.getD (t - a.length) 0 := by
  simp [List.getD_eq_getElem?_getD, List.getElem?_append_right h]
theorem rep_get (z : List Nat) : ∀ (m t : Nat), t < m * z.length → (rep z m).getD t 0 = z.getD (t % z.length) 0
  | 0, t, h => by omega
  | m + 1, t, h => by
    have hz : 0 < z.length := by
      rcases Nat.eq_zero_or_pos z.length with h0 | h0
      · rw [h0] at h; omega
      · exact h0
    rw [Nat.add_comm m 1, rep_add, rep_one]
    by_cases ht : t < z.length
    · rw [gdl ht, Nat.mod_eq_of_lt ht]
    · rw [gdr (by omega), rep_get z m (t - z.length) (by rw [Nat.succ_mul] at h; omega)]
      rw [← Nat.mod_eq_sub_mod (by omega)]
def cOf (u v : List Nat) (i : Nat) : Nat := (u ++ v).getD i 0
theorem word_get {u v : List Nat} {m n t : Nat} (ht : t < m * u.length + n * v.length) (hu : 1 ≤ u.length) (hv : 1 ≤ v.length) :
    idx u.length v.length m t < u.length + v.length ∧ (wordOf u v (m, n)).getD t 0 = cOf u v (idx u.length v.length m t) := by
  unfold idx wordOf cOf
  dsimp only
  by_cases h : t < m * u.length
  · rw [if_pos h]
    have hm := Nat.mod_lt t hu
    refine ⟨by omega, ?_⟩
    rw [gdl (by rw [rep_length]; exact h), rep_get u m t h, gdl hm]
  · rw [if_neg h]
    have hm := Nat.mod_lt (t - m * u.length) hv
    refine ⟨by omega, ?_⟩
    rw [gdr (by rw [rep_length]; omega), rep_length, rep_get v n _ (by omega), gdr (by omega)]
    congr 1
    omega

theorem close_ok {u v : List Nat} {m n d : Nat} (hu : 1 ≤ u.length) (hv : 1 ≤ v.length) {z : List Nat} {j : Nat} (hd : d = z.length) (hw : wordOf u v (m, n) = rep z j) :
    OkR (cOf u v) (u.length + v.length) (closeC u.length v.length m n d) := by
  refine foldC_ok _ _ (init_ok _ _) fun e he => ?_
  unfold eqsOf at he
  obtain ⟨t, ht, rfl⟩ := List.mem_map.mp he
  have ht' : t < m * u.length + n * v.length - d := List.mem_range.mp ht
  have hl : m * u.length + n * v.length = j * z.length := by
    have := congrArg List.length hw
    rw [rep_length, wordOf, List.length_append, rep_length, rep_length] at this
    exact this
  obtain ⟨a1, a2⟩ := word_get (u := u) (v := v) (m := m) (n := n) (t := t) (by omega) hu hv
  obtain ⟨b1, b2⟩ := word_get (u := u) (v := v) (m := m) (n := n) (t := t + d) (by omega) hu hv
  refine ⟨a1, b1, ?_⟩
  show cOf u v _ = cOf u v _
  rw [← a2, ← b2, hw, rep_get z j t (by omega), rep_get z j (t + d) (by omega), hd, Nat.add_mod_right]

theorem comm_of {u v : List Nat} {r : List Nat} (hr : OkR (cOf u v) (u.length + v.length) r) (h : commC u.length v.length r = true) : u ++ v = v ++ u := by
  refine List.ext_getElem? fun t => ?_
  by_cases ht : t < u.length + v.length
  · unfold commC at h
    rw [List.all_eq_true] at h
    have h1 := eq_of_beq (h t (List.mem_range.mpr ht))
    have h2 := (hr.2 t ht).2
    have hlt : (if t < v.length then u.length + t else t - v.length) < u.length + v.length := by split <;> omega
    have h3 := (hr.2 _ hlt).2
    have h4 : cOf u v t = cOf u v (if t < v.length then u.length + t else t - v.length) := by rw [h2, h1, ← h3]
    have h5 : (v ++ u).getD t 0 = cOf u v (if t < v.length then u.length + t else t - v.length) := by
      unfold cOf
      split
      · rename_i hv
        rw [gdl hv, gdr (by omega)]
        congr 1; omega
      · rename_i hv
        rw [gdr (by omega), gdl (by omega)]
    have h6 : (u ++ v).getD t 0 = (v ++ u).getD t 0 := by rw [h5]; exact h4
    rw [List.getD_eq_getElem?_getD, List.getD_eq_getElem?_getD] at h6
    rw [List.getElem?_eq_getElem (by rw [List.length_append]; exact ht), List.getElem?_eq_getElem (by rw [List.length_append]; omega)] at h6 ⊢
    simpa using h6
  · rw [List.getElem?_eq_none (by rw [List.length_append]; omega), List.getElem?_eq_none (by rw [List.length_append]; omega)]

/-- an open class from a repeat -/
theorem open_of {u v : List Nat} {p : Nat × Nat} (hu : 1 ≤ u.length) (hv : 1 ≤ v.length) (hp : p ∈ prs) (hn : NonPrim (wordOf u v p)) (hc : u ++ v ≠ v ++ u) :
    ∃ r, (p, r) ∈ openC u.length v.length ∧ OkR (cOf u v) (u.length + v.length) r := by
  obtain ⟨z, j, hj, hw⟩ := hn
  obtain ⟨m, n⟩ := p
  have hmn := prs_mem _ hp
  dsimp only at hmn
  have hl : m * u.length + n * v.length = j * z.length := by
    have := congrArg List.length hw
    rw [rep_length, wordOf, List.length_append, rep_length, rep_length] at this
    exact this
  have hok := close_ok hu hv (m := m) (n := n) rfl hw
  refine ⟨_, ?_, hok⟩
  unfold openC
  refine List.mem_filter.mpr ⟨List.mem_flatMap.mpr ⟨(m, n), hp, List.mem_map.mpr ⟨z.length, List.mem_filter.mpr ⟨?_, ?_⟩, rfl⟩⟩, ?_⟩
  · have h1 : 1 * u.length ≤ m * u.length := Nat.mul_le_mul_right _ hmn.1
    have hz : 1 ≤ z.length := by
      rcases Nat.eq_zero_or_pos z.length with h0 | h0
      · rw [h0] at hl; omega
      · exact h0
    have h2 : 2 * z.length ≤ j * z.length := Nat.mul_le_mul_right _ hj
    exact List.mem_range.mpr (by dsimp only; omega)
  · have h1 : 1 * u.length ≤ m * u.length := Nat.mul_le_mul_right _ hmn.1
    have hz : 1 ≤ z.length := by
      rcases Nat.eq_zero_or_pos z.length with h0 | h0
      · rw [h0] at hl; omega
      · exact h0
    dsimp only
    rw [hl, Nat.mul_mod_left]
    simp; omega
  · dsimp only
    cases h : commC u.length v.length (closeC u.length v.length m n z.length) with
    | false => rfl
    | true => exact absurd (comm_of hok h) hc

theorem join_ok {u v : List Nat} {r r' : List Nat} (h : OkR (cOf u v) (u.length + v.length) r) (h' : OkR (cOf u v) (u.length + v.length) r') : OkR (cOf u v) (u.length + v.length) (joinC u.length v.length r r') := by
  refine foldC_ok _ _ h fun e he => ?_
  obtain ⟨i, hi, rfl⟩ := List.mem_map.mp he
  have hi' := List.mem_range.mp hi
  exact ⟨hi', (h'.2 i hi').1, (h'.2 i hi').2⟩

/-- Lyndon and Schuetzenberger, Lentin and Schuetzenberger, for words of at most five signs -/
theorem one_repeat {u v : List Nat} (hu : u ≠ []) (hv : v ≠ []) (hu5 : u.length ≤ 5) (hv5 : v.length ≤ 5) (hc : u ++ v ≠ v ++ u) {p : Nat × Nat} (hp : p ∈ prs) (hn : NonPrim (wordOf u v p)) :
    ¬ (1 < p.1 ∧ 1 < p.2) ∧ ∀ p' ∈ prs, NonPrim (wordOf u v p') → p = p' := by
  have hu1 := List.length_pos_iff.mpr hu
  have hv1 := List.length_pos_iff.mpr hv
  have hk := check_all u.length (by omega) v.length (by omega) hu1 hv1
  obtain ⟨r, hr1, hr2⟩ := open_of hu1 hv1 hp hn hc
  unfold checkC at hk
  have h1 := List.all_eq_true.mp hk _ hr1
  rw [Bool.and_eq_true] at h1
  refine ⟨fun ⟨a, b⟩ => ?_, fun p' hp' hn' => ?_⟩
  · have := h1.1
    simp [a, b] at this
  · obtain ⟨r', hr1', hr2'⟩ := open_of hu1 hv1 hp' hn' hc
    have h2 := List.all_eq_true.mp h1.2 _ hr1'
    rw [Bool.or_eq_true] at h2
    rcases h2 with h2 | h2
    · exact eq_of_beq h2
    · exact absurd (comm_of (join_ok hr2 hr2') h2) hc
end Mine
end
-- part P7
section
open PySem PySem.W PyProof.Rows
set_option linter.unusedSimpArgs false
set_option linter.unusedVariables false
set_option maxRecDepth 100000
namespace Mine
def NB (x y : List Nat) : Prop := x.head? ≠ some 10 ∧ y.head? ≠ some 10
def PT2 (x y l : List Nat) : Prop := (endCR false l = true → NB x y) ∧ (NB x y → l.head? ≠ some 10)
theorem PT2.nil (x y : List Nat) : PT2 x y [] := ⟨by simp [endCR], by simp⟩
theorem endCR_ne {b : List Nat} (h : b ≠ []) (c : Bool) : endCR c b = endCR false b := by
  cases b with
  | nil => exact absurd rfl h
  | cons a r => rfl
theorem PT2.app {x y a b : List Nat} (ha : PT2 x y a) (hb : PT2 x y b) : PT2 x y (a ++ b) ∧ fixF false (a ++ b) = fixF false a ++ fixF false b := by
  refine ⟨⟨fun h => ?_, fun h => ?_⟩, ?_⟩
  · rw [endCR_append] at h
    by_cases hn : b = []
    · subst hn; exact ha.1 h
    · rw [endCR_ne hn] at h; exact hb.1 h
  · cases a with
    | nil => exact hb.2 h
    | cons c r => have := ha.2 h; simpa using this
  · rw [fixF_append]
    cases he : endCR false a with
    | false => rfl
    | true => rw [fixF_head (hb.2 (ha.1 he))]
theorem PT2.rep {x y a : List Nat} (ha : PT2 x y a) : ∀ m, PT2 x y (Mine.rep a m) ∧ fixF false (Mine.rep a m) = Mine.rep (fixF false a) m
  | 0 => ⟨by rw [rep_zero]; exact PT2.nil x y, by rw [rep_zero, rep_zero]; rfl⟩
  | m + 1 => by
    obtain ⟨h1, h2⟩ := PT2.rep ha m
    rw [Nat.add_comm m 1, rep_add, rep_one]
    obtain ⟨h3, h4⟩ := PT2.app ha h1
    refine ⟨h3, ?_⟩
    rw [h4, h2, rep_add, rep_one]

section
variable {u v x y : List Nat} (hx : fixF false x = phi u) (hy : fixF false y = phi v) (hok : Okx x y)
include hok in
theorem okx_x : PT2 x y x := ⟨fun h => hok (.inl h), fun h => h.1⟩
include hok in
theorem okx_y : PT2 x y y := ⟨fun h => hok (.inr h), fun h => h.2⟩
include hx hy hok in
theorem fix_word (p : Nat × Nat) : fixF false (wordOf x y p) = phi (wordOf u v p) := by
  unfold wordOf
  obtain ⟨a1, a2⟩ := PT2.rep (okx_x hok) p.1
  obtain ⟨b1, b2⟩ := PT2.rep (okx_y hok) p.2
  rw [(PT2.app a1 b1).2, a2, b2, hx, hy, phi_append, phi_rep, phi_rep]
include hx hy hok in
theorem fix_words : (wordsOf x y).map (fixF false) = (wordsOf u v).map phi := by
  unfold wordsOf
  simp only [List.map_cons, List.map_map, hx, hy]
  congr 2
  exact List.map_congr_left fun p _ => fix_word hx hy hok p
include hx hy hok in
theorem fix_xy : fixF false (x ++ y) = phi (u ++ v) ∧ fixF false (y ++ x) = phi (v ++ u) := by
  rw [(PT2.app (okx_x hok) (okx_y hok)).2, (PT2.app (okx_y hok) (okx_x hok)).2, hx, hy, phi_append, phi_append]
  exact ⟨rfl, rfl⟩
end

theorem phi_len : ∀ z : List Nat, (phi z).length ≤ 2 * z.length ∧ z.length ≤ (phi z).length
  | [] => by simp [phi]
  | c :: r => by
    have ih := phi_len r
    simp only [phi]
    split <;> simp <;> omega

section
variable {u v : List Nat} (hu : u ≠ []) (hv : v ≠ []) (hu5 : u.length ≤ 5) (hv5 : v.length ≤ 5) (huc : ∀ c ∈ u, c < 64 ∧ c ≠ 13) (hvc : ∀ c ∈ v, c < 64 ∧ c ≠ 13)
theorem rep_mem {z : List Nat} {m c : Nat} (h : c ∈ rep z m) : c ∈ z := by
  unfold rep at h
  obtain ⟨l, hl, hc⟩ := List.mem_flatten.mp h
  rwa [List.eq_of_mem_replicate hl] at hc
include hu hv hu5 hv5 huc hvc in
theorem word_ok : ∀ z ∈ wordsOf u v, z ≠ [] ∧ z.length ≤ 30 ∧ ∀ c ∈ z, c < 64 ∧ c ≠ 13 := by
  intro z hz
  unfold wordsOf at hz
  rcases List.mem_cons.mp hz with rfl | hz
  · exact ⟨hu, by omega, huc⟩
  · rcases List.mem_cons.mp hz with rfl | hz
    · exact ⟨hv, by omega, hvc⟩
    · obtain ⟨p, hp, rfl⟩ := List.mem_map.mp hz
      have hb := prs_mem p hp
      have h1 : p.1 * u.length ≤ 3 * 5 := Nat.mul_le_mul hb.2.1 hu5
      have h2 : p.2 * v.length ≤ 3 * 5 := Nat.mul_le_mul hb.2.2.2 hv5
      have h3 : 1 * u.length ≤ p.1 * u.length := Nat.mul_le_mul_right _ hb.1
      have hu1 := List.length_pos_iff.mpr hu
      refine ⟨fun h => ?_, ?_, fun c hc => ?_⟩
      · have := congrArg List.length h
        unfold wordOf at this
        rw [List.length_append, rep_length, rep_length, List.length_nil] at this
        omega
      · unfold wordOf
        rw [List.length_append, rep_length, rep_length]; omega
      · unfold wordOf at hc
        rcases List.mem_append.mp hc with hc | hc
        · exact huc c (rep_mem hc)
        · exact hvc c (rep_mem hc)
end
theorem wordsOf_length (u v : List Nat) : (wordsOf u v).length = 11 := by simp [wordsOf, prs]
theorem wordsOf_get {u v : List Nat} {i : Nat} (hi : i < 9) : (wordsOf u v).getD (i + 2) [] = wordOf u v (prs.getD i (0, 0)) := by
  have : i < prs.length := by simpa [prs] using hi
  simp [wordsOf, List.getD_eq_getElem?_getD, this]

/-- the hits -/
theorem hits_pr {u v : List Nat} (f : List Nat → Bool) (q : List PT) (hq : q.map PT.pr = prs) :
    ((List.range 9).filterMap fun i => if f ((wordsOf u v).getD (i + 2) []) = true then q[i]? else none).map PT.pr = prs.filter fun p => f (wordOf u v p) := by
  have hl : q.length = 9 := by have := congrArg List.length hq; simpa [prs] using this
  have key : ∀ k ≤ 9, ((List.range k).filterMap fun i => if f ((wordsOf u v).getD (i + 2) []) = true then q[i]? else none).map PT.pr = (prs.take k).filter fun p => f (wordOf u v p) := by
    intro k
    induction k with
    | zero => intro _; rfl
    | succ k ih =>
      intro hk
      have hqk : q[k]? = some q[k] := List.getElem?_eq_getElem (by omega)
      have hpk : prs[k]? = some q[k].pr := by rw [← hq, List.getElem?_map, hqk]; rfl
      have hg : prs.getD k (0, 0) = q[k].pr := by rw [List.getD_eq_getElem?_getD, hpk]; rfl
      rw [List.range_succ, List.filterMap_append, List.map_append, ih (by omega), List.take_add_one, hpk, List.filter_append]
      congr 1
      simp only [List.filterMap_cons, List.filterMap_nil, wordsOf_get (u := u) (v := v) (show k < 9 by omega), hg]
      by_cases hf : f (wordOf u v q[k].pr) = true
      · simp [hf, hqk]
      · simp [hf]
  have := key 9 (Nat.le_refl _)
  rwa [List.take_of_length_le (by simp [prs])] at this
end Mine
end
-- part P8
section
local macro_rules | `(tactic| walk_at "pad") => `(tactic| skip)
local macro_rules | `(tactic| walk_at "pad") => `(tactic| skip)
local macro_rules | `(tactic| walk_at "pad") => `(tactic| skip)
local macro_rules | `(tactic| walk_at "pad") => `(tactic| skip)
local macro_rules | `(tactic| walk_at "pad") => `(tactic| skip)
local macro_rules | `(tactic| walk_at "pad") => `(tactic| skip)
local macro_rules | `(tactic| walk_at "pad") => `(tactic| skip)
local macro_rules | `(tactic| walk_at "pad") => `(tactic| skip)
local macro_rules | `(tactic| walk_at "pad") => `(tactic| skip)
local macro_rules | `(tactic| walk_at "pad") => `(tactic| skip)
local macro_rules | `(tactic| walk_at "pad") => `(tactic| skip)
local macro_rules | `(tactic| walk_at "pad") => `(tactic| skip)
local macro_rules | `(tactic| walk_at "pad") => `(tactic| skip)
local macro_rules | `(tactic| walk_at "pad") => `(tactic| skip)
open PySem PySem.W PyProof.Rows
set_option Elab.async false
set_option maxRecDepth 100000
set_option linter.unusedVariables false
/-! The judges of the law, joined. -/
namespace Mine
section
variable {u v x y : List Nat} (hu : u ≠ []) (hv : v ≠ []) (hu5 : u.length ≤ 5) (hv5 : v.length ≤ 5) (huc : ∀ c ∈ u, c < 64 ∧ c ≠ 13) (hvc : ∀ c ∈ v, c < 64 ∧ c ≠ 13)
structure WordFacts (z : List Nat) : Prop where
  ne : z ≠ []
  len : z.length ≤ 30
  lt : ∀ c ∈ z, c < 64
  cr : 13 ∉ z
  plen : (phi z).length ≤ 60
  pne : 1 ≤ (phi z).length
  plt : ∀ c ∈ phi z, c < 64
include hu hv hu5 hv5 huc hvc in
theorem word_facts : ∀ z ∈ wordsOf u v, WordFacts z := by
  intro z hz
  obtain ⟨h1, h2, h3⟩ := word_ok hu hv hu5 hv5 huc hvc z hz
  have h4 := phi_len z
  have h5 := List.length_pos_iff.mpr h1
  exact ⟨h1, h2, fun c hc => (h3 c hc).1, fun hc => (h3 13 hc).2 rfl, by omega, by omega, phi_lt fun c hc => (h3 c hc).1⟩
theorem judge_B {z : List Nat} (h : WordFacts z) : ∀ p ∈ primesOf (phi z).length, aliked z p = decide ((val (phi z) : Int).fmod (geo ((phi z).length / p) p) = 0) :=
  fun p hp => judge_eq h.cr h.plen h.plt hp
theorem judge_C {z : List Nat} (h : WordFacts z) : rept z = Txt.contains (Txt.slice (S z ++ S z) (some 1) (some (-1))) (S z) := law_C h.cr h.ne h.plen
theorem rept_np {z : List Nat} (h : WordFacts z) : rept z = true ↔ NonPrim z := rept_iff h.cr h.ne h.plen
include huc hvc in
theorem cr_app : 13 ∉ u ++ v ∧ 13 ∉ v ++ u := by
  refine ⟨fun h => ?_, fun h => ?_⟩ <;> rcases List.mem_append.mp h with h | h
  · exact (huc 13 h).2 rfl
  · exact (hvc 13 h).2 rfl
  · exact (hvc 13 h).2 rfl
  · exact (huc 13 h).2 rfl
include huc hvc in
theorem judge_r (hx : fixF false x = phi u) (hy : fixF false y = phi v) (hok : Okx x y) : decide (dotF true (fixF false (x ++ y)) = dotF true (fixF false (y ++ x))) = decide (u ++ v = v ++ u) := by
  rw [(fix_xy hx hy hok).1, (fix_xy hx hy hok).2]
  have h := cr_app huc hvc
  rw [Bool.eq_iff_iff, decide_eq_true_eq, decide_eq_true_eq]
  exact ⟨fun e => phi_inj h.1 h.2 (dotF_inj _ _ _ e), fun e => by rw [e]⟩
include huc hvc in
theorem judge_r2 : decide ((val (phi u) : Int) * ((64 : Int) ^ (phi v).length - 1) = (val (phi v) : Int) * ((64 : Int) ^ (phi u).length - 1)) = decide (u ++ v = v ++ u) := by
  have h := cr_app huc hvc
  rw [Bool.eq_iff_iff, decide_eq_true_eq, decide_eq_true_eq, ← change_val (phi_lt fun c hc => (huc c hc).1) (phi_lt fun c hc => (hvc c hc).1), ← phi_append, ← phi_append]
  exact ⟨fun e => phi_inj h.1 h.2 e, fun e => by rw [e]⟩
theorem wordOf_mem {p : Nat × Nat} (hp : p ∈ prs) : wordOf u v p ∈ wordsOf u v := by
  unfold wordsOf
  exact .tail _ (.tail _ (List.mem_map_of_mem hp))
theorem prs_nodup : prs.Nodup := by decide
include hu hv hu5 hv5 huc hvc in
theorem all_repeat (h : u ++ v = v ++ u) : ∀ p ∈ prs, rept (wordOf u v p) = true := by
  intro p hp
  rw [rept_np (word_facts hu hv hu5 hv5 huc hvc _ (wordOf_mem hp))]
  obtain ⟨z, i, j, h1, h2⟩ := comm_pow _ u v (Nat.le_refl _) h
  have hb := prs_mem p hp
  have hi : 1 ≤ i := by
    rcases Nat.eq_zero_or_pos i with h0 | h0
    · rw [h0] at h1; exact absurd h1 (by simpa using hu)
    · exact h0
  have hj : 1 ≤ j := by
    rcases Nat.eq_zero_or_pos j with h0 | h0
    · rw [h0] at h2; exact absurd h2 (by simpa using hv)
    · exact h0
  have e1 : u = rep z i := h1
  have e2 : v = rep z j := h2
  refine ⟨z, i * p.1 + j * p.2, ?_, ?_⟩
  · have a1 : 1 * 1 ≤ i * p.1 := Nat.mul_le_mul hi hb.1
    have a2 : 1 * 1 ≤ j * p.2 := Nat.mul_le_mul hj hb.2.2.1
    omega
  · unfold wordOf
    rw [e1, e2, rep_add, rep_mul, rep_mul]
include hu hv hu5 hv5 huc hvc in
theorem hits_true {q : List PT} (hq : q.map PT.pr = prs) (h : u ++ v = v ++ u) :
    ((List.range 9).filterMap fun i => if rept ((wordsOf u v).getD (i + 2) []) = true then q[i]? else none).map PT.pr = q.map PT.pr := by
  rw [hits_pr rept q hq, hq]
  exact List.filter_eq_self.mpr (all_repeat hu hv hu5 hv5 huc hvc h)
include hu hv hu5 hv5 huc hvc in
theorem hits_false {q : List PT} (hq : q.map PT.pr = prs) (h : u ++ v ≠ v ++ u) (hs : List PT)
    (hhs : hs = (List.range 9).filterMap fun i => if rept ((wordsOf u v).getD (i + 2) []) = true then q[i]? else none) :
    hs.length < 2 ∧ ∀ p ∈ hs, ¬ (1 < p.a ∧ 1 < p.b) := by
  have hp := hits_pr (u := u) (v := v) rept q hq
  rw [← hhs] at hp
  have one : ∀ p ∈ hs.map PT.pr, ¬ (1 < p.1 ∧ 1 < p.2) ∧ ∀ p' ∈ hs.map PT.pr, p = p' := by
    intro p hpm
    rw [hp] at hpm ⊢
    obtain ⟨h1, h2⟩ := List.mem_filter.mp hpm
    have n1 := (rept_np (word_facts hu hv hu5 hv5 huc hvc _ (wordOf_mem h1))).mp h2
    obtain ⟨a, b⟩ := one_repeat hu hv hu5 hv5 h h1 n1
    refine ⟨a, fun p' hp' => ?_⟩
    obtain ⟨h1', h2'⟩ := List.mem_filter.mp hp'
    exact b p' h1' ((rept_np (word_facts hu hv hu5 hv5 huc hvc _ (wordOf_mem h1'))).mp h2')
  refine ⟨?_, fun p hpm => (one p.pr (List.mem_map_of_mem hpm)).1⟩
  have hn : (hs.map PT.pr).Nodup := by rw [hp]; exact prs_nodup.filter _
  match hs, hn, one with
  | [], _, _ => simp
  | [_], _, _ => simp
  | a :: b :: r, hn, one =>
    have e := (one a.pr (.head _)).2 b.pr (.tail _ (.head _))
    simp only [List.map_cons, List.nodup_cons] at hn
    exact absurd (by rw [e]; exact .head _) hn.1
end
end Mine
end
-- part L13
section
open PySem PySem.W PyProof.Rows
set_option Elab.async false
set_option maxRecDepth 100000
set_option maxHeartbeats 4000000
set_option pp.deepTerms false
set_option pp.deepTerms.threshold 5
set_option pp.maxSteps 20000
set_option linter.unusedSimpArgs false
set_option linter.unusedVariables false
namespace Mine
local macro_rules | `(tactic| walk_at "eval Name") => `(tactic| first
  | refine nmL (by assumption) (by first | rfl | assumption) ?_
  | refine nmC2 rfl (by assumption) (by news_mem) (by assumption) ?_
  | refine nmC3 rfl (by assumption) ?_
  | refine nmG (by assumption) (by assumption) (by first | exact gl_twin_re_1 _ | exact gl_twin_re_2 _ | exact gl_CRLF _ | exact gl_quotedata _ | exact gl_fix_eols _ | exact gl_parse_varint _ | exact gl_law_numbers _ | exact gl_law_word _ | exact gl_law_spelled _ | exact gl_law_mails _ | exact gl_law_sent _ | exact gl_law_octets _ | exact gl_law_value _ | exact gl_law_primes _) ?_
  | refine nmB (by assumption) (by assumption) (by first | exact gb_next _ | exact gb_enumerate _ | exact gb_chr _ | exact gb_ord _ | exact gb_len _ | exact gb_sum _ | exact gb_range _ | exact gb_iter _ | exact gb_StopIteration _) (by boot_fast) ?_)
local macro_rules | `(tactic| walk_at "storeName") => `(tactic| (refine storeX_L (by assumption) (by assumption) ?_; intro h' F' N'; dsimp only at F' N' ⊢))

local macro_rules | `(tactic| walk_at "loadName") => `(tactic| refine wpAny_loadName_local rfl rfl (Fr.ns (by assumption)) (by first | rfl | assumption) ?_)
local macro_rules | `(tactic| walk_at "callWith ref") => `(tactic| refine callWith_K (Gd.X (by assumption)) (by kernel_rfl) ?_)
local macro_rules | `(tactic| walk_at "And") => `(tactic| ((with_reducible show Frag.In _ _ ∧ _); refine ⟨Frag.In.keeps (Gd.X (by assumption)) (Fr.keep (by assumption)), ?_⟩; (try dsimp only [List.nil_append, List.cons_append])))


local macro_rules | `(tactic| news_mem) => `(tactic| first | exact .head _ | (refine .tail _ ?_; news_mem))


theorem ne_data {h₀ h : Heap} {L c : Addr} {news : List (Addr × Obj)} {o : Obj} {p : Addr × Obj} (N : News h₀ L h news) (hc : (c, o) ∈ news) (hp : p ∈ news) (h2 : p.2.data ≠ o.data) : p.1 ≠ c := by
  rintro q
  have h1 := (N _ hc).1
  have h3 := (N _ hp).1
  dsimp only at h1
  rw [q, h1] at h3
  exact h2 (by rw [← Option.some.inj h3])
theorem ints_get {ys : List Value} {ns : List Int} (h : IntsAre ys ns) {i : Nat} {n : Int} (hn : ns[i]? = some n) : ∃ t, ys.toArray[i]? = some (.int n t) := by
  have hl := IntsAre.length h
  have hi : i < ns.length := (List.getElem?_eq_some_iff.mp hn).1
  have hi2 : i < ys.length := by omega
  obtain ⟨k, t, h1, h2⟩ := IntsAre.at h i _ (List.getElem?_eq_getElem hi2)
  rw [hn] at h2
  refine ⟨t, ?_⟩
  rw [List.getElem?_toArray, List.getElem?_eq_getElem hi2, h1, Option.some.inj h2]
theorem words_len {x y : List Nat} (hx : x.length ≤ 11) (hy : y.length ≤ 11) : ∀ z ∈ wordsOf x y, z.length ≤ 500 := by
  intro z hz
  unfold wordsOf at hz
  rcases List.mem_cons.mp hz with rfl | hz
  · omega
  · rcases List.mem_cons.mp hz with rfl | hz
    · omega
    · obtain ⟨p, hp, rfl⟩ := List.mem_map.mp hz
      have hb := prs_mem p hp
      have h1 : p.1 * x.length ≤ 3 * 11 := Nat.mul_le_mul hb.2.1 hx
      have h2 : p.2 * y.length ≤ 3 * 11 := Nat.mul_le_mul hb.2.2.2 hy
      unfold wordOf
      rw [List.length_append, rep_length, rep_length]; omega
theorem posOf_all (es : List (List Nat)) : posOf es es.length = ((es.map octs).flatten).length := by
  unfold posOf
  rw [List.take_length, List.length_flatten, List.map_map]
  congr 1
  exact List.map_congr_left fun z _ => (octs_length z).symm
theorem val_360 {e : List Nat} (h : ∀ c ∈ e, c < 64) (hl : e.length ≤ 60) : (val e : Int) < 2 ^ 360 := by
  have h1 := val_lt h
  have h2 : 64 ^ e.length ≤ 64 ^ 60 := Nat.pow_le_pow_right (by decide) hl
  have h3 : (64 : Nat) ^ 60 = 2 ^ 360 := by decide +kernel
  have h5 : ((2 ^ 360 : Nat) : Int) = (2 : Int) ^ 360 := by push_cast; rfl
  rw [← h5]; omega

theorem hits_stmt {w : World} {s : Shared} {fa : Addr} {cd : Value} {h₁ : Heap} {tk : Nat} {m : Str → Option Value} {news : List (Addr × Obj)} {E : Value → Shared → Prop} {Q : Flow → Shared → Prop}
    (F : Fr s.heap s.heap.objs.size h₁ m) (N : News s.heap s.heap.objs.size h₁ news)
    (hQ : ∀ h' tk' H, (∀ p ∈ news, p.1 ≠ H) → Fr s.heap s.heap.objs.size h' (fun z => if z = "hits" then some (.ref H) else m z) → News s.heap s.heap.objs.size h' ((H, lstP [] 0) :: news) →
      wpAny (model PP w) (callerA.deeper (lawEnv s.heap.objs.size fa cd)) (execs (lawBody.drop 16) (lawEnv s.heap.objs.size fa cd)) Q E { s with heap := h', toks := tk' }) :
    wpAny (model PP w) (callerA.deeper (lawEnv s.heap.objs.size fa cd)) (execs (lawBody.drop 15) (lawEnv s.heap.objs.size fa cd)) Q E { s with heap := h₁, toks := tk } := by
  refine execs_as (l' := _ :: _) rfl ?_
  have hH : ∀ p ∈ news, p.1 ≠ h₁.objs.size := not_in_fp (a := (0 : Nat)) N (by cases q : h₁.get? h₁.objs.size with | none => rfl | some o => exact absurd (Heap.lt_size q) (Nat.lt_irrefl _))
  iterate 6 walk1
  rename Fr _ _ _ _ => F₂
  rename News _ _ _ _ => N₂
  exact hQ _ _ _ hH F₂ N₂
end Mine
end
-- part L14
section
local macro_rules | `(tactic| walk_at "pad") => `(tactic| skip)
local macro_rules | `(tactic| walk_at "pad") => `(tactic| skip)
local macro_rules | `(tactic| walk_at "pad") => `(tactic| skip)
local macro_rules | `(tactic| walk_at "pad") => `(tactic| skip)
local macro_rules | `(tactic| walk_at "pad") => `(tactic| skip)
local macro_rules | `(tactic| walk_at "pad") => `(tactic| skip)
local macro_rules | `(tactic| walk_at "pad") => `(tactic| skip)
local macro_rules | `(tactic| walk_at "pad") => `(tactic| skip)
local macro_rules | `(tactic| walk_at "pad") => `(tactic| skip)
local macro_rules | `(tactic| walk_at "pad") => `(tactic| skip)
local macro_rules | `(tactic| walk_at "pad") => `(tactic| skip)
local macro_rules | `(tactic| walk_at "pad") => `(tactic| skip)
local macro_rules | `(tactic| walk_at "pad") => `(tactic| skip)
local macro_rules | `(tactic| walk_at "pad") => `(tactic| skip)
open PySem PySem.W PyProof.Rows
set_option Elab.async false
set_option maxRecDepth 100000
set_option maxHeartbeats 4000000
set_option pp.deepTerms false
set_option pp.deepTerms.threshold 5
set_option pp.maxSteps 20000
set_option linter.unusedSimpArgs false
set_option linter.unusedVariables false
namespace Mine
local macro_rules | `(tactic| walk_at "eval Name") => `(tactic| first
  | refine nmL (by assumption) (by first | rfl | assumption) ?_
  | refine nmC2 rfl (by assumption) (by news_mem) (by assumption) ?_
  | refine nmC3 rfl (by assumption) ?_
  | refine nmG (by assumption) (by assumption) (by first | exact gl_twin_re_1 _ | exact gl_twin_re_2 _ | exact gl_CRLF _ | exact gl_quotedata _ | exact gl_fix_eols _ | exact gl_parse_varint _ | exact gl_law_numbers _ | exact gl_law_word _ | exact gl_law_spelled _ | exact gl_law_mails _ | exact gl_law_sent _ | exact gl_law_octets _ | exact gl_law_value _ | exact gl_law_primes _) ?_
  | refine nmB (by assumption) (by assumption) (by first | exact gb_next _ | exact gb_enumerate _ | exact gb_chr _ | exact gb_ord _ | exact gb_len _ | exact gb_sum _ | exact gb_range _ | exact gb_iter _ | exact gb_StopIteration _) (by boot_fast) ?_)
local macro_rules | `(tactic| walk_at "storeName") => `(tactic| (refine storeX_L (by assumption) (by assumption) ?_; intro h' F' N'; dsimp only at F' N' ⊢))

local macro_rules | `(tactic| walk_at "loadName") => `(tactic| refine wpAny_loadName_local rfl rfl (Fr.ns (by assumption)) (by first | rfl | assumption) ?_)
local macro_rules | `(tactic| walk_at "callWith ref") => `(tactic| refine callWith_K (Gd.X (by assumption)) (by kernel_rfl) ?_)
local macro_rules | `(tactic| walk_at "And") => `(tactic| ((with_reducible show Frag.In _ _ ∧ _); refine ⟨Frag.In.keeps (Gd.X (by assumption)) (Fr.keep (by assumption)), ?_⟩; (try dsimp only [List.nil_append, List.cons_append])))


local macro_rules | `(tactic| news_mem) => `(tactic| first | exact .head _ | (refine .tail _ ?_; news_mem))


theorem law_spine {w : World} {s : Shared} {fa a : Addr} {cd : Value} {h₁ : Heap} {tk : Nat} {m : Str → Option Value} {o1 o2 o3 o4 o5 o6 o7 : Obj} {vs : List Value} {ns : List Int} (G : Gd w s.heap) (K : Below callerA s.heap [] s.heap)
    (F : Fr s.heap s.heap.objs.size h₁ m) (N : News s.heap s.heap.objs.size h₁ [(s.heap.objs.size + 7, o7), (s.heap.objs.size + 6, o6), (s.heap.objs.size + 5, o5), (s.heap.objs.size + 4, o4), (s.heap.objs.size + 3, o3), (s.heap.objs.size + 2, o2), (s.heap.objs.size + 1, o1)])
    (d1 : o1.data = .cell none) (d2 : o2.data = .cell none) (d3 : o3.data = .cell none) (d4 : o4.data = .cell none) (d5 : o5.data = .cell none) (d6 : o6.data = .cell none) (d7 : o7.data = .cell none)
    (hm : m "script" = some (.ref a)) (hl : s.heap.IsList a vs.toArray) (hi : IntsAre vs ns) (hn : ns.length ≤ 63) :
    wpAny (model PP w) (callerA.deeper (lawEnv s.heap.objs.size fa cd)) (execs lawBody (lawEnv s.heap.objs.size fa cd)) (fun f s' => ∃ h' tk' m', f = .ret (.bool true) ∧ s' = { s with heap := h', toks := tk' } ∧ Fr s.heap s.heap.objs.size h' m') (fun _ _ => False) { s with heap := h₁, toks := tk } := by
  refine segA G F N d1 d2 d3 d4 d5 d6 d7 hm hl hi hn ?_
  clear F N d1 d2 d3 d4 hm hl hi hn
  intro h₂ tk₂ m₂ p1 p2 p3 p4 u v x y tu tv tx ty F N d1 d2 d3 d4 hu hv hu5 hv5 huc hvc hfx hfy hx11 hy11 hok htk
  have WF := word_facts hu hv hu5 hv5 huc hvc
  have wl := words_len hx11 hy11
  have w11 : (wordsOf u v).length = 11 := wordsOf_length u v
  have x11 : (wordsOf x y).length = 11 := wordsOf_length x y
  have uIn : u ∈ wordsOf u v := .head _
  have vIn : v ∈ wordsOf u v := .tail _ (.head _)
  refine pairs_stmt G htk F N ?_
  clear F N htk
  intro h₃ tk₃ D kD q hq F N htk
  have hq9 : q.length = 9 := by have := congrArg List.length hq; simpa [prs] using this
  refine words_stmt (news := []) [] G htk F (p1 := p1) (p2 := p2) (p3 := p3) (p4 := p4) (o5 := o5) (o6 := o6) (o7 := o7) (D := D) (k := kD) (q := q) (fun p hp => N p ?_) d1 d2 rfl hq (by omega) (by omega) ?_
  · rcases List.mem_append.mp hp with hp | hp
    · exact .tail _ (List.mem_append_right _ hp)
    · rcases List.mem_cons.mp hp with rfl | hp
      · exact .head _
      · exact .tail _ (List.mem_append_left _ (by rwa [List.append_nil] at hp))
  clear F N htk
  intro h₄ tk₄ X kx lx hlx F N htk
  refine texts_stmt (news := []) [(X, lst lx kx)] G htk F (p1 := p1) (p2 := p2) (p3 := p3) (p4 := p4) (o5 := o5) (o6 := o6) (o7 := o7) (D := D) (k := kD) (q := q) (fun p hp => N p ?_) d3 d4 rfl hq (by omega) (by omega) ?_
  · rcases List.mem_append.mp hp with hp | hp
    · exact .tail _ (List.mem_append_left _ hp)
    · rcases List.mem_cons.mp hp with rfl | hp
      · exact .tail _ (List.mem_append_right _ (.head _))
      · rcases List.mem_append.mp hp with hp | hp
        · exact .tail _ (List.mem_append_right _ (.tail _ (List.mem_append_left _ hp)))
        · rw [List.mem_singleton.mp hp]; exact .head _
  clear F N htk
  intro h₅ tk₅ T kt lt hlt F N htk
  refine evens_stmt G htk F N (T := T) (lt := lt) (k := kt) (ts := wordsOf x y) (.head _) hlt wl (by omega) rfl ?_
  clear F N htk
  intro h₆ tk₆ V kv lv hlv F N htk
  rw [fix_words hfx hfy hok] at hlv
  refine evens_if G F N (W := X) (V := V) (lw := lx) (lv := lv) (k := kx) (k' := kv) (ws := wordsOf u v) (.tail _ (.tail _ (List.mem_append_right _ (.tail _ (List.mem_append_right _ (.head _)))))) (.head _) hlx hlv (fun z hz => ⟨by have := (WF z hz).len; omega, (WF z hz).lt⟩) (by omega) rfl rfl htk ?_
  clear F N htk
  intro h₇ tk₇ F N
  refine sends_stmt G F N (T := T) (lt := lt) (k := kt) (ts := wordsOf x y) (.tail _ (.head _)) hlt wl (by omega) rfl ?_
  clear F N
  intro h₈ tk₈ U ku lu hlu F N
  rw [show (wordsOf x y).map (fun z => dotF true (fixF false z)) = (wordsOf u v).map fun z => dotF true (phi z) by
    have := congrArg (List.map (dotF true)) (fix_words hfx hfy hok)
    simpa [List.map_map, Function.comp_def] using this] at hlu
  refine sends_if G F N (W := X) (V := U) (lw := lx) (lv := lu) (k := kx) (k' := ku) (ws := wordsOf u v) (.tail _ (.tail _ (.tail _ (List.mem_append_right _ (.tail _ (List.mem_append_right _ (.head _))))))) (.head _) hlx hlu (fun z hz => ⟨by have := (WF z hz).len; omega, (WF z hz).lt⟩) (by omega) rfl rfl ?_
  clear F N
  intro h₉ tk₉ F N
  have hes : ∀ z ∈ (wordsOf u v).map phi, z ≠ [] ∧ z.length ≤ 100 ∧ ∀ c ∈ z, c < 64 := by
    intro z hz
    obtain ⟨z', hz', rfl⟩ := List.mem_map.mp hz
    have f := WF z' hz'
    exact ⟨List.length_pos_iff.mp f.pne, by have := f.plen; omega, f.plt⟩
  have he11 : ((wordsOf u v).map phi).length ≤ 20 := by rw [List.length_map]; omega
  refine tape_stmt G F (news := (s.heap.objs.size + 5, o5) :: (U, lst lu ku) :: (V, lst lv kv) :: (X, lst lx kx) :: (D, lstP q kD) :: (s.heap.objs.size + 3, p3) :: (s.heap.objs.size + 4, p4) :: (s.heap.objs.size + 6, o6) :: (s.heap.objs.size + 7, o7) :: q.map PT.ent)
    (rest := (U, lst lu ku) :: (V, lst lv kv) :: (X, lst lx kx) :: (D, lstP q kD) :: (s.heap.objs.size + 3, p3) :: (s.heap.objs.size + 4, p4) :: (s.heap.objs.size + 6, o6) :: (s.heap.objs.size + 7, o7) :: q.map PT.ent)
    (V := V) (lv := lv) (k := kv) (es := (wordsOf u v).map phi) (e0 := phi u) (o5 := o5) (fun p hp => N p ?_) (by news_mem) hlv (fun z hz => (hes z hz).2) he11 rfl rfl (.head _) d5 (fun p hp => ⟨.tail _ hp, ?_⟩) ?_
  · have cells : ∀ c ∈ CellsAt s.heap.objs.size p1 p2 p3 p4 o5 o6 o7, c ∈ (U, lst lu ku) :: (V, lst lv kv) :: (T, lst lt kt) :: (CellsAt s.heap.objs.size p1 p2 p3 p4 o5 o6 o7 ++ (D, lstP q kD) :: (q.map PT.ent ++ [(X, lst lx kx)])) := fun c hc => .tail _ (.tail _ (.tail _ (List.mem_append_left _ hc)))
    rcases List.mem_cons.mp hp with rfl | hp
    · exact cells _ (by unfold CellsAt; news_mem)
    rcases List.mem_cons.mp hp with rfl | hp
    · exact .head _
    rcases List.mem_cons.mp hp with rfl | hp
    · exact .tail _ (.head _)
    rcases List.mem_cons.mp hp with rfl | hp
    · exact .tail _ (.tail _ (.tail _ (List.mem_append_right _ (.tail _ (List.mem_append_right _ (.head _))))))
    rcases List.mem_cons.mp hp with rfl | hp
    · exact .tail _ (.tail _ (.tail _ (List.mem_append_right _ (.head _))))
    rcases List.mem_cons.mp hp with rfl | hp
    · exact cells _ (by unfold CellsAt; news_mem)
    rcases List.mem_cons.mp hp with rfl | hp
    · exact cells _ (by unfold CellsAt; news_mem)
    rcases List.mem_cons.mp hp with rfl | hp
    · exact cells _ (by unfold CellsAt; news_mem)
    rcases List.mem_cons.mp hp with rfl | hp
    · exact cells _ (by unfold CellsAt; news_mem)
    exact .tail _ (.tail _ (.tail _ (List.mem_append_right _ (.tail _ (List.mem_append_left _ hp)))))
  · rcases List.mem_cons.mp hp with rfl | hp
    · exact .inr ⟨_, _, rfl⟩
    rcases List.mem_cons.mp hp with rfl | hp
    · exact .inr ⟨_, _, rfl⟩
    rcases List.mem_cons.mp hp with rfl | hp
    · exact .inr ⟨_, _, rfl⟩
    rcases List.mem_cons.mp hp with rfl | hp
    · exact .inr ⟨_, _, rfl⟩
    rcases List.mem_cons.mp hp with rfl | hp
    · exact .inl (by simp)
    rcases List.mem_cons.mp hp with rfl | hp
    · exact .inl (by simp)
    rcases List.mem_cons.mp hp with rfl | hp
    · exact .inl (by simp)
    rcases List.mem_cons.mp hp with rfl | hp
    · exact .inl (by simp)
    obtain ⟨p, _, rfl⟩ := List.mem_map.mp hp
    exact .inr ⟨_, _, rfl⟩
  clear F N
  intro h₁₀ tk₁₀ I oI TT kT items o5' hit hIc hId d5' F N
  have hR0 : ∀ p ∈ (U, lst lu ku) :: (V, lst lv kv) :: (X, lst lx kx) :: (D, lstP q kD) :: (s.heap.objs.size + 3, p3) :: (s.heap.objs.size + 4, p4) :: (s.heap.objs.size + 6, o6) :: (s.heap.objs.size + 7, o7) :: q.map PT.ent, (∃ items k, p.2.data = .seq items k) ∨ ∃ v, p.2.data = .cell v := by
    intro p hp
    rcases List.mem_cons.mp hp with rfl | hp
    · exact .inl ⟨_, _, rfl⟩
    rcases List.mem_cons.mp hp with rfl | hp
    · exact .inl ⟨_, _, rfl⟩
    rcases List.mem_cons.mp hp with rfl | hp
    · exact .inl ⟨_, _, rfl⟩
    rcases List.mem_cons.mp hp with rfl | hp
    · exact .inl ⟨_, _, rfl⟩
    rcases List.mem_cons.mp hp with rfl | hp
    · exact .inr ⟨_, d3⟩
    rcases List.mem_cons.mp hp with rfl | hp
    · exact .inr ⟨_, d4⟩
    rcases List.mem_cons.mp hp with rfl | hp
    · exact .inr ⟨_, d6⟩
    rcases List.mem_cons.mp hp with rfl | hp
    · exact .inr ⟨_, d7⟩
    obtain ⟨p, _, rfl⟩ := List.mem_map.mp hp
    exact .inl ⟨_, _, rfl⟩
  refine told_stmt G F N (V := V) (lv := lv) (k := kv) (es := (wordsOf u v).map phi) (.tail _ (.head _)) hlv hes he11 rfl d5' hIc hId hit (fun p hp => ne_data N (.head _) (.tail _ (.tail _ (.tail _ hp))) ?_) ?_
  · rw [hId]
    rcases hR0 p hp with ⟨items, k, h⟩ | ⟨v, h⟩ <;> rw [h] <;> simp
  have hRI : ∀ p ∈ (U, lst lu ku) :: (V, lst lv kv) :: (X, lst lx kx) :: (D, lstP q kD) :: (s.heap.objs.size + 3, p3) :: (s.heap.objs.size + 4, p4) :: (s.heap.objs.size + 6, o6) :: (s.heap.objs.size + 7, o7) :: q.map PT.ent, p.1 ≠ I := fun p hp => ne_data N (.head _) (.tail _ (.tail _ (.tail _ hp))) (by
    rw [hId]
    rcases hR0 p hp with ⟨items, k, h⟩ | ⟨v, h⟩ <;> rw [h] <;> simp)
  clear F N hIc hId
  intro h₁₁ tk₁₁ W kW ys oI' hys hIc hId F N hWI
  refine told_if G F N (W := W) (V := V) (lv := lv) (k := kv) (kW := kW) (es := (wordsOf u v).map phi) (.head _) (.tail _ (.tail _ (.tail _ (.tail _ (.tail _ (.head _)))))) hlv hys (fun z hz => (hes z hz).2) he11 rfl rfl ?_
  clear F N
  intro h₁₂ tk₁₂ F N
  rw [posOf_all] at hId
  refine try_stmt G K F (I := I) (T := TT) (k' := kT) (o5 := o5') (oI := oI') (items := items) (e0 := phi u) (pre := (((wordsOf u v).map phi).map octs).flatten)
    (rest := (W, { cls := .type "list", data := .seq (List.toArray ys) kW }) :: (U, lst lu ku) :: (V, lst lv kv) :: (X, lst lx kx) :: (D, lstP q kD) :: (s.heap.objs.size + 3, p3) :: (s.heap.objs.size + 4, p4) :: (s.heap.objs.size + 6, o6) :: (s.heap.objs.size + 7, o7) :: q.map PT.ent)
    (fun p hp => N p ?_) (hes _ (.head _)) d5' hIc hId hit (fun p hp => ?_) ?_
  · rcases List.mem_cons.mp hp with rfl | hp
    · exact .tail _ (.head _)
    rcases List.mem_cons.mp hp with rfl | hp
    · exact .tail _ (.tail _ (.head _))
    rcases List.mem_cons.mp hp with rfl | hp
    · exact .tail _ (.tail _ (.tail _ (.head _)))
    rcases List.mem_cons.mp hp with rfl | hp
    · exact .head _
    exact .tail _ (.tail _ (.tail _ (.tail _ hp)))
  · rcases List.mem_cons.mp hp with rfl | hp
    · exact hWI
    exact hRI p hp
  clear F N hIc hId hWI hRI
  intro h₁₃ tk₁₃ F N
  refine hits_stmt F N ?_
  clear F N
  intro h₁₄ tk₁₄ H hH F N
  have hRW : ∀ p ∈ (W, ({ cls := .type "list", data := .seq (List.toArray ys) kW } : Obj)) :: (U, lst lu ku) :: (V, lst lv kv) :: (X, lst lx kx) :: (D, lstP q kD) :: (s.heap.objs.size + 3, p3) :: (s.heap.objs.size + 4, p4) :: q.map PT.ent, (∃ items k, p.2.data = .seq items k) ∨ p.1 = s.heap.objs.size + 3 ∨ p.1 = s.heap.objs.size + 4 := by
    intro p hp
    rcases List.mem_cons.mp hp with rfl | hp
    · exact .inl ⟨_, _, rfl⟩
    rcases List.mem_cons.mp hp with rfl | hp
    · exact .inl ⟨_, _, rfl⟩
    rcases List.mem_cons.mp hp with rfl | hp
    · exact .inl ⟨_, _, rfl⟩
    rcases List.mem_cons.mp hp with rfl | hp
    · exact .inl ⟨_, _, rfl⟩
    rcases List.mem_cons.mp hp with rfl | hp
    · exact .inl ⟨_, _, rfl⟩
    rcases List.mem_cons.mp hp with rfl | hp
    · exact .inr (.inl rfl)
    rcases List.mem_cons.mp hp with rfl | hp
    · exact .inr (.inr rfl)
    obtain ⟨p, _, rfl⟩ := List.mem_map.mp hp
    exact .inl ⟨_, _, rfl⟩
  have hsub : ∀ p ∈ (W, ({ cls := .type "list", data := .seq (List.toArray ys) kW } : Obj)) :: (U, lst lu ku) :: (V, lst lv kv) :: (X, lst lx kx) :: (D, lstP q kD) :: (s.heap.objs.size + 3, p3) :: (s.heap.objs.size + 4, p4) :: q.map PT.ent, p ∈ (W, ({ cls := .type "list", data := .seq (List.toArray ys) kW } : Obj)) :: (U, lst lu ku) :: (V, lst lv kv) :: (X, lst lx kx) :: (D, lstP q kD) :: (s.heap.objs.size + 3, p3) :: (s.heap.objs.size + 4, p4) :: (s.heap.objs.size + 6, o6) :: (s.heap.objs.size + 7, o7) :: q.map PT.ent := by
    intro p hp
    rcases List.mem_cons.mp hp with rfl | hp
    · news_mem
    rcases List.mem_cons.mp hp with rfl | hp
    · news_mem
    rcases List.mem_cons.mp hp with rfl | hp
    · news_mem
    rcases List.mem_cons.mp hp with rfl | hp
    · news_mem
    rcases List.mem_cons.mp hp with rfl | hp
    · news_mem
    rcases List.mem_cons.mp hp with rfl | hp
    · news_mem
    rcases List.mem_cons.mp hp with rfl | hp
    · news_mem
    exact .tail _ (.tail _ (.tail _ (.tail _ (.tail _ (.tail _ (.tail _ (.tail _ (.tail _ hp))))))))
  have hPT : ∀ p ∈ q, p.ent ∈ (W, ({ cls := .type "list", data := .seq (List.toArray ys) kW } : Obj)) :: (U, lst lu ku) :: (V, lst lv kv) :: (X, lst lx kx) :: (D, lstP q kD) :: (s.heap.objs.size + 3, p3) :: (s.heap.objs.size + 4, p4) :: q.map PT.ent := fun p hp => .tail _ (.tail _ (.tail _ (.tail _ (.tail _ (.tail _ (.tail _ (List.mem_map_of_mem hp)))))))
  refine for_stmt G F (H := H) (V := V) (U := U) (W := W) (X := X) (D := D) (o6 := o6) (o7 := o7) (ws := wordsOf u v) (lv := lv) (lu := lu) (lx := lx) (ys := ys) (q := q) (kv := kv) (ku := ku) (kw := kW) (kx := kx) (kd := kD)
    (rest := (W, { cls := .type "list", data := .seq (List.toArray ys) kW }) :: (U, lst lu ku) :: (V, lst lv kv) :: (X, lst lx kx) :: (D, lstP q kD) :: (s.heap.objs.size + 3, p3) :: (s.heap.objs.size + 4, p4) :: q.map PT.ent)
    (fun p hp => N p ?_) ⟨rfl, rfl, rfl, rfl, rfl, rfl⟩ d6 d7 (fun p hp => hH p (hsub p hp)) (fun p hp => ?_) (fun p hp => ?_) (by news_mem) (by news_mem) (by news_mem) (by news_mem) (by news_mem) hPT hlx hlv hlu hys w11 hq9
    (fun z hz => ⟨(WF z hz).plen, (WF z hz).pne, (WF z hz).plt, by have := (WF z hz).len; omega⟩) (fun z hz => judge_B (WF z (List.mem_of_mem_drop hz))) (fun z hz => judge_C (WF z (List.mem_of_mem_drop hz))) ?_ rfl
  · rcases List.mem_cons.mp hp with rfl | hp
    · exact .head _
    rcases List.mem_cons.mp hp with rfl | hp
    · news_mem
    rcases List.mem_cons.mp hp with rfl | hp
    · news_mem
    exact .tail _ (hsub p hp)
  · rcases hRW p hp with ⟨items, k, h⟩ | h | h
    · refine ne_data N (o := o6) (by news_mem) (.tail _ (hsub p hp)) ?_
      rw [h, d6]; simp
    · rw [h]; simp
    · rw [h]; simp
  · rcases hRW p hp with ⟨items, k, h⟩ | h | h
    · refine ne_data N (o := o7) (by news_mem) (.tail _ (hsub p hp)) ?_
      rw [h, d7]; simp
    · rw [h]; simp
    · rw [h]; simp
  clear F N hH hRW hsub hPT hR0
  intro h₁₅ tk₁₅ m₁₅ o6' o7' kh F M N
  generalize hhs : (List.filterMap (fun i => if rept ((wordsOf u v).getD (i + 2) []) = true then q[i]? else none) (List.range 9)) = hs at N
  have hsq : ∀ p ∈ hs, p ∈ q := by
    intro p hp
    rw [← hhs] at hp
    obtain ⟨i, _, h⟩ := List.mem_filterMap.mp hp
    by_cases hr : rept ((wordsOf u v).getD (i + 2) []) = true
    · rw [if_pos hr] at h; exact List.mem_of_getElem? h
    · rw [if_neg hr] at h; cases h
  have hs9 : hs.length ≤ 9 := by
    rw [← hhs]
    exact Nat.le_trans (List.length_filterMap_le _ _) (by rw [List.length_range]; omega)
  have hPT : ∀ p ∈ q, p.ent ∈ (W, ({ cls := .type "list", data := .seq (List.toArray ys) kW } : Obj)) :: (U, lst lu ku) :: (V, lst lv kv) :: (X, lst lx kx) :: (D, lstP q kD) :: q.map PT.ent := fun p hp => .tail _ (.tail _ (.tail _ (.tail _ (.tail _ (List.mem_map_of_mem hp)))))
  have fu := WF u uIn
  have fv := WF v vIn
  refine end_stmt G F (H := H) (V := V) (U := U) (W := W) (X := X) (D := D) (p3 := p3) (p4 := p4) (lv := lv) (ys := ys) (q := q) (hs := hs) (kv := kv) (kw := kW) (kd := kD) (kh := kh) (x := x) (y := y) (e0 := phi u) (e1 := phi v) (r := decide (u ++ v = v ++ u))
    (rest := (W, { cls := .type "list", data := .seq (List.toArray ys) kW }) :: (U, lst lu ku) :: (V, lst lv kv) :: (X, lst lx kx) :: (D, lstP q kD) :: q.map PT.ent)
    (fun p hp => N p ?_) M d3 d4 (by news_mem) (by news_mem) (by news_mem) hPT (fun p hp => hPT p (hsq p hp)) hx11 hy11 (strs_get hlv rfl) (strs_get hlv rfl) (ints_get hys rfl) (ints_get hys rfl) fu.plen fv.plen (val_360 fu.plt fu.plen) (val_360 fv.plt fv.plen) (by omega) hs9
    (judge_r huc hvc hfx hfy hok) (judge_r2 huc hvc) (fun h => ?_) (fun h => ?_)
  · rcases List.mem_cons.mp hp with rfl | hp
    · news_mem
    rcases List.mem_cons.mp hp with rfl | hp
    · news_mem
    rcases List.mem_cons.mp hp with rfl | hp
    · exact .head _
    rcases List.mem_cons.mp hp with rfl | hp
    · news_mem
    rcases List.mem_cons.mp hp with rfl | hp
    · news_mem
    rcases List.mem_cons.mp hp with rfl | hp
    · news_mem
    rcases List.mem_cons.mp hp with rfl | hp
    · news_mem
    rcases List.mem_cons.mp hp with rfl | hp
    · news_mem
    exact .tail _ (.tail _ (.tail _ (.tail _ (.tail _ (.tail _ (.tail _ (.tail _ (.tail _ (.tail _ hp)))))))))
  · rw [← hhs]
    exact hits_true hu hv hu5 hv5 huc hvc hq (of_decide_eq_true h)
  · exact hits_false hu hv hu5 hv5 huc hvc hq (of_decide_eq_false h) hs hhs.symm
end Mine
end
-- part L15
section
open PySem PySem.W PyProof.Rows
set_option Elab.async false
set_option maxRecDepth 100000
set_option maxHeartbeats 4000000
set_option pp.deepTerms false
set_option pp.deepTerms.threshold 5
set_option pp.maxSteps 20000
set_option linter.unusedSimpArgs false
set_option linter.unusedVariables false
namespace Mine
local macro_rules | `(tactic| walk_at "eval Name") => `(tactic| first
  | refine nmL (by assumption) (by first | rfl | assumption) ?_
  | refine nmC2 rfl (by assumption) (by news_mem) (by assumption) ?_
  | refine nmC3 rfl (by assumption) ?_
  | refine nmG (by assumption) (by assumption) (by first | exact gl_twin_re_1 _ | exact gl_twin_re_2 _ | exact gl_CRLF _ | exact gl_quotedata _ | exact gl_fix_eols _ | exact gl_parse_varint _ | exact gl_law_numbers _ | exact gl_law_word _ | exact gl_law_spelled _ | exact gl_law_mails _ | exact gl_law_sent _ | exact gl_law_octets _ | exact gl_law_value _ | exact gl_law_primes _) ?_
  | refine nmB (by assumption) (by assumption) (by first | exact gb_next _ | exact gb_enumerate _ | exact gb_chr _ | exact gb_ord _ | exact gb_len _ | exact gb_sum _ | exact gb_range _ | exact gb_iter _ | exact gb_StopIteration _) (by boot_fast) ?_)
local macro_rules | `(tactic| walk_at "storeName") => `(tactic| (refine storeX_L (by assumption) (by assumption) ?_; intro h' F' N'; dsimp only at F' N' ⊢))

local macro_rules | `(tactic| walk_at "loadName") => `(tactic| refine wpAny_loadName_local rfl rfl (Fr.ns (by assumption)) (by first | rfl | assumption) ?_)
local macro_rules | `(tactic| walk_at "callWith ref") => `(tactic| refine callWith_K (Gd.X (by assumption)) (by kernel_rfl) ?_)
local macro_rules | `(tactic| walk_at "And") => `(tactic| ((with_reducible show Frag.In _ _ ∧ _); refine ⟨Frag.In.keeps (Gd.X (by assumption)) (Fr.keep (by assumption)), ?_⟩; (try dsimp only [List.nil_append, List.cons_append])))


local macro_rules | `(tactic| news_mem) => `(tactic| first | exact .head _ | (refine .tail _ ?_; news_mem))


theorem law_test : PySem.Challenge.rw_ph0006_01.Holds := hd (by
  k_go0
  rename Fr _ _ _ _ => F
  rename News _ _ _ _ => N
  rename Below _ _ _ _ => K
  rename Top _ _ _ _ _ _ => T
  rename Frag.In _ _ => KX
  rename Heap.IsList _ _ _ => hL
  rename IntsAre _ _ => hI
  rename ¬ _ < _ => hc
  have G : Gd _ _ := ⟨KX, ⟨_, _, _, _, topRead_of T⟩⟩
  refine wpAny_mono (law_spine G K F N (by assumption) (by assumption) (by assumption) (by assumption) (by assumption) (by assumption) (by assumption) rfl hL hI (by omega)) (fun f s' r => ?_) (fun _ _ x => x.elim)
  obtain ⟨h', tk', m', rfl, rfl, F'⟩ := r
  dsimp only
  wrow_close)
end Mine
end
theorem PySem.Challenge.cw_ph0006_01_holds : PySem.Challenge.rw_ph0006_01.Holds :=
  Mine.law_test
