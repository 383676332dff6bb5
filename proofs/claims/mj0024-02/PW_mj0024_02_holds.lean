import PyProof.Rows.All
import Wide.All
import OpenK.AllK
import Wide.FinOn
import PySem.Challenge.RW_mj0024_02
set_option Elab.async false
set_option maxRecDepth 100000
namespace Mine
open PySem PySem.W PyProof.Rows
set_option maxHeartbeats 8000000 in
open_top hd for PySem.Challenge.rw_mj0024_02
end Mine
namespace Mine
open PySem.Sre

def code : Array Nat := #[14, 8, 1, 2, 4294967295, 1, 1, 34, 0, 16, 34, 28, 22, 0, 4294967295, 7, 11, 13, 7, 21, 16, 34, 16, 92, 0, 15, 8, 6, 16, 92, 2, 15, 2, 0, 1, 16, 34, 1]

/-- the machine's state, the parts that turn as letters -/
def st (text : Array Nat) (n start last pc pos handed : Nat) (out : Bool) (loops : Array Loop) (inner : Option Nat) (frames : List Frame) (weight : Nat) (answer : Option Bool) (seen : Seen) (outcome : Option Outcome) : M :=
  { code := code, text := text, lim := n, start := start, lastStart := last, pc := pc, pos := pos, handed := handed, outermost := out, marks := #[],
    loops := loops, inner := inner, frames := frames, weight := weight, answer := answer, seen := seen, outcome := outcome }

def kept0 : Kept := { lastmark := -1, lastindex := -1, whole := true, marks := #[] }
def fS (s : Nat) (out : Bool) : Frame := { wait := .nextStart, pc := 9, pos := s, outermost := out }
def fP (p : Nat) (out : Bool) (count : Int) : Frame := { wait := .possMore, pc := 11, pos := p, outermost := out, count := count, kept := kept0, loop := 0 }
def fB (j p : Nat) : Frame := { wait := .nextBranch, pc := j, pos := p, outermost := false, kept := kept0 }
def loops1 : Array Loop := #[{ pc := 0, outer := none }]


section
variable {text : Array Nat} {n start last pc pos handed : Nat} {out : Bool} {loops : Array Loop} {inner : Option Nat} {frames : List Frame} {weight : Nat} {seen : Seen}

/-- one literal: not there -/
theorem step_lit_no {k : Nat} (hk : k = 9 ∨ k = 28 ∨ k = 35) (h : ¬ (pos < n ∧ text.getD pos 0 = code.getD (k + 1) 0)) :
    ∃ seen', (st text n start last k pos handed out loops inner frames weight none seen none).step = st text n start last k pos handed out loops inner frames weight (some false) seen' none := by
  refine ⟨seen.add 16, ?_⟩
  rcases hk with rfl | rfl | rfl
  all_goals
    show (if pos ≥ n then _ else _) = _
    by_cases h1 : pos ≥ n
    · rw [if_pos h1]; rfl
    · rw [if_neg h1]
      first
        | (have h2 : (text.getD pos 0 == 34) = false := by
            simp only [beq_eq_false_iff_ne]; intro e; exact h ⟨by omega, e⟩
           show (match (Except.ok (text.getD pos 0 == 34, seen.add 16) : Except String (Bool × Seen)) with | .error why => _ | .ok (false, seen) => _ | .ok (true, seen) => _) = _
           rw [h2]; rfl)
        | (have h2 : (text.getD pos 0 == 92) = false := by
            simp only [beq_eq_false_iff_ne]; intro e; exact h ⟨by omega, e⟩
           show (match (Except.ok (text.getD pos 0 == 92, seen.add 16) : Except String (Bool × Seen)) with | .error why => _ | .ok (false, seen) => _ | .ok (true, seen) => _) = _
           rw [h2]; rfl)
/-- one literal: there -/
theorem step_lit_yes {k : Nat} (hk : k = 9 ∨ k = 28 ∨ k = 35) (h1 : pos < n) (h : text.getD pos 0 = code.getD (k + 1) 0) :
    ∃ seen', (st text n start last k pos handed out loops inner frames weight none seen none).step = st text n start last (k + 2) (pos + 1) handed out loops inner frames weight none seen' none := by
  refine ⟨seen.add 16, ?_⟩
  rcases hk with rfl | rfl | rfl
  all_goals
    show (if pos ≥ n then _ else _) = _
    rw [if_neg (by omega)]
    first
      | (have h2 : (text.getD pos 0 == 34) = true := by rw [h]; rfl
         show (match (Except.ok (text.getD pos 0 == 34, seen.add 16) : Except String (Bool × Seen)) with | .error why => _ | .ok (false, seen) => _ | .ok (true, seen) => _) = _
         rw [h2]; rfl)
      | (have h2 : (text.getD pos 0 == 92) = true := by rw [h]; rfl
         show (match (Except.ok (text.getD pos 0 == 92, seen.add 16) : Except String (Bool × Seen)) with | .error why => _ | .ok (false, seen) => _ | .ok (true, seen) => _) = _
         rw [h2]; rfl)
/-- any sign but a line feed -/
theorem step_any_no (h : ¬ (pos < n ∧ text.getD pos 0 ≠ 10)) :
    ∃ seen', (st text n start last 30 pos handed out loops inner frames weight none seen none).step = st text n start last 30 pos handed out loops inner frames weight (some false) seen' none := by
  refine ⟨seen.add 2, ?_⟩
  show (if pos ≥ n then _ else _) = _
  by_cases h1 : pos ≥ n
  · rw [if_pos h1]; rfl
  · rw [if_neg h1]
    have h2 : (text.getD pos 0 != 10) = false := by
      rw [bne_eq_false_iff_eq]; exact Decidable.byContradiction fun e => h ⟨by omega, e⟩
    show (match (Except.ok (text.getD pos 0 != 10, seen.add 2) : Except String (Bool × Seen)) with | .error why => _ | .ok (false, seen) => _ | .ok (true, seen) => _) = _
    rw [h2]; rfl
theorem step_any_yes (h1 : pos < n) (h : text.getD pos 0 ≠ 10) :
    ∃ seen', (st text n start last 30 pos handed out loops inner frames weight none seen none).step = st text n start last 31 (pos + 1) handed out loops inner frames weight none seen' none := by
  refine ⟨seen.add 2, ?_⟩
  show (if pos ≥ n then _ else _) = _
  rw [if_neg (by omega)]
  have h2 : (text.getD pos 0 != 10) = true := by rw [bne_iff_ne]; exact h
  show (match (Except.ok (text.getD pos 0 != 10, seen.add 2) : Except String (Bool × Seen)) with | .error why => _ | .ok (false, seen) => _ | .ok (true, seen) => _) = _
  rw [h2]; rfl
/-- the set: no quote, no backslash -/
theorem inSet_code (c : Nat) (seen : Seen) : ∃ seen', inSet code c 38 19 true seen = .ok (!(c == 34) && !(c == 92), seen') := by
  show ∃ seen', (if (c == 34) = true then Except.ok (false, _) else (if (c == 92) = true then Except.ok (false, _) else Except.ok (true, _))) = _
  by_cases h1 : (c == 34) = true
  · rw [if_pos h1, h1]; exact ⟨_, rfl⟩
  · rw [if_neg h1]
    rw [Bool.not_eq_true] at h1
    rw [h1]
    by_cases h2 : (c == 92) = true
    · rw [if_pos h2, h2]; exact ⟨_, rfl⟩
    · rw [if_neg h2]
      rw [Bool.not_eq_true] at h2
      rw [h2]; exact ⟨_, rfl⟩
theorem step_in_no (h : ¬ (pos < n ∧ text.getD pos 0 ≠ 34 ∧ text.getD pos 0 ≠ 92)) :
    ∃ seen', (st text n start last 17 pos handed out loops inner frames weight none seen none).step = st text n start last 17 pos handed out loops inner frames weight (some false) seen' none := by
  by_cases h1 : pos ≥ n
  · refine ⟨seen.add 13, ?_⟩
    show (if pos ≥ n then _ else _) = _
    rw [if_pos h1]; rfl
  · obtain ⟨seen', e⟩ := inSet_code (text.getD pos 0) (seen.add 13)
    refine ⟨seen', ?_⟩
    show (if pos ≥ n then _ else _) = _
    rw [if_neg h1]
    have h2 : (!(text.getD pos 0 == 34) && !(text.getD pos 0 == 92)) = false := by
      rw [Bool.eq_false_iff]
      intro e2
      simp only [Bool.and_eq_true, Bool.not_eq_true', beq_eq_false_iff_ne] at e2
      exact h ⟨by omega, e2⟩
    show (match inSet code (text.getD pos 0) 38 19 true (seen.add 13) with | .error why => _ | .ok (false, seen) => _ | .ok (true, seen) => _) = _
    rw [e, h2]; rfl
theorem step_in_yes (h1 : pos < n) (ha : text.getD pos 0 ≠ 34) (hb : text.getD pos 0 ≠ 92) :
    ∃ seen', (st text n start last 17 pos handed out loops inner frames weight none seen none).step = st text n start last 25 (pos + 1) handed out loops inner frames weight none seen' none := by
  obtain ⟨seen', e⟩ := inSet_code (text.getD pos 0) (seen.add 13)
  refine ⟨seen', ?_⟩
  show (if pos ≥ n then _ else _) = _
  rw [if_neg (by omega)]
  have h2 : (!(text.getD pos 0 == 34) && !(text.getD pos 0 == 92)) = true := by
    simp only [Bool.and_eq_true, Bool.not_eq_true', beq_eq_false_iff_ne]
    exact ⟨ha, hb⟩
  show (match inSet code (text.getD pos 0) 38 19 true (seen.add 13) with | .error why => _ | .ok (false, seen) => _ | .ok (true, seen) => _) = _
  rw [e, h2]; rfl
theorem step_jump {k : Nat} (hk : k = 25 ∨ k = 31) :
    ∃ seen', (st text n start last k pos handed out loops inner frames weight none seen none).step = st text n start last 34 pos handed out loops inner frames weight none seen' none := by
  refine ⟨seen.add 15, ?_⟩
  rcases hk with rfl | rfl <;> rfl
theorem step_succ {k : Nat} (hk : k = 34 ∨ k = 37) :
    ∃ seen', (st text n start last k pos handed out loops inner frames weight none seen none).step = st text n start last k pos pos out loops inner frames weight (some true) seen' none := by
  refine ⟨seen.add 1, ?_⟩
  rcases hk with rfl | rfl <;> cases out <;> rfl

theorem attempt_st {f : Frame} {t p : Nat} {o : Bool} {ans : Option Bool} (hw : weight ≤ 1000) (hf : f.kept.marks.size = 0) :
    (st text n start last pc pos handed out loops inner frames weight ans seen none).attempt f t p o = st text n start last t p p o loops inner (f :: frames) (weight + 1) ans seen none := by
  unfold M.attempt
  show (if weight + 1 + f.kept.marks.size > 16777216 then _ else _) = _
  rw [hf, if_neg (by omega)]
  rfl
/-- the branch's first way -/
theorem step_branch (hw : weight ≤ 1000) :
    ∃ seen', (st text n start last 15 pos handed false loops (some 0) frames weight none seen none).step = st text n start last 17 pos pos false loops (some 0) (fB 16 pos :: frames) (weight + 1) none seen' none := by
  refine ⟨seen.add 7, ?_⟩
  show (st text n start last 15 pos handed false loops (some 0) frames weight none (seen.add 7) none).attempt (fB 16 pos) 17 pos false = _
  exact attempt_st hw rfl
/-- a loop's opening -/
theorem step_poss (hw : weight ≤ 1000) :
    ∃ seen', (st text n start last 11 pos handed out #[] none frames weight none seen none).step = st text n start last 15 pos pos false loops1 (some 0) (fP pos out 0 :: frames) (weight + 1) none seen' none := by
  refine ⟨seen.add 28, ?_⟩
  show (st text n start last 11 pos pos out loops1 (some 0) frames weight none (seen.add 28) none).attempt (fP pos out 0) 15 pos false = _
  exact attempt_st hw rfl
/-- a way that came through -/
theorem step_branch_yes {j p : Nat} {a : Nat} :
    (st text n start last pc pos handed out loops inner (fB j p :: frames) (a + 1) (some true) seen none).step = st text n start last j p handed false loops inner frames a (some true) seen none := rfl
theorem step_branch_no1 {p : Nat} {a : Nat} (hw : a ≤ 1000) :
    (st text n start last pc pos handed out loops inner (fB 16 p :: frames) (a + 1) (some false) seen none).step = st text n start last 28 p p false loops inner (fB 27 p :: frames) (a + 1) none seen none := by
  show (st text n start last 16 p handed false loops inner frames a none seen none).attempt (fB 27 p) 28 p false = _
  exact attempt_st hw rfl
theorem step_branch_no2 {p : Nat} {a : Nat} :
    (st text n start last pc pos handed out loops inner (fB 27 p :: frames) (a + 1) (some false) seen none).step = st text n start last 27 p handed false loops inner frames a (some false) seen none := rfl
/-- a turn that came through and moved -/
theorem step_poss_yes {p q : Nat} {o : Bool} {cnt : Int} {a : Nat} (hw : a ≤ 1000) (hc : 0 ≤ cnt) (hq : p ≠ q) :
    (st text n start last pc pos q out loops1 (some 0) (fP p o cnt :: frames) (a + 1) (some true) seen none).step = st text n start last 15 q q false loops1 (some 0) (fP q o (cnt + 1) :: frames) (a + 1) none seen none := by
  show (if cnt + 1 < ((0 : Nat) : Int) then _ else if (decide (cnt + 1 < ((4294967295 : Nat) : Int)) || true) && (some p != some q) then _ else _) = _
  rw [if_neg (by omega), if_pos (by simp [hq])]
  show (st text n start last 11 p q o loops1 (some 0) frames a none seen none).attempt (fP q o (cnt + 1)) 15 q false = _
  exact attempt_st hw rfl
/-- a turn that did not -/
theorem step_poss_no {p q : Nat} {o : Bool} {cnt : Int} {a : Nat} (hc : 0 ≤ cnt) :
    (st text n start last pc pos q out loops1 (some 0) (fP p o cnt :: frames) (a + 1) (some false) seen none).step = st text n start last 35 p p o #[] none frames a none seen none := by
  show (if cnt < ((0 : Nat) : Int) then _ else if (decide (cnt < ((4294967295 : Nat) : Int)) || true) && (some p != some p) then _ else _) = _
  rw [if_neg (by omega), if_neg (by simp)]
  rfl
theorem step_start_yes {s : Nat} {o : Bool} {a : Nat} :
    (st text n start last pc pos handed out loops inner (fS s o :: frames) (a + 1) (some true) seen none).step = st text n start last 9 s handed o loops inner frames a (some true) seen none := rfl
theorem step_start_no {s : Nat} {o : Bool} (hs : s < n) :
    (st text n start n pc pos handed out #[] none [fS s o] 1 (some false) seen none).step = st text n (s + 1) n 9 (s + 1) (s + 1) false #[] none [fS (s + 1) false] 1 none seen none := by
  show (if s < n then _ else _) = _
  rw [if_pos hs]; rfl
theorem step_start_end {s : Nat} {o : Bool} (hs : ¬ s < n) :
    (st text n start n pc pos handed out #[] none [fS s o] 1 (some false) seen none).step = st text n start n 9 s handed o #[] none [] 0 (some false) seen none := by
  show (if s < n then _ else _) = _
  rw [if_neg hs]; rfl
theorem step_out {b : Bool} : (st text n start last pc pos handed out loops inner [] weight (some b) seen none).step = st text n start last pc pos handed out loops inner [] weight (some b) seen (some (if b then .matched else .failed)) := rfl
end
end Mine
namespace Mine
open PySem.Sre

/-- behind an opening quote: what stands behind the shutting one -/
def close : List Nat → Option (List Nat)
  | [] => none
  | c :: r => if c = 34 then some r else if c = 92 then (match r with | [] => none | d :: r' => if d = 10 then none else close r') else close r
/-- the first quoted string: what stands ahead of it and behind it -/
def find : List Nat → Option (List Nat × List Nat)
  | [] => none
  | c :: r => match (if c = 34 then close r else none) with
    | some r' => some ([], r')
    | none => (find r).map fun x => (c :: x.1, x.2)

theorem close_suffix : ∀ (k : Nat) (l : List Nat), l.length ≤ k → ∀ r, close l = some r → ∃ a, l = a ++ r ∧ 0 < a.length
  | k, [], _, r, h => by cases h
  | 0, c :: l, hk, _, _ => by simp at hk
  | k + 1, c :: l, hk, r, h => by
    unfold close at h
    split at h
    · cases h; exact ⟨[c], rfl, by simp⟩
    · split at h
      · split at h
        · cases h
        · rename_i d r' 
          split at h
          · cases h
          · obtain ⟨a, ha, _⟩ := close_suffix k _ (by simp at hk ⊢; omega) r h
            exact ⟨c :: d :: a, by simp [ha], by simp⟩
      · obtain ⟨a, ha, _⟩ := close_suffix k l (by simp at hk ⊢; omega) r h
        exact ⟨c :: a, by simp [ha], by simp⟩
theorem close_len {l r : List Nat} (h : close l = some r) : r.length < l.length := by
  obtain ⟨a, ha, h1⟩ := close_suffix _ l (Nat.le_refl _) r h
  rw [ha, List.length_append]; omega

def Goes (k : Nat) (m m' : M) : Prop := ∃ j, j ≤ k ∧ M.runFor j m = m'
theorem runFor_done {m : M} (h : m.outcome.isSome = true) : ∀ k, M.runFor k m = m
  | 0 => rfl
  | k + 1 => by unfold M.runFor; rw [if_pos h]
theorem runFor_add : ∀ (i j : Nat) (m : M), M.runFor (i + j) m = M.runFor j (M.runFor i m)
  | 0, j, m => by rw [Nat.zero_add]; rfl
  | i + 1, j, m => by
    rw [show i + 1 + j = (i + j) + 1 by omega]
    by_cases h : m.outcome.isSome = true
    · rw [runFor_done h, runFor_done h, runFor_done h]
    · have e : ∀ k, M.runFor (k + 1) m = M.runFor k m.step := fun k => by
        show (if m.outcome.isSome = true then m else M.runFor k m.step) = _
        rw [if_neg h]
      rw [e, e, runFor_add i j m.step]
theorem Goes.refl {m : M} {k : Nat} : Goes k m m := ⟨0, Nat.zero_le _, rfl⟩
theorem Goes.one {m m' m'' : M} {k : Nat} (h0 : m.outcome.isSome = false) (h : m.step = m') (g : Goes k m' m'') : Goes (k + 1) m m'' := by
  obtain ⟨j, hj, e⟩ := g
  refine ⟨j + 1, by omega, ?_⟩
  unfold M.runFor
  rw [if_neg (by rw [h0]; exact Bool.false_ne_true), h]; exact e
theorem Goes.trans {m m' m'' : M} {k k' : Nat} (g : Goes k m m') (g' : Goes k' m' m'') : Goes (k + k') m m'' := by
  obtain ⟨i, hi, e⟩ := g
  obtain ⟨j, hj, e'⟩ := g'
  exact ⟨i + j, by omega, by rw [runFor_add, e]; exact e'⟩
theorem Goes.le {m m' : M} {k k' : Nat} (g : Goes k m m') (h : k ≤ k') : Goes k' m m' := let ⟨j, hj, e⟩ := g; ⟨j, by omega, e⟩

theorem drop_at {text : Array Nat} {p c : Nat} {r : List Nat} (h : text.toList.drop p = c :: r) : p < text.size ∧ text.getD p 0 = c ∧ text.toList.drop (p + 1) = r ∧ r.length = text.size - (p + 1) := by
  have hl : (text.toList.drop p).length = r.length + 1 := by rw [h]; rfl
  rw [List.length_drop, Array.length_toList] at hl
  have hp : p < text.size := by omega
  refine ⟨hp, ?_, ?_, by omega⟩
  · have : text.toList[p]? = some c := by
      have := congrArg List.head? h
      rw [List.head?_drop] at this; simpa using this
    rw [Array.getD_eq_getD_getElem?, ← Array.getElem?_toList, this]; rfl
  · rw [← List.drop_drop, h]; rfl
theorem drop_nil {text : Array Nat} {p : Nat} (h : text.toList.drop p = []) : ¬ p < text.size := by
  rw [List.drop_eq_nil_iff, Array.length_toList] at h; omega

section
variable {text : Array Nat} {start last : Nat} {frames : List Frame} {a : Nat}

theorem loop_goes (ha : a ≤ 900) : ∀ (k : Nat) (l : List Nat), l.length ≤ k → ∀ (p : Nat) (cnt : Int) (seen : Seen) (out : Bool), text.toList.drop p = l → 0 ≤ cnt →
    match close l with
    | some r => ∃ seen', Goes (12 * l.length + 12) (st text text.size start last 15 p p false loops1 (some 0) (fP p out cnt :: frames) (a + 1) none seen none)
        (st text text.size start last 37 (text.size - r.length) (text.size - r.length) out #[] none frames a (some true) seen' none)
    | none => ∃ seen' pc' pos' handed', Goes (12 * l.length + 12) (st text text.size start last 15 p p false loops1 (some 0) (fP p out cnt :: frames) (a + 1) none seen none)
        (st text text.size start last pc' pos' handed' out #[] none frames a (some false) seen' none) := by
  have shut : ∀ (p : Nat) (cnt : Int) (seen : Seen) (out : Bool), 0 ≤ cnt → ¬ (p < text.size ∧ text.getD p 0 = 34) →
      ∃ seen' pc' pos' handed', ∀ (pc q : Nat) (o : Bool), Goes 2 (st text text.size start last pc p q o loops1 (some 0) (fP p out cnt :: frames) (a + 1) (some false) seen none)
        (st text text.size start last pc' pos' handed' out #[] none frames a (some false) seen' none) := by
    intro p cnt seen out hc h
    obtain ⟨s1, e1⟩ := step_lit_no (text := text) (n := text.size) (start := start) (last := last) (pos := p) (handed := p) (out := out) (loops := #[]) (inner := none) (frames := frames) (weight := a) (seen := seen) (k := 35) (.inr (.inr rfl)) h
    exact ⟨s1, _, _, _, fun pc q o => .one rfl (step_poss_no hc) (.one rfl e1 .refl)⟩
  intro k
  induction k with
  | zero =>
    intro l hl p cnt seen out hd hc
    obtain rfl : l = [] := List.length_eq_zero_iff.mp (by omega)
    have hp := drop_nil hd
    obtain ⟨s1, e1⟩ := step_branch (text := text) (n := text.size) (start := start) (last := last) (pos := p) (handed := p) (loops := loops1) (frames := fP p out cnt :: frames) (weight := a + 1) (seen := seen) (by omega)
    obtain ⟨s2, e2⟩ := step_in_no (text := text) (n := text.size) (start := start) (last := last) (pos := p) (handed := p) (out := false) (loops := loops1) (inner := some 0) (frames := fB 16 p :: fP p out cnt :: frames) (weight := a + 1 + 1) (seen := s1) (fun h => hp h.1)
    obtain ⟨s3, e3⟩ := step_lit_no (text := text) (n := text.size) (start := start) (last := last) (pos := p) (handed := p) (out := false) (loops := loops1) (inner := some 0) (frames := fB 27 p :: fP p out cnt :: frames) (weight := a + 1 + 1) (seen := s2) (k := 28) (.inr (.inl rfl)) (fun h => hp h.1)
    obtain ⟨s4, x, y, z, e4⟩ := shut p cnt s3 out hc (fun h => hp h.1)
    refine ⟨s4, x, y, z, ?_⟩
    exact (Goes.one rfl e1 (.one rfl e2 (.one rfl (step_branch_no1 (by omega)) (.one rfl e3 (.one rfl step_branch_no2 (e4 _ _ _)))))).le (by omega)
  | succ k ih =>
    intro l hl p cnt seen out hd hc
    cases l with
    | nil => exact ih [] (by simp) p cnt seen out hd hc
    | cons c r =>
      obtain ⟨hp, hcp, hd', hr⟩ := drop_at hd
      obtain ⟨s1, e1⟩ := step_branch (text := text) (n := text.size) (start := start) (last := last) (pos := p) (handed := p) (loops := loops1) (frames := fP p out cnt :: frames) (weight := a + 1) (seen := seen) (by omega)
      unfold close
      by_cases h34 : c = 34
      · rw [if_pos h34]
        dsimp only
        obtain ⟨s2, e2⟩ := step_in_no (text := text) (n := text.size) (start := start) (last := last) (pos := p) (handed := p) (out := false) (loops := loops1) (inner := some 0) (frames := fB 16 p :: fP p out cnt :: frames) (weight := a + 1 + 1) (seen := s1) (fun h => h.2.1 (hcp.trans h34))
        obtain ⟨s3, e3⟩ := step_lit_no (text := text) (n := text.size) (start := start) (last := last) (pos := p) (handed := p) (out := false) (loops := loops1) (inner := some 0) (frames := fB 27 p :: fP p out cnt :: frames) (weight := a + 1 + 1) (seen := s2) (k := 28) (.inr (.inl rfl)) (fun h => by have := hcp.symm.trans h.2; rw [h34] at this; exact absurd this (by decide))
        obtain ⟨s4, e4⟩ := step_lit_yes (text := text) (n := text.size) (start := start) (last := last) (pos := p) (handed := p) (out := out) (loops := #[]) (inner := none) (frames := frames) (weight := a) (seen := s3) (k := 35) (.inr (.inr rfl)) hp (hcp.trans h34)
        obtain ⟨s5, e5⟩ := step_succ (text := text) (n := text.size) (start := start) (last := last) (pos := p + 1) (handed := p) (out := out) (loops := #[]) (inner := none) (frames := frames) (weight := a) (seen := s4) (k := 37) (.inr rfl)
        refine ⟨s5, ?_⟩
        rw [show text.size - r.length = p + 1 by omega]
        exact (Goes.one rfl e1 (.one rfl e2 (.one rfl (step_branch_no1 (by omega)) (.one rfl e3 (.one rfl step_branch_no2 (.one rfl (step_poss_no hc) (.one rfl e4 (.one rfl e5 (.refl (k := 0)))))))))).le (by omega)
      · rw [if_neg h34]
        by_cases h92 : c = 92
        · rw [if_pos h92]
          obtain ⟨s2, e2⟩ := step_in_no (text := text) (n := text.size) (start := start) (last := last) (pos := p) (handed := p) (out := false) (loops := loops1) (inner := some 0) (frames := fB 16 p :: fP p out cnt :: frames) (weight := a + 1 + 1) (seen := s1) (fun h => h.2.2 (hcp.trans h92))
          obtain ⟨s3, e3⟩ := step_lit_yes (text := text) (n := text.size) (start := start) (last := last) (pos := p) (handed := p) (out := false) (loops := loops1) (inner := some 0) (frames := fB 27 p :: fP p out cnt :: frames) (weight := a + 1 + 1) (seen := s2) (k := 28) (.inr (.inl rfl)) hp (hcp.trans h92)
          have bad : ¬ (p + 1 < text.size ∧ text.getD (p + 1) 0 ≠ 10) → ∃ seen' pc' pos' handed', Goes (12 * (c :: r).length + 12) (st text text.size start last 15 p p false loops1 (some 0) (fP p out cnt :: frames) (a + 1) none seen none)
              (st text text.size start last pc' pos' handed' out #[] none frames a (some false) seen' none) := by
            intro hb
            obtain ⟨s4, e4⟩ := step_any_no (text := text) (n := text.size) (start := start) (last := last) (pos := p + 1) (handed := p) (out := false) (loops := loops1) (inner := some 0) (frames := fB 27 p :: fP p out cnt :: frames) (weight := a + 1 + 1) (seen := s3) hb
            obtain ⟨s5, x, y, z, e5⟩ := shut p cnt s4 out hc (fun h => h34 (hcp.symm.trans h.2))
            exact ⟨s5, x, y, z, (Goes.one rfl e1 (.one rfl e2 (.one rfl (step_branch_no1 (by omega)) (.one rfl e3 (.one rfl e4 (.one rfl step_branch_no2 (e5 _ _ _))))))).le (by omega)⟩
          cases r with
          | nil => exact bad (fun h => drop_nil hd' h.1)
          | cons d r' =>
            obtain ⟨hp1, hcp1, hd1, hr1⟩ := drop_at hd'
            dsimp only
            by_cases h10 : d = 10
            · rw [if_pos h10]
              exact bad (fun h => h.2 (hcp1.trans h10))
            · rw [if_neg h10]
              obtain ⟨s4, e4⟩ := step_any_yes (text := text) (n := text.size) (start := start) (last := last) (pos := p + 1) (handed := p) (out := false) (loops := loops1) (inner := some 0) (frames := fB 27 p :: fP p out cnt :: frames) (weight := a + 1 + 1) (seen := s3) hp1 (fun h => h10 (hcp1.symm.trans h))
              obtain ⟨s5, e5⟩ := step_jump (text := text) (n := text.size) (start := start) (last := last) (pos := p + 1 + 1) (handed := p) (out := false) (loops := loops1) (inner := some 0) (frames := fB 27 p :: fP p out cnt :: frames) (weight := a + 1 + 1) (seen := s4) (k := 31) (.inr rfl)
              obtain ⟨s6, e6⟩ := step_succ (text := text) (n := text.size) (start := start) (last := last) (pos := p + 1 + 1) (handed := p) (out := false) (loops := loops1) (inner := some 0) (frames := fB 27 p :: fP p out cnt :: frames) (weight := a + 1 + 1) (seen := s5) (k := 34) (.inl rfl)
              have go := Goes.one rfl e1 (.one rfl e2 (.one rfl (step_branch_no1 (by omega)) (.one rfl e3 (.one rfl e4 (.one rfl e5 (.one rfl e6 (.one rfl step_branch_yes (.one rfl (step_poss_yes (by omega) hc (by omega)) (.refl (k := 0))))))))))
              have rest := ih r' (by simp at hl ⊢; omega) (p + 1 + 1) (cnt + 1) s6 out hd1 (by omega)
              revert rest
              cases close r' with
              | some q =>
                rintro ⟨s7, g⟩
                exact ⟨s7, (go.trans g).le (by simp; omega)⟩
              | none =>
                rintro ⟨s7, x, y, z, g⟩
                exact ⟨s7, x, y, z, (go.trans g).le (by simp; omega)⟩
        · rw [if_neg h92]
          obtain ⟨s2, e2⟩ := step_in_yes (text := text) (n := text.size) (start := start) (last := last) (pos := p) (handed := p) (out := false) (loops := loops1) (inner := some 0) (frames := fB 16 p :: fP p out cnt :: frames) (weight := a + 1 + 1) (seen := s1) hp (fun h => h34 (hcp.symm.trans h)) (fun h => h92 (hcp.symm.trans h))
          obtain ⟨s5, e5⟩ := step_jump (text := text) (n := text.size) (start := start) (last := last) (pos := p + 1) (handed := p) (out := false) (loops := loops1) (inner := some 0) (frames := fB 16 p :: fP p out cnt :: frames) (weight := a + 1 + 1) (seen := s2) (k := 25) (.inl rfl)
          obtain ⟨s6, e6⟩ := step_succ (text := text) (n := text.size) (start := start) (last := last) (pos := p + 1) (handed := p) (out := false) (loops := loops1) (inner := some 0) (frames := fB 16 p :: fP p out cnt :: frames) (weight := a + 1 + 1) (seen := s5) (k := 34) (.inl rfl)
          have go := Goes.one rfl e1 (.one rfl e2 (.one rfl e5 (.one rfl e6 (.one rfl step_branch_yes (.one rfl (step_poss_yes (by omega) hc (by omega)) (.refl (k := 0)))))))
          have rest := ih r (by simp at hl ⊢; omega) (p + 1) (cnt + 1) s6 out hd' (by omega)
          revert rest
          cases close r with
          | some q =>
            rintro ⟨s7, g⟩
            exact ⟨s7, (go.trans g).le (by simp; omega)⟩
          | none =>
            rintro ⟨s7, x, y, z, g⟩
            exact ⟨s7, x, y, z, (go.trans g).le (by simp; omega)⟩
end
end Mine
namespace Mine
open PySem.Sre

theorem find_len : ∀ (l : List Nat) (x : List Nat × List Nat), find l = some x → x.1.length + x.2.length + 2 ≤ l.length ∧ ∃ q, l = x.1 ++ q ++ x.2 ∧ 2 ≤ q.length
  | [], x, h => by cases h
  | c :: r, x, h => by
    unfold find at h
    split at h
    · rename_i r' hr
      cases h
      split at hr
      · rename_i h34
        obtain ⟨a, ha, h1⟩ := close_suffix _ r (Nat.le_refl _) r' hr
        refine ⟨?_, c :: a, by simp [ha], by simp; omega⟩
        rw [ha]; simp; omega
      · cases hr
    · cases hf : find r with
      | none => rw [hf] at h; cases h
      | some y =>
        rw [hf] at h
        cases h
        obtain ⟨h1, q, hq, h2⟩ := find_len r y hf
        refine ⟨by simp; omega, q, ?_, h2⟩
        simp only [List.cons_append]
        rw [← hq]
theorem find_short {l : List Nat} (h : l.length < 2) : find l = none := by
  cases hf : find l with
  | none => rfl
  | some x => have := (find_len l x hf).1; omega

section
variable {text : Array Nat}

def cost (n : Nat) : Nat := (n + 1) * (12 * n + 40)
theorem cost_succ (n : Nat) : cost n + (12 * n + 40) ≤ cost (n + 1) := by
  unfold cost
  have : (n + 1) * (12 * n + 40) ≤ (n + 1) * (12 * (n + 1) + 40) := Nat.mul_le_mul_left _ (by omega)
  have h2 : (n + 1 + 1) * (12 * (n + 1) + 40) = (n + 1) * (12 * (n + 1) + 40) + (12 * (n + 1) + 40) := by rw [Nat.add_mul (n + 1) 1, Nat.one_mul]
  omega

theorem search_goes : ∀ (l : List Nat) (s : Nat) (seen : Seen) (out : Bool), text.toList.drop s = l → s ≤ text.size →
    match find l with
    | some x => ∃ m, Goes (cost l.length) (st text text.size s text.size 9 s s out #[] none [fS s out] 1 none seen none) m ∧ m.outcome = some .matched ∧ m.start = s + x.1.length ∧ m.handed = text.size - x.2.length
    | none => ∃ m, Goes (cost l.length) (st text text.size s text.size 9 s s out #[] none [fS s out] 1 none seen none) m ∧ m.outcome = some .failed
  | [], s, seen, out, hd, hs => by
    have hp := drop_nil hd
    obtain ⟨s1, e1⟩ := step_lit_no (text := text) (n := text.size) (start := s) (last := text.size) (pos := s) (handed := s) (out := out) (loops := #[]) (inner := none) (frames := [fS s out]) (weight := 1) (seen := seen) (k := 9) (.inl rfl) (fun h => hp h.1)
    exact ⟨_, (Goes.one rfl e1 (.one rfl (step_start_end hp) (.one rfl step_out (.refl (k := 0))))).le (by decide), rfl⟩
  | c :: r, s, seen, out, hd, hs => by
    obtain ⟨hp, hcp, hd', hr⟩ := drop_at hd
    have hc := cost_succ r.length
    -- a place that falls: go on at the next
    have next : ∀ (seen₁ : Seen) (k : Nat), k ≤ 12 * r.length + 38 →
        (∃ pc pos handed o, Goes k (st text text.size s text.size 9 s s out #[] none [fS s out] 1 none seen none) (st text text.size s text.size pc pos handed o #[] none [fS s out] 1 (some false) seen₁ none)) →
        match (find r).map fun x => (c :: x.1, x.2) with
        | some x => ∃ m, Goes (cost (c :: r).length) (st text text.size s text.size 9 s s out #[] none [fS s out] 1 none seen none) m ∧ m.outcome = some .matched ∧ m.start = s + x.1.length ∧ m.handed = text.size - x.2.length
        | none => ∃ m, Goes (cost (c :: r).length) (st text text.size s text.size 9 s s out #[] none [fS s out] 1 none seen none) m ∧ m.outcome = some .failed := by
      rintro seen₁ k hk ⟨pc, pos, handed, o, g⟩
      have g2 := g.trans (Goes.one rfl (step_start_no (text := text) (n := text.size) (start := s) (pc := pc) (pos := pos) (handed := handed) (out := o) (seen := seen₁) (s := s) (o := out) hp) (.refl (k := 0)))
      have rest := search_goes r (s + 1) seen₁ false hd' (by omega)
      rw [List.length_cons]
      revert rest
      cases hf : find r with
      | none =>
        rintro ⟨m, g3, h3⟩
        exact ⟨m, (g2.trans g3).le (by omega), h3⟩
      | some x =>
        rintro ⟨m, g3, h3, h4, h5⟩
        refine ⟨m, (g2.trans g3).le (by omega), h3, ?_, h5⟩
        rw [h4]; simp; omega
    unfold find
    by_cases h34 : c = 34
    · rw [if_pos h34]
      obtain ⟨s1, e1⟩ := step_lit_yes (text := text) (n := text.size) (start := s) (last := text.size) (pos := s) (handed := s) (out := out) (loops := #[]) (inner := none) (frames := [fS s out]) (weight := 1) (seen := seen) (k := 9) (.inl rfl) hp (hcp.trans h34)
      obtain ⟨s2, e2⟩ := step_poss (text := text) (n := text.size) (start := s) (last := text.size) (pos := s + 1) (handed := s) (out := out) (frames := [fS s out]) (weight := 1) (seen := s1) (by omega)
      have body := loop_goes (text := text) (start := s) (last := text.size) (frames := [fS s out]) (a := 1) (by omega) _ r (Nat.le_refl _) (s + 1) 0 s2 out hd' (Int.le_refl _)
      revert body
      cases close r with
      | none =>
        rintro ⟨s3, x, y, z, g⟩
        exact next s3 (12 * r.length + 12 + 1 + 1) (by omega) ⟨x, y, z, out, Goes.one rfl e1 (.one rfl e2 g)⟩
      | some r' =>
        rintro ⟨s3, g⟩
        dsimp only
        refine ⟨_, (Goes.one rfl e1 (.one rfl e2 (g.trans (.one rfl step_start_yes (.one rfl step_out (.refl (k := 0))))))).le ?_, rfl, rfl, rfl⟩
        rw [List.length_cons]; omega
    · rw [if_neg h34]
      obtain ⟨s1, e1⟩ := step_lit_no (text := text) (n := text.size) (start := s) (last := text.size) (pos := s) (handed := s) (out := out) (loops := #[]) (inner := none) (frames := [fS s out]) (weight := 1) (seen := seen) (k := 9) (.inl rfl) (fun h => h34 (hcp.symm.trans h.2))
      exact next s1 1 (by omega) ⟨_, _, _, _, Goes.one rfl e1 .refl⟩

theorem forSearch_goes {s : Nat} (hs : s ≤ text.size) :
    match find (text.toList.drop s) with
    | some x => ∃ m, Goes (cost text.size) (forSearch code text 0 s text.size false) m ∧ m.outcome = some .matched ∧ m.start = s + x.1.length ∧ m.handed = text.size - x.2.length
    | none => ∃ m, Goes (cost text.size) (forSearch code text 0 s text.size false) m ∧ m.outcome = some .failed := by
  have hl : (text.toList.drop s).length = text.size - s := by rw [List.length_drop, Array.length_toList]
  have hle : cost (text.toList.drop s).length ≤ cost text.size := by
    rw [hl]; unfold cost; exact Nat.mul_le_mul (by omega) (by omega)
  by_cases h2 : text.size - s < 2
  · rw [find_short (by rw [hl]; exact h2)]
    have e : forSearch code text 0 s text.size false = st text text.size s 0 9 s s true #[] none [] 0 (some false) (({} : Seen).add 14) none := by
      show (if (decide (s > text.size) || decide (text.size - s < 2)) = true then _ else _) = _
      rw [if_pos (by simp [h2])]; rfl
    rw [e]
    refine ⟨_, (Goes.one rfl step_out (.refl (k := 0))).le (by unfold cost; have : 1 * 1 ≤ (text.size + 1) * (12 * text.size + 40) := Nat.mul_le_mul (by omega) (by omega); omega), rfl⟩
  · have e : forSearch code text 0 s text.size false = st text text.size s text.size 9 s s true #[] none [fS s true] 1 none (({} : Seen).add 14) none := by
      show (if (decide (s > text.size) || decide (text.size - s < 2)) = true then _ else _) = _
      rw [if_neg (by simp; omega)]
      rfl
    rw [e]
    have main := search_goes (text := text) _ s (({} : Seen).add 14) true rfl hs
    revert main
    cases find (text.toList.drop s) with
    | none => rintro ⟨m, g, h⟩; exact ⟨m, g.le hle, h⟩
    | some x => rintro ⟨m, g, h⟩; exact ⟨m, g.le hle, h⟩
end
end Mine
namespace Mine
open PySem PySem.W PySem.Calls

namespace FC
theorem slot_count : Slot "bytes" "count" "bytes.count" :=
  .of (owner := "bytes") (n := "count") (by rw [typeLookup_type, builtinLookup_eq_fast]; kernel_rfl) (by decide +kernel) (by decide +kernel) (by decide +kernel)
    (by first | exact .inl (by decide +kernel) | exact .inr (by decide +kernel)) (by rw [isSubtype_type]; kernel_rfl)
theorem type_count : typeOf (.builtin "bytes.count") = pure (.type "method_descriptor") := by show builtinType _ = _; rw [builtinType_eq_fast]; kernel_rfl
theorem entry_count : entryFor table "bytes.count" = some Builtin.«bytes.count» := entryFor_of_tree (by kernel_rfl)
theorem args_count (a b : Value) : argsOk "bytes.count" ⟨[a, b], []⟩ := by
  unfold argsOk; kernel_rfl
theorem slot_join : Slot "bytes" "join" "bytes.join" :=
  .of (owner := "bytes") (n := "join") (by rw [typeLookup_type, builtinLookup_eq_fast]; kernel_rfl) (by decide +kernel) (by decide +kernel) (by decide +kernel)
    (by first | exact .inl (by decide +kernel) | exact .inr (by decide +kernel)) (by rw [isSubtype_type]; kernel_rfl)
theorem type_join : typeOf (.builtin "bytes.join") = pure (.type "method_descriptor") := by show builtinType _ = _; rw [builtinType_eq_fast]; kernel_rfl
theorem entry_join : entryFor table "bytes.join" = some Builtin.«bytes.join» := entryFor_of_tree (by kernel_rfl)
theorem args_join (a b : Value) : argsOk "bytes.join" ⟨[a, b], []⟩ := by
  unfold argsOk; kernel_rfl
theorem plainAttrs_pat : PlainAttrs "re.Pattern" := by
  first
    | exact ⟨⟨"object.__getattribute__", by rw [typeLookup_type, builtinLookup_eq_fast]; kernel_rfl, by decide +kernel⟩, by rw [typeLookup_type, builtinLookup_eq_fast]; kernel_rfl⟩
    | exact ⟨⟨"re.Pattern.__getattribute__", by rw [typeLookup_type, builtinLookup_eq_fast]; kernel_rfl, by decide +kernel⟩, by rw [typeLookup_type, builtinLookup_eq_fast]; kernel_rfl⟩
theorem slot_sub : Slot "re.Pattern" "sub" "re.Pattern.sub" :=
  .of (owner := "re.Pattern") (n := "sub") (by rw [typeLookup_type, builtinLookup_eq_fast]; kernel_rfl) (by decide +kernel) (by decide +kernel) (by decide +kernel)
    (by first | exact .inl (by decide +kernel) | exact .inr (by decide +kernel)) (by rw [isSubtype_type]; kernel_rfl)
theorem type_sub : typeOf (.builtin "re.Pattern.sub") = pure (.type "method_descriptor") := by show builtinType _ = _; rw [builtinType_eq_fast]; kernel_rfl
theorem entry_sub : entryFor table "re.Pattern.sub" = some Builtin.«re.Pattern.sub» := entryFor_of_tree (by kernel_rfl)
theorem entry_subloop : entryFor table "re.Pattern.sub.loop" = some Builtin.«re.Pattern.sub.loop» := entryFor_of_tree (by kernel_rfl)
theorem args_sub (a b c : Value) : argsOk "re.Pattern.sub" ⟨[a, b, c], []⟩ := by
  unfold argsOk; kernel_rfl
theorem plain_subloop : plainId "re.Pattern.sub.loop" = true := by decide +kernel
theorem no_call : typeLookup (.type "bytes") "__call__" = pure none := by rw [typeLookup_type, builtinLookup_eq_fast]; kernel_rfl
end FC
end Mine
namespace Mine
open PySem PySem.W PySem.Calls PySem.Builtin

/- count of one octet -/
theorem occ_fold (b : Array UInt8) (x : UInt8) (k : Nat) (hk : k ≤ b.size) :
    ∃ l j, ((List.range k).map (· + 0)).foldl (fun (acc : List Nat × Nat) (i : Nat) => if (decide (i ≥ acc.2) && b.extract i (i + (#[x] : Array UInt8).size) == #[x]) = true then (i :: acc.1, i + (#[x] : Array UInt8).size) else acc) ([], 0) = (l, j) ∧ j ≤ k ∧ l.length = (b.toList.take k).count x := by
  induction k with
  | zero => exact ⟨[], 0, rfl, Nat.le_refl _, rfl⟩
  | succ k ih =>
    obtain ⟨l, j, e, hj, hl⟩ := ih (by omega)
    rw [List.range_succ, List.map_append, List.foldl_append, e]
    have hx : b.extract k (k + 1) = #[b[k]'(by omega)] := by
      apply Array.ext'
      rw [Array.toList_extract]
      simp [List.extract_eq_take_drop, List.take_one, List.head?_drop, show k < b.size by omega]
    have ht : b.toList.take (k + 1) = b.toList.take k ++ [b[k]'(by omega)] := by
      rw [List.take_add_one]; simp [show k < b.size by omega]
    rw [ht, List.count_append]
    show ∃ l' j', (if (decide (k + 0 ≥ j) && b.extract (k + 0) (k + 0 + 1) == #[x]) = true then ((k + 0) :: l, k + 0 + 1) else (l, j)) = (l', j') ∧ _
    rw [Nat.add_zero, hx]
    by_cases h : b[k]'(by omega) = x
    · refine ⟨_, _, if_pos ?_, Nat.le_refl _, ?_⟩
      · rw [h]; simp; exact hj
      · rw [h]; simp [hl]
    · refine ⟨_, _, if_neg ?_, by omega, ?_⟩
      · simp [h]
      · rw [hl]; simp [h]
theorem occ_count (b : Array UInt8) (x : UInt8) : (Bytes.occurrences b #[x] 0 b.size).length = b.toList.count x := by
  obtain ⟨l, j, e, _, hl⟩ := occ_fold b x b.size (Nat.le_refl _)
  rw [List.take_of_length_le (by simp)] at hl
  unfold Bytes.occurrences
  show (((List.range (b.size + 1 - (0 + 1))).map (· + 0)).foldl _ ([], 0)).1.reverse.length = _
  rw [show b.size + 1 - (0 + 1) = b.size by omega, List.length_reverse]
  rw [← hl]
  exact congrArg (fun x : List Nat × Nat => x.1.length) e

section
variable {prog : Program} {w : World} {A : Around} {E : Value → Shared → Prop} {s : Shared}
theorem meets_count (b : Array UInt8) (x : UInt8) (t u : Tok) :
    Meets («bytes.count» ⟨[.bytes b t, .bytes #[x] u], []⟩) (fun _ R s => ∀ t' k, R (.ok (.ret (.int (b.toList.count x : Nat) t'))) { s with toks := k }) := by
  refine .of_wp fun prog w A R s hS => ?_
  show wpAny _ _ (Bytes.countM .bytes _) _ _ s
  unfold Bytes.countM
  refine wpAny_bind ?_
  unfold Bytes.searchArgs
  refine wpAny_bind (wpAny_of_eq (a := (.bytes b t, [.bytes #[x] u])) rfl ?_)
  refine wpAny_bind (wpAny_of_eq (a := none) rfl ?_)
  refine wpAny_bind (wpAny_of_eq (a := none) rfl ?_)
  refine wpAny_bind ?_
  refine wpAny_of_eq KBy.buffer_eq ?_
  refine wpAny_bind (wpAny_pure ?_)
  refine wpAny_bind (wpAny_of_eq (a := b) rfl ?_)
  refine wpAny_pure ?_
  dsimp only
  simp only [Option.getD_none]
  rw [if_neg (show ¬ (((b.size : Nat) : Int) < 0) by omega), if_neg (show ¬ ((0 : Int) < 0) by omega), Int.min_self]
  by_cases h0 : (b.size : Int) - 0 < ((#[x] : Array UInt8).size : Nat)
  · rw [if_pos h0]
    have : b = #[] := by
      have : b.size = 0 := by simp at h0; omega
      exact Array.eq_empty_of_size_eq_zero this
    subst this
    exact wpAny_bind (wpAny_mkInt (wpAny_pure ⟨_, rfl, hS _ _⟩))
  · rw [if_neg h0]
    show wpAny _ _ (retInt (Bytes.occurrences b #[x] (0 : Int).toNat ((b.size : Nat) : Int).toNat).length) _ _ _
    rw [show (0 : Int).toNat = 0 from rfl, Int.toNat_natCast, occ_count]
    exact wpAny_bind (wpAny_mkInt (wpAny_pure ⟨_, rfl, hS _ _⟩))
theorem call_count {b : Array UInt8} {x : UInt8} {t u : Tok} {Q : Value → Shared → Prop} (h : ∀ t' k, Q (.int (b.toList.count x : Nat) t') { s with toks := k }) :
    wpAny (model prog w) A (call (.builtin "bytes.count") [.bytes b t, .bytes #[x] u]) Q E s :=
  call_meets FC.slot_count (typeIs_bytes _ _ _) FC.entry_count (FC.args_count _ _) (meets_count b x t u) h
end
end Mine
namespace Mine
open PySem PySem.W PySem.Calls PySem.Builtin

def BytesAre : List Value → List (Array UInt8) → Prop
  | [], [] => True
  | v :: vs, b :: bs => (∃ t, v = .bytes b t) ∧ BytesAre vs bs
  | _, _ => False
theorem BytesAre.length : ∀ {vs : List Value} {bs : List (Array UInt8)}, BytesAre vs bs → vs.length = bs.length
  | [], [], _ => rfl
  | _ :: _, _ :: _, h => by rw [List.length_cons, List.length_cons, h.2.length]
  | [], _ :: _, h => h.elim
  | _ :: _, [], h => h.elim
theorem BytesAre.at : ∀ {vs : List Value} {bs : List (Array UInt8)}, BytesAre vs bs → ∀ i, i < vs.length → ∃ b t, bs[i]? = some b ∧ vs[i]? = some (.bytes b t)
  | v :: vs, b :: bs, h, 0, _ => by obtain ⟨⟨t, rfl⟩, _⟩ := h; exact ⟨b, t, rfl, rfl⟩
  | v :: vs, b :: bs, h, i + 1, hi => by
    obtain ⟨c, t, h1, h2⟩ := h.2.at i (by simpa using hi)
    exact ⟨c, t, by simpa using h1, by simpa using h2⟩
  | [], [], _, _, hi => absurd hi (Nat.not_lt_zero _)
  | [], _ :: _, h, _, _ => h.elim
  | _ :: _, [], h, _, _ => h.elim
theorem BytesAre.snoc : ∀ {vs : List Value} {bs : List (Array UInt8)}, BytesAre vs bs → ∀ {b : Array UInt8} {t : Tok}, BytesAre (vs ++ [.bytes b t]) (bs ++ [b])
  | [], [], _, _, t => ⟨⟨t, rfl⟩, trivial⟩
  | _ :: _, _ :: _, h, _, _ => ⟨h.1, h.2.snoc⟩
  | [], _ :: _, h, _, _ => h.elim
  | _ :: _, [], h, _, _ => h.elim
/-- all of them, one behind the other -/
def glue (bs : List (Array UInt8)) : Array UInt8 := (bs.map (·.toList)).flatten.toArray
theorem glue_size (bs : List (Array UInt8)) : (glue bs).size = (bs.map (·.size)).sum := by
  unfold glue
  rw [List.size_toArray, List.length_flatten, List.map_map]; rfl
theorem glue_snoc (bs : List (Array UInt8)) (b : Array UInt8) : glue (bs ++ [b]) = glue bs ++ b := by
  apply Array.ext'
  simp [glue]
theorem joined_glue (bs : List (Array UInt8)) : Bytes.joined #[] bs = glue bs := by
  have key : ∀ (bs : List (Array UInt8)) (k : Nat) (acc : Array UInt8), (bs.zipIdx k).foldl (fun out (x : Array UInt8 × Nat) => (if x.2 > 0 then out ++ (#[] : Array UInt8) else out) ++ x.1) acc = acc ++ glue bs := by
    intro bs
    induction bs with
    | nil => intro k acc; simp [glue]
    | cons b bs ih =>
      intro k acc
      rw [List.zipIdx_cons, List.foldl_cons, ih]
      dsimp only
      rw [Array.append_empty, ite_self]
      apply Array.ext'
      simp [glue]
  have := key bs 0 #[]
  rw [Array.empty_append] at this
  exact this
theorem take_buffer {id : String} {b : Array UInt8} {t : Tok} : Bytes.takeBufferQuiet? id (.bytes b t) 0 = pure (some (b, none)) := by
  unfold Bytes.takeBufferQuiet? Bytes.takeBuffer?
  rw [KBy.special_eq KBy.look_buffer, KBy.own_buffer]
  have e : ∀ full, Bytes.buffer? id (.bytes b t) full = pure (some b) := by
    intro full
    unfold Bytes.buffer?
    rw [KBy.special_eq KBy.look_buffer, KBy.own_buffer, KBy.own_release]
    kernel_rfl
  simp only [e]
  kernel_rfl
theorem sizes_fold : ∀ (bs : List (Array UInt8)) (k : Nat), bs.foldl (fun x y => x + y.size) k = k + (bs.map (·.size)).sum
  | [], k => by simp
  | b :: bs, k => by rw [List.foldl_cons, sizes_fold bs]; simp; omega

section
variable {M : Model} {prog : Program} {w : World} {A : Around} {E : Value → Shared → Prop} {s : Shared}
theorem joinLetGo_ok : ∀ (vs : List Value) (keep : List Value) (s : Shared) (Q : Unit → Shared → Prop), Q () s → wpAny M A (Bytes.joinLetGo (vs.map fun v => (v, none)) keep) Q E s
  | [], _, _, _, h => wpAny_pure h
  | v :: vs, keep, s, Q, h => by
    rw [List.map_cons]
    unfold Bytes.joinLetGo
    exact wpAny_bind (wpAny_letGo (joinLetGo_ok vs keep s Q h))


def JoinI (vs : List Value) (bs : List (Array UInt8)) (s : Shared) (rest : List Nat) (r : Array (Array UInt8) × List (Value × Option Value)) (s' : Shared) : Prop :=
  s' = s ∧ ∃ i, rest = List.range' i (vs.length - i) ∧ i ≤ vs.length ∧ r.1.toList = bs.take i ∧ r.2 = (vs.take i).map fun v => (v, none)
theorem onHeap_no {vs : List Value} {bs : List (Array UInt8)} (hb : BytesAre vs bs) (i : Nat) : (((vs.take i).map fun v => (v, (none : Option Value))).any fun x => x.1.onHeap) = false := by
  rw [List.any_eq_false]
  intro x hx
  obtain ⟨v, hv, rfl⟩ := List.mem_map.1 hx
  obtain ⟨j, hj, e⟩ := List.mem_iff_getElem.1 (List.mem_of_mem_take hv)
  obtain ⟨b, t, _, h2⟩ := hb.at j hj
  rw [List.getElem?_eq_getElem hj, e] at h2
  cases h2
  exact Bool.false_ne_true
theorem meets_join {l : Addr} {vs : List Value} {bs : List (Array UInt8)} {t : Tok} (hb : BytesAre vs bs) :
    Meets («bytes.join» ⟨[.bytes #[] t, .ref l], []⟩) (fun _ R s => (∃ n, s.heap.get? l = some { cls := .type "list", data := .seq vs.toArray n }) ∧ (bs.map (·.size)).sum ≤ sizeLine ∧ ∀ t' k, R (.ok (.ret (.bytes (glue bs) t'))) { s with toks := k }) := by
  refine .of_wp fun prog w A R s hS => ?_
  obtain ⟨⟨n, ho⟩, hsz, hR⟩ := hS
  have hT : s.TypeIs (.ref l) "list" := ⟨_, ho, rfl⟩
  have hlen := hb.length
  show wpAny _ _ (Bytes.joinM .bytes _) _ _ s
  unfold Bytes.joinM
  refine wpAny_bind (wpAny_of_eq (a := (.bytes #[] t, .ref l)) rfl ?_)
  refine bm_if_true rfl ?_
  refine wpAny_bind ?_
  unfold Bytes.joinItems
  refine wpAny_bind (wpAny_typeOf hT ?_)
  refine bm_if_true (by decide) ?_
  refine wpAny_pure ?_
  refine wpAny_bind (wpAny_seqItems ho rfl ?_)
  refine bm_if_true rfl ?_
  have one : ∀ x, vs = [x] → ∃ b u, x = .bytes b u ∧ bs = [b] := by
    rintro x rfl
    match bs, hb with
    | [b], ⟨⟨u, e⟩, _⟩ => exact ⟨b, u, e, rfl⟩
  match vs, one with
  | [x], one =>
    obtain ⟨b, u, rfl, rfl⟩ := one x rfl
    refine wpAny_bind (wpAny_typeOf (typeIs_bytes _ _ _) ?_)
    refine bm_if_true (by decide) ?_
    refine wpAny_bind (wpAny_rule ?_)
    refine wpAny_pure ⟨_, rfl, ?_⟩
    have e : glue [b] = b := by apply Array.ext'; simp [glue]
    have := hR u s.toks
    rw [e] at this
    exact this
  | [], _ =>
    refine wpAny_bind ?_
    rw [Std.Legacy.Range.forIn_eq_forIn_range']
    refine wpAny_forIn_list _ (JoinI [] bs s) _ ?_ ?_ _ _ ⟨rfl, 0, by simp [Std.Legacy.Range.size], Nat.zero_le _, rfl, rfl⟩
    · rintro i rest ⟨parts, taken⟩ s' ⟨rfl, j, hr, hj, hp, ht⟩
      have hlt : j < ([] : List Value).length := by
        rcases Nat.lt_or_ge j ([] : List Value).length with h | h
        · exact h
        · rw [show ([] : List Value).length - j = 0 by omega] at hr; exact nomatch hr
      obtain ⟨rfl, hrest⟩ : i = j ∧ rest = List.range' (j + 1) (([] : List Value).length - (j + 1)) := by
        rw [show ([] : List Value).length - j = (([] : List Value).length - (j + 1)) + 1 by omega, List.range'_succ] at hr
        exact ⟨(List.cons.inj hr).1, (List.cons.inj hr).2⟩
      obtain ⟨b, u, hb1, hb2⟩ := hb.at i hlt
      have hx : ([] : List Value).toArray.getD i Value.none = .bytes b u := by
        rw [Array.getD_eq_getD_getElem?, List.getElem?_toArray, hb2]; rfl
      refine wpAny_bind (wpAny_seqItems ho rfl ?_)
      refine bm_if_false (by simp only at ht; subst ht; exact (Bool.false_or _).trans (onHeap_no hb i)) ?_
      refine wpAny_bind (wpAny_holding ?_)
      rw [hx]
      refine wpAny_of_eq take_buffer ?_
      refine wpAny_bind (wpAny_seqItems ho rfl ?_)
      refine bm_if_false (by simp) ?_
      refine wpAny_pure ⟨rfl, i + 1, hrest, hlt, ?_, ?_⟩
      · show (parts.push b).toList = _
        rw [Array.toList_push, hp, List.take_add_one, hb1]; rfl
      · show taken ++ [(Value.bytes b u, none)] = _
        simp only at ht
        rw [ht, List.take_add_one, hb2, List.map_append]; rfl
    · rintro ⟨parts, taken⟩ s' ⟨rfl, i, hr, hi, hp, ht⟩
      have hi' : i = ([] : List Value).length := by
        rcases Nat.lt_or_ge i ([] : List Value).length with h | h
        · rw [show ([] : List Value).length - i = (([] : List Value).length - (i + 1)) + 1 by omega, List.range'_succ] at hr; exact nomatch hr
        · omega
      subst hi'
      simp only at hp ht
      rw [List.take_of_length_le (by omega)] at hp ht
      refine wpAny_bind (wpAny_of_eq (a := (#[] : Array UInt8)) rfl ?_)
      refine bm_if_false ?_ ?_
      · rw [← Array.foldl_toList, hp, sizes_fold]
        show Bytes.tooLong (0 * _ + _) = false
        rw [Nat.zero_mul, Nat.zero_add]
        exact KBy.tooLong_not (by rw [← sizeLine_eq]; exact hsz)
      · rw [hp, joined_glue]
        refine wpAny_bind (wpAny_mkBytes ?_ (by rw [glue_size]; exact hsz))
        refine wpAny_bind (wpAny_holding (wpAny_point ?_))
        rw [ht]
        refine wpAny_bind (joinLetGo_ok _ _ _ _ ?_)
        exact wpAny_pure ⟨_, rfl, hR _ _⟩
  | x :: y :: r, _ =>
    refine wpAny_bind ?_
    rw [Std.Legacy.Range.forIn_eq_forIn_range']
    refine wpAny_forIn_list _ (JoinI (x :: y :: r) bs s) _ ?_ ?_ _ _ ⟨rfl, 0, by simp [Std.Legacy.Range.size], Nat.zero_le _, rfl, rfl⟩
    · rintro i rest ⟨parts, taken⟩ s' ⟨rfl, j, hr, hj, hp, ht⟩
      have hlt : j < (x :: y :: r : List Value).length := by
        rcases Nat.lt_or_ge j (x :: y :: r : List Value).length with h | h
        · exact h
        · rw [show (x :: y :: r : List Value).length - j = 0 by omega] at hr; exact nomatch hr
      obtain ⟨rfl, hrest⟩ : i = j ∧ rest = List.range' (j + 1) ((x :: y :: r : List Value).length - (j + 1)) := by
        rw [show (x :: y :: r : List Value).length - j = ((x :: y :: r : List Value).length - (j + 1)) + 1 by omega, List.range'_succ] at hr
        exact ⟨(List.cons.inj hr).1, (List.cons.inj hr).2⟩
      obtain ⟨b, u, hb1, hb2⟩ := hb.at i hlt
      have hx : (x :: y :: r : List Value).toArray.getD i Value.none = .bytes b u := by
        rw [Array.getD_eq_getD_getElem?, List.getElem?_toArray, hb2]; rfl
      refine wpAny_bind (wpAny_seqItems ho rfl ?_)
      refine bm_if_false (by simp only at ht; subst ht; exact (Bool.false_or _).trans (onHeap_no hb i)) ?_
      refine wpAny_bind (wpAny_holding ?_)
      rw [hx]
      refine wpAny_of_eq take_buffer ?_
      refine wpAny_bind (wpAny_seqItems ho rfl ?_)
      refine bm_if_false (by simp) ?_
      refine wpAny_pure ⟨rfl, i + 1, hrest, hlt, ?_, ?_⟩
      · show (parts.push b).toList = _
        rw [Array.toList_push, hp, List.take_add_one, hb1]; rfl
      · show taken ++ [(Value.bytes b u, none)] = _
        simp only at ht
        rw [ht, List.take_add_one, hb2, List.map_append]; rfl
    · rintro ⟨parts, taken⟩ s' ⟨rfl, i, hr, hi, hp, ht⟩
      have hi' : i = (x :: y :: r : List Value).length := by
        rcases Nat.lt_or_ge i (x :: y :: r : List Value).length with h | h
        · rw [show (x :: y :: r : List Value).length - i = ((x :: y :: r : List Value).length - (i + 1)) + 1 by omega, List.range'_succ] at hr; exact nomatch hr
        · omega
      subst hi'
      simp only at hp ht
      rw [List.take_of_length_le (by omega)] at hp ht
      refine wpAny_bind (wpAny_of_eq (a := (#[] : Array UInt8)) rfl ?_)
      refine bm_if_false ?_ ?_
      · rw [← Array.foldl_toList, hp, sizes_fold]
        show Bytes.tooLong (0 * _ + _) = false
        rw [Nat.zero_mul, Nat.zero_add]
        exact KBy.tooLong_not (by rw [← sizeLine_eq]; exact hsz)
      · rw [hp, joined_glue]
        refine wpAny_bind (wpAny_mkBytes ?_ (by rw [glue_size]; exact hsz))
        refine wpAny_bind (wpAny_holding (wpAny_point ?_))
        rw [ht]
        refine wpAny_bind (joinLetGo_ok _ _ _ _ ?_)
        exact wpAny_pure ⟨_, rfl, hR _ _⟩

theorem call_join {l : Addr} {vs : List Value} {bs : List (Array UInt8)} {t : Tok} {n : Nat} {Q : Value → Shared → Prop} (hb : BytesAre vs bs) (ho : s.heap.get? l = some { cls := .type "list", data := .seq vs.toArray n })
    (hsz : (bs.map (·.size)).sum ≤ sizeLine) (h : ∀ t' k, Q (.bytes (glue bs) t') { s with toks := k }) :
    wpAny (model prog w) A (call (.builtin "bytes.join") [.bytes #[] t, .ref l]) Q E s :=
  call_meets FC.slot_join (typeIs_bytes _ _ _) FC.entry_join (FC.args_join _ _) (meets_join hb) ⟨⟨n, ho⟩, hsz, h⟩
end
end Mine
namespace Mine
open PySem PySem.W PySem.Calls PySem.Builtin

/-- quoted strings taken out -/
def strip (l : List Nat) : List Nat :=
  match _h : find l with
  | none => l
  | some x => x.1 ++ strip x.2
termination_by l.length
decreasing_by have := (find_len l x _h).1; omega
theorem strip_none {l : List Nat} (h : find l = none) : strip l = l := by
  unfold strip
  split
  · rfl
  · rename_i x hx; rw [h] at hx; cases hx
theorem strip_some {l : List Nat} {x : List Nat × List Nat} (h : find l = some x) : strip l = x.1 ++ strip x.2 := by
  rw [strip]
  split
  · rename_i hx; rw [h] at hx; cases hx
  · rename_i y hx; rw [h] at hx; cases hx; rfl

section
variable {M : Model} {prog : Program} {w : World} {A : Around} {E : Value → Shared → Prop} {s : Shared}

theorem drive_ok : ∀ (turns : Nat) (m m' : Sre.M) (N : Nat) (Q : Sre.M → Shared → Prop), N + 1 ≤ 4 * turns → Sre.M.runFor N m = m' → m'.outcome.isSome = true → Q m' s → wpAny M A (Re.reDrive turns m) Q E s
  | 0, _, _, _, _, h, _, _, _ => absurd h (by omega)
  | turns + 1, m, m', N, Q, h, e, ho, hq => by
    unfold Re.reDrive
    by_cases h1 : (Sre.M.runFor 4 m).outcome.isSome = true
    · have e4 : Sre.M.runFor 4 m = m' := by
        rcases Nat.lt_or_ge 4 N with h4 | h4
        · have := runFor_add 4 (N - 4) m
          rw [show 4 + (N - 4) = N by omega, e, runFor_done h1] at this
          exact this.symm
        · have := runFor_add N (4 - N) m
          rw [show N + (4 - N) = 4 by omega, e, runFor_done ho] at this
          exact this
      refine bm_if_true h1 ?_
      refine wpAny_pure ?_
      show Q (Sre.M.runFor 4 m) s
      rw [e4]; exact hq
    · refine bm_if_false (Bool.eq_false_iff.2 h1) ?_
      refine wpAny_bind (wpAny_rule ?_)
      have h4 : 4 < N := by
        rcases Nat.lt_or_ge 4 N with h4 | h4
        · exact h4
        · have := runFor_add N (4 - N) m
          rw [show N + (4 - N) = 4 by omega, e, runFor_done ho] at this
          rw [this] at h1; exact absurd ho h1
      refine drive_ok turns _ m' (N - 4) Q (by omega) ?_ ho hq
      have := runFor_add 4 (N - 4) m
      rw [show 4 + (N - 4) = N by omega, e] at this
      exact this.symm

theorem cost_small {n : Nat} (h : n ≤ 1048576) : cost n + 1 ≤ 4 * 2 ^ 64 := by
  have : cost n ≤ (1048576 + 1) * (12 * 1048576 + 40) := Nat.mul_le_mul (by omega) (by omega)
  have h2 : (1048576 + 1) * (12 * 1048576 + 40) + 1 ≤ 4 * 2 ^ 64 := by decide
  omega
theorem toEnd_ok {m m' : Sre.M} {n : Nat} {Q : Option Sre.M → Shared → Prop} (hn : n ≤ 1048576) (g : Goes (cost n) m m') (hq : match m'.outcome with | some .matched => Q (some m') s | some .failed => Q none s | _ => False) : wpAny M A (Re.reRunToEnd m) Q E s := by
  obtain ⟨N, hN, e⟩ := g
  have ho : m'.outcome.isSome = true := by
    cases h : m'.outcome with
    | none => rw [h] at hq; exact hq.elim
    | some _ => rfl
  unfold Re.reRunToEnd
  refine wpAny_bind (drive_ok (2 ^ 64) m m' N _ (by have := cost_small hn; omega) e ho ?_)
  refine wpAny_bind (wpAny_forIn_list _ (fun _ _ s' => s' = s) _ ?_ ?_ _ _ rfl)
  · rintro i rest b s' rfl
    refine wpAny_ite ?_
    split
    · exact wpAny_bind (wpAny_rule (wpAny_pure rfl))
    · exact wpAny_pure rfl
  · rintro b s' rfl
    revert hq
    cases h : m'.outcome with
    | none => intro hq; exact hq.elim
    | some o =>
      cases o with
      | matched => intro hq; exact wpAny_pure hq
      | failed => intro hq; exact wpAny_pure hq
      | stuck _ => intro hq; exact hq.elim

/-- the pattern stands at P -/
def PatAt (h : Heap) (P C : Addr) : Prop :=
  ∃ o oc fs n items, h.get? P = some o ∧ o.data = .fields fs ∧ o.cls = .type "re.Pattern" ∧ o.dict = none ∧ Re.reRawNat (fs.getD 2 .none) = 0 ∧ fs.getD 5 .none = .ref C ∧ Re.reRawNat (fs.getD 6 .none) = 1 ∧
    h.get? C = some oc ∧ oc.data = .seq items n ∧ (items.map Re.reRawOf).map (·.toNat) = code
theorem PatAt.typeIs {P C : Addr} (h : PatAt s.heap P C) : s.TypeIs (.ref P) "re.Pattern" := by
  obtain ⟨o, oc, fs, n, items, h1, h2, h3, _⟩ := h
  exact ⟨o, h1, h3⟩
theorem PatAt.keepsBut {h h' : Heap} {P C : Addr} (x : PatAt h P C) (h1' : ∀ o, h.get? P = some o → h'.get? P = some o) (h2' : ∀ o, h.get? C = some o → h'.get? C = some o) : PatAt h' P C := by
  obtain ⟨o, oc, fs, n, items, h1, h2, h3, h4, h5, h6, h7, h8, h9⟩ := x
  exact ⟨o, oc, fs, n, items, h1' _ h1, h2, h3, h4, h5, h6, h7, h2' _ h8, h9⟩
theorem PatAt.keeps {h h' : Heap} {P C : Addr} (x : PatAt h P C) (hk : ∀ b o, h.get? b = some o → h'.get? b = some o) : PatAt h' P C := x.keepsBut (hk P) (hk C)
theorem PatAt.lt {h : Heap} {P C : Addr} (x : PatAt h P C) : P < h.objs.size ∧ C < h.objs.size := by
  obtain ⟨o, oc, fs, n, items, h1, h2, h3, h4, h5, h6, h7, h8, h9⟩ := x
  exact ⟨Heap.lt_size h1, Heap.lt_size h8⟩
theorem PatAt.noDict {h : Heap} {P C : Addr} (x : PatAt h P C) : ∃ o, h.get? P = some o ∧ o.dict = none := by
  obtain ⟨o, oc, fs, n, items, h1, h2, h3, h4, h5, h6, h7, h8, h9⟩ := x
  exact ⟨o, h1, h4⟩
def targetOf (P : Addr) (b : Array UInt8) (u : Tok) : Re.ReTarget :=
  { pattern := .ref P, string := .bytes b u, code := code, text := b.map (·.toNat), kind := 1, groups := 0, pos := 0, lim := (b.map (·.toNat)).size }
theorem whole_ok {P C : Addr} {b : Array UInt8} {u : Tok} {Q : Re.ReTarget → Shared → Prop} (hP : PatAt s.heap P C) (h : Q (targetOf P b u) s) : wpAny M A (Re.reWholeTarget (.ref P) (.bytes b u)) Q E s := by
  obtain ⟨o, oc, fs, n, items, h1, h2, h3, h4, h5, h6, h7, h8, h9, h10⟩ := hP
  unfold Re.reWholeTarget
  refine wpAny_bind ?_
  unfold fieldsOf
  refine wpAny_bind (wpAny_load h1 ?_)
  rw [h2]
  refine wpAny_pure ?_
  refine wpAny_bind ?_
  unfold Re.reTextOf
  refine wpAny_bind (wpAny_of_eq (a := none) rfl ?_)
  refine wpAny_bind (wpAny_of_eq KBy.quiet_eq ?_)
  refine wpAny_pure ?_
  refine bm_if_false (by rw [h7]; rfl) ?_
  refine bm_if_false (by rw [h7]; rfl) ?_
  refine wpAny_bind ?_
  unfold Re.reNoCollectionInside
  refine bm_if_true (by decide) ?_
  refine wpAny_bind (wpAny_of_eq KBy.isInstance_eq ?_)
  refine bm_if_false rfl ?_
  refine wpAny_pure ?_
  refine wpAny_bind ?_
  unfold Re.reRawItems
  rw [h6]
  refine wpAny_bind (wpAny_seqItems h8 h9 ?_)
  refine wpAny_pure ?_
  refine wpAny_pure ?_
  rw [h5]
  show Q { pattern := _, string := _, code := (items.map Re.reRawOf).map (·.toNat), text := _, kind := _, groups := _, pos := _, lim := _ } s
  rw [h10]
  exact h
theorem literal_ok {t : Tok} {b : Array UInt8} {Q : Unit → Shared → Prop} (h : Q () s) : wpAny M A (Re.reLiteralCannotBeTurned (.bytes b t)) Q E s := by
  unfold Re.reLiteralCannotBeTurned
  refine wpAny_bind (wpAny_of_eq (a := none) rfl ?_)
  refine bm_if_true rfl ?_
  refine wpAny_bind (wpAny_of_eq KBy.isInstance_eq ?_)
  refine bm_if_false rfl ?_
  exact wpAny_pure h
end
end Mine
namespace Mine
open PySem PySem.W PySem.Calls PySem.Builtin

/-- quoted strings taken out of octets -/
def bare (b : Array UInt8) : Array UInt8 := ((strip (b.toList.map (·.toNat))).map (·.toUInt8)).toArray

theorem back8 (x : UInt8) : x.toNat.toUInt8 = x := by
  apply UInt8.toNat_inj.1
  show (UInt8.ofNat x.toNat).toNat = x.toNat
  rw [UInt8.toNat_ofNat']
  exact Nat.mod_eq_of_lt x.toNat_lt
theorem back_list (l : List UInt8) : (l.map (·.toNat)).map (·.toUInt8) = l := by
  rw [List.map_map]
  conv => rhs; rw [← List.map_id l]
  exact List.map_congr_left fun x _ => back8 x
theorem strip_len : ∀ (k : Nat) (l : List Nat), l.length ≤ k → (strip l).length ≤ l.length
  | k, l, hk => by
    cases h : find l with
    | none => rw [strip_none h]; exact Nat.le_refl _
    | some x =>
      rw [strip_some h]
      have h1 := (find_len l x h).1
      match k with
      | 0 => omega
      | k + 1 =>
        have := strip_len k x.2 (by omega)
        rw [List.length_append]; omega
theorem bare_size (b : Array UInt8) : (bare b).size ≤ b.size := by
  unfold bare
  rw [List.size_toArray, List.length_map]
  have := strip_len _ (b.toList.map (·.toNat)) (Nat.le_refl _)
  simpa using this

section
variable {M : Model} {prog : Program} {w : World} {A : Around} {E : Value → Shared → Prop} {s : Shared}

theorem slice_ok {b : Array UInt8} {i e : Nat} {Q : Value → Shared → Prop} (hb : b.size ≤ sizeLine) (h : Q (.bytes (b.extract i e) s.toks) { s with toks := s.toks + 1 }) :
    wpAny M A (Re.reSlice (b.map (·.toNat)) 1 i e) Q E s := by
  unfold Re.reSlice
  refine bm_if_false rfl ?_
  have he : ((b.map (·.toNat)).extract i e).map (·.toUInt8) = b.extract i e := by
    apply Array.ext'
    rw [Array.toList_map, Array.toList_extract, Array.toList_map, Array.toList_extract]
    rw [List.extract_eq_take_drop, List.extract_eq_take_drop, ← List.map_drop, ← List.map_take, back_list]
  rw [he]
  refine wpAny_mkBytes h ?_
  rw [Array.size_extract]; omega

theorem if_yes {α : Type} {c : Prop} [Decidable c] {a b : Sem α} {Q : α → Shared → Prop} (hc : c) (h : wpAny M A a Q E s) : wpAny M A (if c then a else b) Q E s := by rw [if_pos hc]; exact h
theorem if_not {α : Type} {c : Prop} [Decidable c] {a b : Sem α} {Q : α → Shared → Prop} (hc : ¬ c) (h : wpAny M A b Q E s) : wpAny M A (if c then a else b) Q E s := by rw [if_neg hc]; exact h
theorem next_ok {P : Addr} {b : Array UInt8} {u : Tok} {p : Nat} {Q : Option Sre.M → Shared → Prop} (hb : b.size ≤ 1048576) (hp : p ≤ b.size)
    (h : match find ((b.toList.map (·.toNat)).drop p) with
      | some x => ∀ m : Sre.M, m.start = p + x.1.length → m.handed = b.size - x.2.length → Q (some m) s
      | none => Q none s) : wpAny M A (Re.reNextFound (targetOf P b u) (p : Int).toNat false) Q E s := by
  have hts : (b.map (·.toNat)).size = b.size := Array.size_map ..
  have main := forSearch_goes (text := b.map (·.toNat)) (s := p) (by omega)
  rw [Array.toList_map] at main
  unfold Re.reNextFound
  rw [Int.toNat_natCast]
  dsimp only [targetOf]
  generalize Sre.forSearch code (b.map (·.toNat)) 0 p (b.map (·.toNat)).size false = m₀ at main ⊢
  generalize (b.map (·.toNat)).size = z at main hts
  revert main h
  cases find ((b.toList.map (·.toNat)).drop p) with
  | none =>
    rintro h ⟨m', g, ho⟩
    refine toEnd_ok (n := z) (by omega) g ?_
    rw [ho]; exact h
  | some x =>
    rintro h ⟨m', g, ho, hs, hh⟩
    refine toEnd_ok (n := z) (by omega) g ?_
    rw [ho]; exact h m' hs (by rw [hh, hts])

/-- what the loop leaves as it stood -/
def Spares (L : Addr) (h h' : Heap) : Prop := ∀ b o, b ≠ L → h.get? b = some o → h'.get? b = some o

theorem push_ok {L : Addr} {vs : List Value} {n : Nat} {v : Value} {Q : Unit → Shared → Prop} (ho : s.heap.get? L = some { cls := .type "list", data := .seq vs.toArray n }) (hn : vs.length ≤ 10000000)
    (h : ∀ h' n', Spares L s.heap h' → h'.get? L = some { cls := .type "list", data := .seq (vs ++ [v]).toArray n' } → Q () { s with heap := h' }) : wpAny M A (updateSeq L (·.push v)) Q E s := by
  refine wpAny_updateSeq ho rfl (h _ (n + 1) ?_ ?_) (by rw [sizeLine_eq, List.size_toArray]; omega) (by rw [sizeLine_eq, Array.size_push, List.size_toArray]; omega)
  · intro b o hb e
    rw [Heap.get?_update_other _ _ (Ne.symm hb)]; exact e
  · have := Heap.get?_update_self (Obj.mapSeq (·.push v)) ho rfl
    rw [this]
    unfold Obj.mapSeq
    simp

theorem extract_drop {b : Array UInt8} {i : Nat} {a : List Nat} {r : List Nat} (h : (b.toList.map (·.toNat)).drop i = a ++ r) : b.extract i (i + a.length) = (a.map (·.toUInt8)).toArray := by
  apply Array.ext'
  rw [Array.toList_extract, List.extract_eq_take_drop, show i + a.length - i = a.length by omega]
  have e : (b.toList.drop i) = a.map (·.toUInt8) ++ r.map (·.toUInt8) := by
    rw [← List.map_append, ← h, ← List.map_drop, back_list]
  rw [e, List.take_append_of_le_length (by simp), List.take_of_length_le (by simp)]

theorem extract_all {b : Array UInt8} {i : Nat} : b.extract i b.size = (((b.toList.map (·.toNat)).drop i).map (·.toUInt8)).toArray := by
  apply Array.ext'
  rw [Array.toList_extract, List.extract_eq_take_drop, ← List.map_drop, back_list, List.take_of_length_le (by simp)]

theorem subloop_ok {P C L : Addr} {b : Array UInt8} {u t : Tok} {R : Result → Shared → Prop} (hb : b.size ≤ 1048576) (hPL : P ≠ L) (hCL : C ≠ L) :
    ∀ (k p n : Nat) (s : Shared) (vs : List Value) (bs : List (Array UInt8)) (m : Nat), b.size - p ≤ k → p ≤ b.size → PatAt s.heap P C → s.heap.get? L = some { cls := .type "list", data := .seq vs.toArray m } → BytesAre vs bs → vs.length ≤ 2 * p →
      (bs.map (·.size)).sum ≤ p →
      (∀ h' t' k', Spares L s.heap h' → R (.ok (.ret (.bytes (glue bs ++ ((strip ((b.toList.map (·.toNat)).drop p)).map (·.toUInt8)).toArray) t'))) { s with heap := h', toks := k' }) →
      codeAny (model prog w) A (.builtin "re.Pattern.sub.loop" ⟨[.ref P, .bytes b u, .bytes #[] t, rawInt 0, rawInt 0, rawInt n, rawInt p, rawInt p, .bool false, .ref L, .bool false], []⟩) R s := by
  intro k
  induction k using Nat.strongRecOn with
  | ind k ih =>
    intro p n s vs bs m hk hp hP hL hbs hvs hsum hR
    have hz : b.size ≤ sizeLine := by rw [sizeLine_eq]; omega
    have hts : (b.map (·.toNat)).size = b.size := Array.size_map ..
    refine codeAny_builtin FC.entry_subloop ?_
    rw [Around.under_plainId FC.plain_subloop _]
    show wpAny _ A.in1 (Re.reWholeTarget (.ref P) (.bytes b u) >>= _) _ _ s
    refine wpAny_bind (whole_ok hP ?_)
    refine bm_if_true rfl ?_
    refine wpAny_bind (literal_ok ?_)
    refine wpAny_bind ?_
    refine bm_if_false rfl ?_
    refine next_ok hb hp ?_
    cases hf : find ((b.toList.map (·.toNat)).drop p) with
    | none =>
      show wpAny _ _ _ _ _ _
      have hfin : ∀ (s₁ : Shared) (vs₁ : List Value) (bs₁ : List (Array UInt8)) (m₁ : Nat), (∀ h' t' k', Spares L s₁.heap h' → R (.ok (.ret (.bytes (glue bs₁) t'))) { s₁ with heap := h', toks := k' }) → BytesAre vs₁ bs₁ →
          s₁.heap.get? L = some { cls := .type "list", data := .seq vs₁.toArray m₁ } → (bs₁.map (·.size)).sum ≤ sizeLine → wpAny (model prog w) A.in1 (do
            let joiner ← Re.reSlice (b.map (·.toNat)) 1 0 0
            let text ← if ((← seqItems? (.ref L)).getD #[]).isEmpty then pure joiner
              else call (.builtin (if (1 : Nat) == 0 then "str.join" else "bytes.join")) [joiner, .ref L]
            if false then ret (← holding [text] do newTuple [text, ← mkInt n]) else ret text) (fun fin s' => match fin with | .done f => R (.ok f) s' | .again c' => c'.quiet = true ∧ codeAny (model prog w) A c' R s') (fun e s' => R (.error e) s') s₁ := by
        intro s₁ vs₁ bs₁ m₁ hR₁ hb₁ hL₁ hs₁
        refine wpAny_bind (slice_ok hz ?_)
        have e0 : b.extract 0 0 = #[] := by simp
        rw [e0]
        refine wpAny_bind (wpAny_seqItems hL₁ rfl ?_)
        by_cases hv : vs₁ = []
        · subst hv
          obtain rfl : bs₁ = [] := List.length_eq_zero_iff.mp hb₁.length.symm
          refine bm_if_true rfl ?_
          refine wpAny_bind (wpAny_pure ?_)
          refine wpAny_pure ?_
          have := hR₁ s₁.heap s₁.toks (s₁.toks + 1) (fun _ _ _ e => e)
          rw [show glue [] = #[] by simp [glue]] at this
          exact this
        · refine bm_if_false (by simpa using hv) ?_
          refine wpAny_bind ?_
          refine call_join hb₁ hL₁ hs₁ fun t' k' => ?_
          refine wpAny_pure ?_
          exact hR₁ s₁.heap t' k' (fun _ _ _ e => e)
      rw [strip_none hf] at hR
      by_cases hlt : p < b.size
      · refine if_yes (show (p : Int).toNat < (b.map (·.toNat)).size by rw [hts]; simpa using hlt) ?_
        refine wpAny_bind (slice_ok hz ?_)
        refine wpAny_bind (push_ok hL (by omega) fun h' n' hsp hL' => ?_)
        refine hfin _ _ (bs ++ [b.extract p (b.map (·.toNat)).size]) _ (fun h₂ t' k' hsp₂ => ?_) hbs.snoc hL' ?_
        · rw [glue_snoc]
          have e : b.extract p (b.map (·.toNat)).size = (((b.toList.map (·.toNat)).drop p).map (·.toUInt8)).toArray := by
            rw [hts]; exact extract_all
          rw [e]
          exact hR h₂ t' k' fun b' o hb' e' => hsp₂ b' o hb' (hsp b' o hb' e')
        · rw [List.map_append, List.sum_append, hts]
          have : (b.extract p b.size).size ≤ b.size - p := by rw [Array.size_extract]; omega
          simp only [List.map_cons, List.map_nil, List.sum_cons, List.sum_nil]
          rw [sizeLine_eq]; omega
      · refine if_not (show ¬ (p : Int).toNat < (b.map (·.toNat)).size by rw [hts]; simpa using hlt) ?_
        refine hfin s vs bs m (fun h₂ t' k' hsp₂ => ?_) hbs hL (by rw [sizeLine_eq]; omega)
        have := hR h₂ t' k' hsp₂
        rw [List.drop_eq_nil_of_le (by simp; omega)] at this
        simpa using this
    | some x =>
      intro m' hs hh
      show wpAny _ _ _ _ _ _
      obtain ⟨hx1, q, hq, hq2⟩ := find_len _ x hf
      have hlen : ((b.toList.map (·.toNat)).drop p).length = b.size - p := by simp
      rw [strip_some hf] at hR
      have hne : ((m'.handed : Nat) == m'.start) = false := by rw [beq_eq_false_iff_ne]; omega
      have go : ∀ (s₁ : Shared) (vs₁ : List Value) (bs₁ : List (Array UInt8)) (m₁ : Nat), PatAt s₁.heap P C → s₁.heap.get? L = some { cls := .type "list", data := .seq vs₁.toArray m₁ } → BytesAre vs₁ bs₁ → vs₁.length ≤ 2 * p + 1 → (bs₁.map (·.size)).sum ≤ p + x.1.length →
          (∀ h' t' k', Spares L s₁.heap h' → R (.ok (.ret (.bytes (glue bs₁ ++ ((strip x.2).map (·.toUInt8)).toArray) t'))) { s₁ with heap := h', toks := k' }) →
          wpAny (model prog w) A.in1 (updateSeq L (·.push (.bytes #[] t)) >>= fun _ => again (.builtin "re.Pattern.sub.loop" ⟨[.ref P, .bytes b u, .bytes #[] t, rawInt 0, rawInt 0, rawInt ((n : Int) + 1), rawInt m'.handed, rawInt m'.handed, .bool (m'.handed == m'.start), .ref L, .bool false], []⟩))
            (fun fin s' => match fin with | .done f => R (.ok f) s' | .again c' => c'.quiet = true ∧ codeAny (model prog w) A c' R s') (fun e s' => R (.error e) s') s₁ := by
        intro s₁ vs₁ bs₁ m₁ hP₁ hL₁ hb₁ hv₁ hs₁ hR₁
        refine wpAny_bind (push_ok hL₁ (by omega) fun h' n' hsp hL' => ?_)
        refine wpAny_pure ⟨plainId_quiet FC.plain_subloop _, ?_⟩
        rw [hne]
        have hd : (b.toList.map (·.toNat)).drop m'.handed = x.2 := by
          have e1 : (b.toList.map (·.toNat)).drop m'.handed = ((b.toList.map (·.toNat)).drop p).drop (m'.handed - p) := by
            rw [List.drop_drop]; congr 1; omega
          rw [e1, hq, List.drop_append_of_le_length (by simp; have := congrArg List.length hq; simp at this; omega), List.drop_eq_nil_of_le (by simp; have := congrArg List.length hq; simp at this; omega), List.nil_append]
        have hq3 := congrArg List.length hq
        simp only [List.length_append] at hq3
        refine ih (b.size - m'.handed) (by omega) m'.handed (n + 1) { s₁ with heap := h' } (vs₁ ++ [.bytes #[] t]) (bs₁ ++ [#[]]) n' (Nat.le_refl _) (by omega) (hP₁.keepsBut (fun o e => hsp _ o hPL e) (fun o e => hsp _ o hCL e)) hL' hb₁.snoc (by simp; omega) (by simp; omega) fun h₂ t' k' hsp₂ => ?_
        rw [hd, glue_snoc, Array.append_empty]
        exact hR₁ h₂ t' k' fun b' o hb' e' => hsp₂ b' o hb' (hsp b' o hb' e')
      by_cases hlt : p < m'.start
      · refine if_yes (show (p : Int).toNat < m'.start by simpa using hlt) ?_
        refine wpAny_bind (slice_ok hz ?_)
        refine wpAny_bind (push_ok hL (by omega) fun h' n' hsp hL' => ?_)
        refine bm_if_true rfl ?_
        refine wpAny_bind (wpAny_pure ?_)
        refine bm_if_true rfl ?_
        have e : b.extract (p : Int).toNat m'.start = (x.1.map (·.toUInt8)).toArray := by
          rw [Int.toNat_natCast, hs]
          exact extract_drop (hq.trans (List.append_assoc ..))
        refine go _ _ (bs ++ [b.extract (p : Int).toNat m'.start]) n' (hP.keepsBut (fun o e => hsp _ o hPL e) (fun o e => hsp _ o hCL e)) hL' hbs.snoc (by simp; omega) ?_ fun h₂ t' k' hsp₂ => ?_
        · rw [e]; simp; omega
        · rw [glue_snoc, e]
          have := hR h₂ t' k' fun b' o hb' e' => hsp₂ b' o hb' (hsp b' o hb' e')
          rw [List.map_append, ← List.append_toArray, ← Array.append_assoc] at this
          exact this
      · refine if_not (show ¬ (p : Int).toNat < m'.start by simpa using hlt) ?_
        refine bm_if_true rfl ?_
        refine wpAny_bind (wpAny_pure ?_)
        refine bm_if_true rfl ?_
        have hx0 : x.1 = [] := List.length_eq_zero_iff.mp (by omega)
        refine go s vs bs m hP hL hbs (by omega) (by omega) fun h₂ t' k' hsp₂ => ?_
        have := hR h₂ t' k' hsp₂
        rw [hx0, List.nil_append] at this
        exact this

theorem named_eq (a c : Value) : Re.reNamed "re.Pattern.sub" "sub" ["repl", "string", "count"] 2 [a, c] [] = pure [some a, some c, none] := by kernel_rfl
theorem call_sub {P C : Addr} {b : Array UInt8} {u t : Tok} {Q : Value → Shared → Prop} (hb : b.size ≤ 1048576) (hP : PatAt s.heap P C)
    (h : ∀ h' t' k, (∀ a o, s.heap.get? a = some o → h'.get? a = some o) → Q (.bytes (bare b) t') { s with heap := h', toks := k }) :
    wpAny (model prog w) A (call (.builtin "re.Pattern.sub") [.ref P, .bytes #[] t, .bytes b u]) Q E s := by
  refine wpAny_call (codeAny_call_builtin FC.slot_sub.plain FC.entry_sub (FC.slot_sub.check _ _ _ _ _ _ _ _ hP.typeIs (FC.args_sub _ _ _) ?_))
  show wpAny _ _ (Re.reSubstitute "re.Pattern.sub" "sub" false ⟨[.ref P, .bytes #[] t, .bytes b u], []⟩) _ _ s
  unfold Re.reSubstitute
  refine wpAny_bind (wpAny_of_eq (named_eq _ _) ?_)
  refine wpAny_bind (wpAny_pure ?_)
  refine wpAny_bind (wpAny_of_eq (KBy.special_eq FC.no_call) ?_)
  refine bm_if_false rfl ?_
  refine wpAny_bind (wpAny_of_eq (a := none) rfl ?_)
  refine wpAny_bind (wpAny_of_eq KBy.quiet_eq ?_)
  refine wpAny_bind (wpAny_pure ?_)
  refine bm_if_false rfl ?_
  refine bm_if_true (by simp) ?_
  refine wpAny_bind (wpAny_pure ?_)
  refine wpAny_bind (wpAny_holding (whole_ok hP ?_))
  refine bm_if_false (by decide) ?_
  refine wpAny_bind (wpAny_newList ?_ (Nat.zero_le _))
  refine wpAny_pure ⟨plainId_quiet FC.plain_subloop _, ?_⟩
  have hlt := hP.lt
  have main := subloop_ok (prog := prog) (w := w) (A := A) (P := P) (C := C) (L := s.heap.objs.size) (b := b) (u := u) (t := t) (R := wants Q E) hb (Nat.ne_of_lt hlt.1) (Nat.ne_of_lt hlt.2) b.size 0 0
    { s with heap := s.heap.push { cls := .type "list", data := .seq #[] } } [] [] 0 (by omega) (Nat.zero_le _) (hP.keeps fun a o e => Heap.get?_push_of_some _ e) (Heap.get?_push_size _ rfl) trivial (Nat.zero_le _) (Nat.zero_le _) fun h' t' k hk => ?_
  · exact main
  · have e : glue [] ++ ((strip ((b.toList.map (·.toNat)).drop 0)).map (·.toUInt8)).toArray = bare b := by
      rw [show glue [] = #[] by simp [glue], Array.empty_append, List.drop_zero]; rfl
    rw [e]
    exact h h' t' k fun a o ea => hk a o (Nat.ne_of_lt (Heap.lt_size ea)) (Heap.get?_push_of_some _ ea)
end
end Mine
namespace Mine
open PySem PySem.W PySem.Calls PyProof.Rows

theorem noRefB {s : Shared} {b : Array UInt8} {t : Tok} : ∀ a, Value.bytes b t = .ref a → ∃ o, s.heap.get? a = some o ∧ o.dict = none := fun _ e => nomatch e
section
variable {M : Model} {prog : Program} {w : World} {A : Around} {E : Value → Shared → Prop} {s : Shared} {h₀ : Heap} {L : Addr} {m : PySem.Str → Option Value} {news : List (Addr × Obj)} {K : Frag}
theorem method_count {b : Array UInt8} {t : Tok} {pl : Sem Bool} {Q : Value × List Value → Shared → Prop} (h : Q (.builtin "bytes.count", [.bytes b t]) s) : wpAny M A (getMethod (.bytes b t) "count" pl) Q E s := by
  with_reducible exact getMethod_builtin (typeIs_bytes _ _ _) FB.plainAttrs_bytes FC.slot_count FC.type_count noRefB h
theorem method_join {b : Array UInt8} {t : Tok} {pl : Sem Bool} {Q : Value × List Value → Shared → Prop} (h : Q (.builtin "bytes.join", [.bytes b t]) s) : wpAny M A (getMethod (.bytes b t) "join" pl) Q E s := by
  with_reducible exact getMethod_builtin (typeIs_bytes _ _ _) FB.plainAttrs_bytes FC.slot_join FC.type_join noRefB h
/-- the pattern in the written part -/
def patK (K : Frag) (P C : Addr) : Prop := ∃ o oc fs n items, K.lookup P = some o ∧ o.data = .fields fs ∧ o.cls = .type "re.Pattern" ∧ o.dict = none ∧ Builtin.Re.reRawNat (fs.getD 2 .none) = 0 ∧ fs.getD 5 .none = .ref C ∧ Builtin.Re.reRawNat (fs.getD 6 .none) = 1 ∧
    K.lookup C = some oc ∧ oc.data = .seq items n ∧ (items.map Builtin.Re.reRawOf).map (·.toNat) = code
theorem patAt_of {P C : Addr} (X : K.In h₀) (hp : patK K P C) {h : Heap} (F : Fr h₀ L h m) : PatAt h P C := by
  obtain ⟨o, oc, fs, n, items, h1, h2, h3, h4, h5, h6, h7, h8, h9⟩ := hp
  exact ⟨o, oc, fs, n, items, F.keep _ _ (X _ _ h1), h2, h3, h4, h5, h6, h7, F.keep _ _ (X _ _ h8), h9⟩
theorem method_sub {P C : Addr} {pl : Sem Bool} {Q : Value × List Value → Shared → Prop} (F : Fr h₀ L s.heap m) (X : K.In h₀) (hp : patK K P C) (h : Q (.builtin "re.Pattern.sub", [.ref P]) s) : wpAny M A (getMethod (.ref P) "sub" pl) Q E s := by
  have hP := patAt_of X hp F
  with_reducible exact getMethod_builtin hP.typeIs FC.plainAttrs_pat FC.slot_sub FC.type_sub (fun a e => by cases e; exact hP.noDict) h
theorem sub_K {P C : Addr} {b e : Array UInt8} {t u : Tok} {Q : Value → Shared → Prop} (F : Fr h₀ L s.heap m) (N : News h₀ L s.heap news) (X : K.In h₀) (hp : patK K P C) (he : e = #[]) (hb : b.size ≤ 1048576)
    (h : ∀ h' t' k, Fr h₀ L h' m → News h₀ L h' news → Q (.bytes (bare b) t') { s with heap := h', toks := k }) :
    wpAny (model prog w) A (call (.builtin "re.Pattern.sub") [.ref P, .bytes e t, .bytes b u]) Q E s := by
  subst he
  exact call_sub hb (patAt_of X hp F) fun h' t' k hk => h h' t' k (F.keptAll hk) (N.grown hk)
theorem join_K {l : Addr} {vs : List Value} {bs : List (Array UInt8)} {e : Array UInt8} {t : Tok} {n : Nat} {Q : Value → Shared → Prop} (N : News h₀ L s.heap news) (hm : (l, ({ cls := .type "list", data := .seq vs.toArray n } : Obj)) ∈ news) (he : e = #[]) (hb : BytesAre vs bs) {z : Nat}
    (hsz : (bs.map (·.size)).sum ≤ z) (hz : z ≤ 16777216) (h : ∀ b ks t' k, KBw.bInts b = ks → ks.length ≤ z → Q (.bytes b t') { s with toks := k }) :
    wpAny (model prog w) A (call (.builtin "bytes.join") [.bytes e t, .ref l]) Q E s := by
  subst he
  exact call_join hb (N _ hm).1 (by rw [sizeLine_eq]; omega) fun t' k => h _ _ t' k rfl (by rw [KBw.ints_length, glue_size]; exact hsz)
theorem count_K {b c : Array UInt8} {x : UInt8} {t u : Tok} {Q : Value → Shared → Prop} (hc : c = #[x]) (h : ∀ t' k, 0 ≤ ((b.toList.count x : Nat) : Int) → Q (.int (b.toList.count x : Nat) t') { s with toks := k }) :
    wpAny (model prog w) A (call (.builtin "bytes.count") [.bytes b t, .bytes c u]) Q E s := by
  subst hc
  exact call_count fun t' k => h t' k (Int.natCast_nonneg _)
end

theorem ints_size {vs : List Value} {ns : List Int} (h : IntsAre vs ns) (hz : ns.length ≤ 16777216) : vs.toArray.size ≤ sizeLine := by
  rw [sizeLine_eq, List.size_toArray, h.length]; exact hz
/-- an element that is octets, one at most -/
def BEl (news : List (Addr × Obj)) (y : Value) (news' : List (Addr × Obj)) : Prop := (∀ p ∈ news, p ∈ news') ∧ ∃ (b : Array UInt8) (t : Tok), y = .bytes b t ∧ b.size ≤ 1
section
variable {prog : Program} {w : World} {A : Around} {h₀ : Heap} {L : Addr} {m : Str → Option Value} {env : Env} {elt : Expr} {x : Str} {scope : Scope} {cl : List (Str × Addr)} {s : Shared} {S : List (Addr × Obj) → Prop} {Fin : List Value → List (Addr × Obj) → Prop} {news : List (Addr × Obj)}
theorem comp_bytes {vs : List Value} {ns : List Int} (hi : IntsAre vs ns) (hS : S news)
    (turn : ∀ k t I oI C oC D m₂ ys h tk (E' : Value → Shared → Prop), k ∈ ns → LCg.NsObj oC m₂ → m₂ x = some (.int k t) → Fr h₀ L h m → News h₀ L h ((I, oI) :: (C, oC) :: (D, LCg.lst ys) :: news) → LCg.Off3 I C D news → ((@Ne Nat I C) ∧ (@Ne Nat I D) ∧ (@Ne Nat C D)) →
      wpAny (model prog w) A (eval elt (compEnvC scope cl C env)) (LCg.CompEnd h₀ L m { s with heap := h, toks := tk } I oI C oC D (LCg.lst ys) S (fun y news' => BEl news y news')) E' { s with heap := h, toks := tk })
    (fin : ∀ ys bs, BytesAre ys bs → (bs.map (·.size)).sum ≤ ns.length → Fin ys news) : LCg.CompRest prog w A h₀ L m env elt x scope cl s S (fun i v => vs.toArray[i]? = some v) Fin vs.toArray.size 0 [] news := by
  have hlen := hi.length
  have key : ∀ (j i : Nat) (ys : List Value) (bs : List (Array UInt8)), i + j = vs.length → BytesAre ys bs → (bs.map (·.size)).sum ≤ i → LCg.CompRest prog w A h₀ L m env elt x scope cl s S (fun i v => vs.toArray[i]? = some v) Fin j i ys news := by
    intro j
    induction j with
    | zero =>
      intro i ys bs hi' hy hs
      exact LCg.CompRest.zero (fin ys bs hy (by omega))
    | succ j ih =>
      intro i ys bs hi' hy hs
      refine LCg.CompRest.succ ?_
      intro v I oI C oC D m₂ h tk E' hv hC hx F N off ne
      obtain ⟨k, t, e, hk⟩ := IntsAre.at hi i v (by simpa using hv)
      rw [e] at hx
      refine wpAny_mono (turn k t I oI C oC D m₂ ys h tk E' (List.mem_of_getElem? hk) hC hx F N off ne) (fun y s₂ hq => ?_) fun _ _ e => e
      obtain ⟨h', tk', nw, e', F', N', off', hS', hsub, b, t', hy', hb⟩ := hq
      refine ⟨h', tk', news, e', F', ?_, ?_, hS, ?_⟩
      · intro p hp
        refine N' p ?_
        rcases List.mem_cons.mp hp with rfl | hp
        · exact .head _
        · rcases List.mem_cons.mp hp with rfl | hp
          · exact .tail _ (.head _)
          · rcases List.mem_cons.mp hp with rfl | hp
            · exact .tail _ (.tail _ (.head _))
            · exact .tail _ (.tail _ (.tail _ (hsub p hp)))
      · exact LCg.Off3.of fun p hp => LCg.Off3.mem off' p (hsub p hp)
      · rw [hy']
        exact ih (i + 1) _ (bs ++ [b]) (by omega) hy.snoc (by simp; omega)
  have := key vs.length 0 [] [] (by omega) trivial (Nat.le_refl _)
  simpa using this
end
end Mine
namespace Mine
open PySem PySem.W PySem.Calls PyProof.Rows

/-- the depth of what is left when the quoted strings are taken out -/
def D (l : List Nat) : Int := ((strip l).count 40 : Nat) - ((strip l).count 41 : Nat)
def nats (b : Array UInt8) : List Nat := b.toList.map (·.toNat)
def shutS (l : List Nat) (k : Nat) : Int := match close (l.drop k) with
  | some r => (l.length : Int) - r.length - 1
  | none => -1
def restS (l : List Nat) (k : Nat) : Int := D (l.drop k)
def Inv (data : Array UInt8) (pre shut rest : List Int) : Prop :=
  shut.length = data.size + 2 ∧ rest.length = data.size + 2 ∧ pre.length ≤ data.size ∧ (∀ i : Nat, i < data.size - pre.length → shut.getD i 0 = -1) ∧
    ∀ i : Nat, data.size - pre.length ≤ i → i ≤ data.size + 1 → shut.getD i 0 = shutS (nats data) i ∧ rest.getD i 0 = restS (nats data) i
end Mine
namespace Mine
open PySem PySem.W PySem.Calls PyProof.Rows

section
variable {M : Model} {prog : Program} {w : World} {A : Around} {E : Value → Shared → Prop} {s : Shared} {h₀ : Heap} {L : Addr} {m : PySem.Str → Option Value} {news : List (Addr × Obj)} {K : Frag} {env : Env}
theorem add_any {b c : Array UInt8} {t u : Tok} {ks : List Int} {n z : Nat} {Q : Value → Shared → Prop} (hb : KBw.bInts b = ks) (hn : ks.length ≤ n) (hc : c.size ≤ z) (hz : n + z ≤ 16777216)
    (h : ∀ d ds t' k, KBw.bInts d = ds → ds.length ≤ n + z → Q (.bytes d t') { s with toks := k }) : wpAny (model prog w) A (binaryOp .Add (.bytes b t) (.bytes c u)) Q E s := by
  have hb' : b.size ≤ n := by rw [← KBw.ints_length, hb]; exact hn
  exact KBy.add_bytes (by omega) fun t' k => h _ _ t' k rfl (by rw [KBw.ints_length, Array.size_append]; omega)
def IfEnd (h₀ : Heap) (L : Addr) (m : PySem.Str → Option Value) (news : List (Addr × Obj)) (s : Shared) (f : Flow) (s' : Shared) : Prop :=
  f = .next ∧ ∃ (a : Int) (t : Tok) (h' : Heap) (tk : Nat), -9 ≤ a ∧ a ≤ 9 ∧ s' = { s with heap := h', toks := tk } ∧ Fr h₀ L h' (fun y => if y = Str.ofString "begin" then some (.int a t) else m y) ∧ News h₀ L h' news
theorem IfEnd.intro {h' : Heap} {tk : Nat} {m' : PySem.Str → Option Value} {news' : List (Addr × Obj)} {a : Int} {t : Tok} (F : Fr h₀ L h' m') (N : News h₀ L h' news') (hb : m' (Str.ofString "begin") = some (.int a t)) (h1 : -9 ≤ a) (h2 : a ≤ 9)
    (hs : ∀ y, y ≠ Str.ofString "begin" → m' y = m y) (hn : ∀ p ∈ news, p ∈ news') : IfEnd h₀ L m news s .next { s with heap := h', toks := tk } := by
  refine ⟨rfl, a, t, h', tk, h1, h2, rfl, ?_, fun p hp => N p (hn p hp)⟩
  have e : (fun y => if y = Str.ofString "begin" then some (Value.int a t) else m y) = m' := by
    funext y
    by_cases hy : y = Str.ofString "begin"
    · rw [if_pos hy, hy, hb]
    · rw [if_neg hy, hs y hy]
  rw [e]; exact F
theorem if_join {st : Stmt} {rest : List Stmt} {Q : Flow → Shared → Prop} (_F : Fr h₀ L s.heap m) (_N : News h₀ L s.heap news) (h1 : wpAny M A (exec st env) (IfEnd h₀ L m news s) E s)
    (h2 : ∀ a t h' tk, -9 ≤ a → a ≤ 9 → Fr h₀ L h' (fun y => if y = Str.ofString "begin" then some (.int a t) else m y) → News h₀ L h' news → wpAny M A (execs rest env) Q E { s with heap := h', toks := tk }) :
    wpAny M A (execs (st :: rest) env) Q E s := by
  refine wpAny_execs_cons (wpAny_mono h1 (fun f s' hf => ?_) fun _ _ e => e)
  obtain ⟨rfl, a, t, h', tk, ha1, ha2, rfl, F', N'⟩ := hf
  exact h2 a t h' tk ha1 ha2 F' N'
end
end Mine
namespace Mine
open PySem PySem.W PySem.Calls PyProof.Rows

theorem shutS_lt (l : List Nat) (k : Nat) : shutS l k < l.length := by
  unfold shutS
  split
  · omega
  · omega
theorem Inv.all {data : Array UInt8} {pre shut rest : List Int} (h : Inv data pre shut rest) : ∀ v ∈ shut, v < (data.size : Int) := by
  obtain ⟨h1, h2, h3, h4, h5⟩ := h
  intro v hv
  obtain ⟨i, hi, e⟩ := List.mem_iff_getElem.1 hv
  have e' : shut.getD i 0 = v := by rw [List.getD_eq_getElem?_getD, List.getElem?_eq_getElem hi]; exact e
  rcases Nat.lt_or_ge i (data.size - pre.length) with h | h
  · rw [← e', h4 i h]; omega
  · rw [← e', (h5 i h (by omega)).1]
    have := shutS_lt (nats data) i
    simpa [nats] using this
theorem all_set {l : List Int} {z x : Int} {i : Nat} (h : ∀ v ∈ l, v < z) (hx : x < z) : ∀ v ∈ l.set i x, v < z := by
  intro v hv
  rcases List.mem_or_eq_of_mem_set hv with h' | h'
  · exact h v h'
  · rw [h']; exact hx
theorem strip_cons (c : Nat) (r : List Nat) : strip (c :: r) = match (if c = 34 then close r else none) with
    | some r' => strip r'
    | none => c :: strip r := by
  cases h : (if c = 34 then close r else none) with
  | some r' =>
    have hf : find (c :: r) = some ([], r') := by unfold find; rw [h]
    rw [strip_some hf]; rfl
  | none =>
    have hf : find (c :: r) = (find r).map fun x => (c :: x.1, x.2) := by rw [find, h]
    cases hr : find r with
    | none => rw [strip_none (by rw [hf, hr]; rfl), strip_none hr]
    | some x => rw [strip_some (x := (c :: x.1, x.2)) (by rw [hf, hr]; rfl), strip_some hr]; rfl
theorem D_cons (c : Nat) (r : List Nat) : D (c :: r) = match (if c = 34 then close r else none) with
    | some r' => D r'
    | none => D r + (if c = 40 then 1 else 0) - (if c = 41 then 1 else 0) := by
  unfold D
  rw [strip_cons]
  cases (if c = 34 then close r else none) with
  | some r' => rfl
  | none =>
    simp only [List.count_cons]
    by_cases h1 : c = 40
    · subst h1; simp; omega
    · by_cases h2 : c = 41
      · subst h2; simp; omega
      · simp [h1, h2]
theorem close_cons (c : Nat) (r : List Nat) : close (c :: r) = if c = 34 then some r else if c = 92 then (match r with | [] => none | d :: r' => if d = 10 then none else close r') else close r := by first | (rw [close.eq_def]; done) | (rw [close.eq_def]; rfl)
theorem drop_cons {l : List Nat} {k : Nat} (h : k < l.length) : l.drop k = l.getD k 0 :: l.drop (k + 1) := by
  rw [List.drop_eq_getElem_cons h, List.getD_eq_getElem?_getD, List.getElem?_eq_getElem h]; rfl
theorem shutS_end {l : List Nat} {k : Nat} (h : l.length ≤ k) : shutS l k = -1 := by
  unfold shutS
  rw [List.drop_eq_nil_of_le h]; rfl
theorem restS_end {l : List Nat} {k : Nat} (h : l.length ≤ k) : restS l k = 0 := by
  unfold restS D
  rw [List.drop_eq_nil_of_le h, strip_none rfl]; rfl
theorem shutS_34 {l : List Nat} {k : Nat} (h : k < l.length) (hc : l.getD k 0 = 34) : shutS l k = k := by
  unfold shutS
  rw [drop_cons h, close_cons, if_pos hc]
  simp only [List.length_drop]; omega
theorem shutS_92 {l : List Nat} {k : Nat} (h : k + 1 < l.length) (hc : l.getD k 0 = 92) (hn : l.getD (k + 1) 0 ≠ 10) : shutS l k = shutS l (k + 2) := by
  unfold shutS
  rw [drop_cons (show k < l.length by omega), close_cons, if_neg (by omega), if_pos hc, drop_cons h]
  simp only [if_neg hn]
theorem shutS_92_no {l : List Nat} {k : Nat} (h : k < l.length) (hc : l.getD k 0 = 92) (hn : ¬ (k + 1 < l.length ∧ l.getD (k + 1) 0 ≠ 10)) : shutS l k = -1 := by
  unfold shutS
  rw [drop_cons h, close_cons, if_neg (by omega), if_pos hc]
  by_cases h1 : k + 1 < l.length
  · rw [drop_cons h1]
    have h2 : l.getD (k + 1) 0 = 10 := Decidable.byContradiction fun e => hn ⟨h1, e⟩
    simp only [if_pos h2]
  · rw [List.drop_eq_nil_of_le (by omega)]
theorem shutS_else {l : List Nat} {k : Nat} (h : k < l.length) (h1 : l.getD k 0 ≠ 34) (h2 : l.getD k 0 ≠ 92) : shutS l k = shutS l (k + 1) := by
  unfold shutS
  rw [drop_cons h, close_cons, if_neg h1, if_neg h2]
theorem restS_no {l : List Nat} {k : Nat} (h : k < l.length) (hn : l.getD k 0 ≠ 34 ∨ ¬ 0 ≤ shutS l (k + 1)) : restS l k = restS l (k + 1) + (if l.getD k 0 = 40 then 1 else 0) - (if l.getD k 0 = 41 then 1 else 0) := by
  unfold restS
  rw [drop_cons h, D_cons]
  have e : (if l.getD k 0 = 34 then close (l.drop (k + 1)) else none) = none := by
    by_cases h34 : l.getD k 0 = 34
    · rw [if_pos h34]
      rcases hn with hn | hn
      · exact absurd h34 hn
      · unfold shutS at hn
        revert hn
        cases hcl : close (l.drop (k + 1)) with
        | none => intro _; rfl
        | some r =>
          intro hn
          have := close_len hcl
          rw [List.length_drop] at this
          dsimp only at hn
          exact absurd (by omega) hn
    · rw [if_neg h34]
  rw [e]
theorem restS_34 {l : List Nat} {k : Nat} (h : k < l.length) (h34 : l.getD k 0 = 34) (hn : 0 ≤ shutS l (k + 1)) : restS l k = restS l (shutS l (k + 1) + 1).toNat := by
  unfold restS
  rw [drop_cons h, D_cons, if_pos h34]
  unfold shutS at hn ⊢
  revert hn
  cases hcl : close (l.drop (k + 1)) with
  | none => intro hn; dsimp only at hn; omega
  | some r =>
    intro hn
    dsimp only
    congr 1
    obtain ⟨a, ha, h1⟩ := close_suffix _ _ (Nat.le_refl _) r hcl
    have hl := congrArg List.length ha
    rw [List.length_drop, List.length_append] at hl
    have e1 : (((l.length : Int) - r.length - 1 + 1).toNat) = (k + 1) + a.length := by omega
    rw [e1, ← List.drop_drop, ha, List.drop_left]
theorem getD_set (l : List Int) (i j : Nat) (v : Int) (hi : i < l.length) : (l.set i v).getD j 0 = if j = i then v else l.getD j 0 := by
  rw [List.getD_eq_getElem?_getD, List.getElem?_set, List.getD_eq_getElem?_getD]
  by_cases h : i = j
  · subst h; simp [hi]
  · rw [if_neg h, if_neg (fun e => h e.symm)]
theorem nats_getD {b : Array UInt8} {ks : List Int} (hb : KBw.bInts b = ks) (i : Nat) : ((nats b).getD i 0 : Int) = ks.getD i 0 := by
  subst hb
  unfold nats
  rw [List.getD_eq_getElem?_getD, List.getD_eq_getElem?_getD]
  show _ = ((b.toList.map fun c => ((c.toNat : Nat) : Int))[i]?).getD 0
  rw [List.getElem?_map, List.getElem?_map]
  cases b.toList[i]? <;> rfl
theorem nats_len (b : Array UInt8) : (nats b).length = b.size := by simp [nats]
/-- the heart of a turn -/
theorem Inv.step {b : Array UInt8} {pre shut rest : List Int} {k : Int} (inv : Inv b pre shut rest) (hk : k = (b.size : Int) - 1 - pre.length) (hl : pre.length < b.size) {v w : Int} (hv : v = shutS (nats b) k.toNat) (hw : w = restS (nats b) k.toNat) :
    (shut.set k.toNat v).length = b.size + 2 ∧ (rest.set k.toNat w).length = b.size + 2 ∧ (pre ++ [k]).length ≤ b.size ∧ Inv b (pre ++ [k]) (shut.set k.toNat v) (rest.set k.toNat w) := by
  obtain ⟨h1, h2, h3, h4, h5⟩ := inv
  have hp : (pre ++ [k]).length = pre.length + 1 := by simp
  have hs : (shut.set k.toNat v).length = b.size + 2 := by rw [List.length_set]; exact h1
  have hr : (rest.set k.toNat w).length = b.size + 2 := by rw [List.length_set]; exact h2
  refine ⟨hs, hr, by omega, hs, hr, by omega, fun i hi => ?_, fun i hi hi' => ?_⟩
  · rw [getD_set _ _ _ _ (by omega), if_neg (by omega)]
    exact h4 i (by omega)
  · rw [getD_set _ _ _ _ (by omega), getD_set _ _ _ _ (by omega)]
    by_cases e : i = k.toNat
    · rw [if_pos e, if_pos e, hv, hw, e]; exact ⟨rfl, rfl⟩
    · rw [if_neg e, if_neg e]
      exact h5 i (by omega) hi'
/-- a turn that leaves shut as it is -/
theorem Inv.stepR {b : Array UInt8} {pre shut rest : List Int} {k : Int} (inv : Inv b pre shut rest) (hk : k = (b.size : Int) - 1 - pre.length) (hl : pre.length < b.size) {w : Int} (hv : -1 = shutS (nats b) k.toNat) (hw : w = restS (nats b) k.toNat) :
    shut.length = b.size + 2 ∧ (rest.set k.toNat w).length = b.size + 2 ∧ (pre ++ [k]).length ≤ b.size ∧ Inv b (pre ++ [k]) shut (rest.set k.toNat w) := by
  have e : shut.set k.toNat (-1) = shut := by
    obtain ⟨h1, h2, h3, h4, h5⟩ := inv
    apply List.ext_getElem?
    intro i
    rw [List.getElem?_set]
    by_cases h : k.toNat = i
    · subst h
      have h6 := h4 k.toNat (by omega)
      rw [List.getD_eq_getElem?_getD, List.getElem?_eq_getElem (by omega)] at h6
      rw [if_pos rfl, if_pos (by omega), List.getElem?_eq_getElem (by omega)]
      exact congrArg some h6.symm
    · rw [if_neg h]
  have := Inv.step inv hk hl hv hw
  rw [e] at this
  exact this
section
variable {b : Array UInt8} {ks pre shut rest : List Int} {k : Int} {z : Nat}
theorem Inv.at (inv : Inv b pre shut rest) (hk : k = (ks.length : Int) - 1 - pre.length) (_hl : pre.length < ((ks.length : Int) - 1 - -1).toNat) (hz : ks.length = b.size) {j : Int} (h1 : k < j) (h2 : j ≤ b.size + 1) : shut.getD j.toNat 0 = shutS (nats b) j.toNat ∧ rest.getD j.toNat 0 = restS (nats b) j.toNat :=
  inv.2.2.2.2 j.toNat (by omega) (by omega)
theorem turn_34 (hb : KBw.bInts b = ks) (hz : ks.length = b.size) (inv : Inv b pre shut rest) (hk : k = (ks.length : Int) - 1 - pre.length) (hl : pre.length < ((ks.length : Int) - 1 - -1).toNat) (h34 : ks.getD k.toNat 0 = 34) (hn : ¬ 0 ≤ (shut.set k.toNat k).getD (k + 1).toNat 0) :
    (shut.set k.toNat k).length = b.size + 2 ∧ (rest.set k.toNat (rest.getD (k + 1).toNat 0)).length = b.size + 2 ∧ (pre ++ [k]).length ≤ b.size ∧ Inv b (pre ++ [k]) (shut.set k.toNat k) (rest.set k.toNat (rest.getD (k + 1).toNat 0)) := by
  have hA := inv.at hk hl hz (j := k + 1) (by omega) (by omega)
  have hc := nats_getD hb k.toNat
  have hlen := nats_len b
  have hs := inv.1
  have e1 : (k + 1).toNat = k.toNat + 1 := by omega
  rw [getD_set _ _ _ _ (by omega), if_neg (by omega), hA.1, e1] at hn
  refine inv.step (by omega) (by omega) ?_ ?_
  · rw [shutS_34 (by omega) (by omega)]; omega
  · rw [hA.2, e1, restS_no (by omega) (.inr hn), if_neg (by omega), if_neg (by omega)]; omega
theorem turn_34c (hb : KBw.bInts b = ks) (hz : ks.length = b.size) (inv : Inv b pre shut rest) (hk : k = (ks.length : Int) - 1 - pre.length) (hl : pre.length < ((ks.length : Int) - 1 - -1).toNat) (h34 : ks.getD k.toNat 0 = 34) (hn : 0 ≤ (shut.set k.toNat k).getD (k + 1).toNat 0) :
    (shut.set k.toNat k).length = b.size + 2 ∧ (rest.set k.toNat (rest.getD ((shut.set k.toNat k).getD (k + 1).toNat 0 + 1).toNat 0)).length = b.size + 2 ∧ (pre ++ [k]).length ≤ b.size ∧ Inv b (pre ++ [k]) (shut.set k.toNat k) (rest.set k.toNat (rest.getD ((shut.set k.toNat k).getD (k + 1).toNat 0 + 1).toNat 0)) := by
  have hA := inv.at hk hl hz (j := k + 1) (by omega) (by omega)
  have hc := nats_getD hb k.toNat
  have hlen := nats_len b
  have hs := inv.1
  have e1 : (k + 1).toNat = k.toNat + 1 := by omega
  rw [getD_set _ _ _ _ (by omega), if_neg (by omega), hA.1, e1] at hn
  have hlt := shutS_lt (nats b) (k.toNat + 1)
  have hge : shutS (nats b) (k.toNat + 1) ≥ (k.toNat + 1 : Nat) := by
    unfold shutS at hn ⊢
    revert hn
    cases hcl : close ((nats b).drop (k.toNat + 1)) with
    | none => intro hn; dsimp only at hn; omega
    | some r =>
      intro hn
      have := close_len hcl
      rw [List.length_drop] at this
      dsimp only; omega
  refine inv.step (by omega) (by omega) ?_ ?_
  · rw [shutS_34 (by omega) (by omega)]; omega
  · rw [getD_set _ _ _ _ (by omega), if_neg (by omega), hA.1, e1]
    have hB := inv.at hk hl hz (j := shutS (nats b) (k.toNat + 1) + 1) (by omega) (by omega)
    rw [hB.2, restS_34 (by omega) (by omega) hn]
theorem turn_92 (hb : KBw.bInts b = ks) (hz : ks.length = b.size) (inv : Inv b pre shut rest) (hk : k = (ks.length : Int) - 1 - pre.length) (hl : pre.length < ((ks.length : Int) - 1 - -1).toNat) (h92 : ks.getD k.toNat 0 = 92) (h1 : k + 1 < (ks.length : Int)) (hn : ks.getD (k + 1).toNat 0 ≠ 10) :
    (shut.set k.toNat (shut.getD (k + 2).toNat 0)).length = b.size + 2 ∧ (rest.set k.toNat (rest.getD (k + 1).toNat 0)).length = b.size + 2 ∧ (pre ++ [k]).length ≤ b.size ∧ Inv b (pre ++ [k]) (shut.set k.toNat (shut.getD (k + 2).toNat 0)) (rest.set k.toNat (rest.getD (k + 1).toNat 0)) := by
  have hA := inv.at hk hl hz (j := k + 1) (by omega) (by omega)
  have hB := inv.at hk hl hz (j := k + 2) (by omega) (by omega)
  have hc := nats_getD hb k.toNat
  have hd := nats_getD hb (k + 1).toNat
  have hlen := nats_len b
  have e1 : (k + 1).toNat = k.toNat + 1 := by omega
  have e2 : (k + 2).toNat = k.toNat + 2 := by omega
  rw [e1] at hd hn
  refine inv.step (by omega) (by omega) ?_ ?_
  · rw [shutS_92 (by omega) (by omega) (by omega), hB.1, e2]
  · rw [hA.2, e1, restS_no (l := nats b) (k := k.toNat) (by omega) (.inl (by omega)), if_neg (by omega), if_neg (by omega)]; omega
theorem turn_92n (hb : KBw.bInts b = ks) (hz : ks.length = b.size) (inv : Inv b pre shut rest) (hk : k = (ks.length : Int) - 1 - pre.length) (hl : pre.length < ((ks.length : Int) - 1 - -1).toNat) (h92 : ks.getD k.toNat 0 = 92) (hn : ¬ (k + 1 < (ks.length : Int)) ∨ ks.getD (k + 1).toNat 0 = 10) :
    shut.length = b.size + 2 ∧ (rest.set k.toNat (rest.getD (k + 1).toNat 0)).length = b.size + 2 ∧ (pre ++ [k]).length ≤ b.size ∧ Inv b (pre ++ [k]) shut (rest.set k.toNat (rest.getD (k + 1).toNat 0)) := by
  have hA := inv.at hk hl hz (j := k + 1) (by omega) (by omega)
  have hc := nats_getD hb k.toNat
  have hd := nats_getD hb (k + 1).toNat
  have hlen := nats_len b
  have e1 : (k + 1).toNat = k.toNat + 1 := by omega
  rw [e1] at hd hn
  refine inv.stepR (by omega) (by omega) ?_ ?_
  · rw [shutS_92_no (by omega) (by omega) (by rintro ⟨h1, h2⟩; rcases hn with h | h <;> omega)]
  · rw [hA.2, e1, restS_no (l := nats b) (k := k.toNat) (by omega) (.inl (by omega)), if_neg (by omega), if_neg (by omega)]; omega
theorem turn_else (hb : KBw.bInts b = ks) (hz : ks.length = b.size) (inv : Inv b pre shut rest) (hk : k = (ks.length : Int) - 1 - pre.length) (hl : pre.length < ((ks.length : Int) - 1 - -1).toNat) (h34 : ks.getD k.toNat 0 ≠ 34) (h92 : ks.getD k.toNat 0 ≠ 92) {w : Int}
    (hw : w = rest.getD (k + 1).toNat 0 + (if ks.getD k.toNat 0 = 40 then 1 else 0) - (if ks.getD k.toNat 0 = 41 then 1 else 0)) :
    (shut.set k.toNat (shut.getD (k + 1).toNat 0)).length = b.size + 2 ∧ (rest.set k.toNat w).length = b.size + 2 ∧ (pre ++ [k]).length ≤ b.size ∧ Inv b (pre ++ [k]) (shut.set k.toNat (shut.getD (k + 1).toNat 0)) (rest.set k.toNat w) := by
  have hA := inv.at hk hl hz (j := k + 1) (by omega) (by omega)
  have hc := nats_getD hb k.toNat
  have hlen := nats_len b
  have e1 : (k + 1).toNat = k.toNat + 1 := by omega
  have e3 : ((nats b).getD k.toNat 0 = 40) ↔ (ks.getD k.toNat 0 = 40) := by omega
  have e4 : ((nats b).getD k.toNat 0 = 41) ↔ (ks.getD k.toNat 0 = 41) := by omega
  refine inv.step (by omega) (by omega) ?_ ?_
  · rw [shutS_else (by omega) (by omega) (by omega), hA.1, e1]
  · rw [hw, hA.2, e1, restS_no (l := nats b) (k := k.toNat) (by omega) (.inl (by omega))]
    simp only [e3, e4]
theorem start_inv (hz : ks.length = b.size) : (List.replicate ((ks.length : Int) + 2).toNat [(-1 : Int)]).flatten.length = b.size + 2 ∧ (List.replicate ((ks.length : Int) + 2).toNat [(0 : Int)]).flatten.length = b.size + 2 ∧ ([] : List Int).length ≤ b.size ∧
    Inv b [] (List.replicate ((ks.length : Int) + 2).toNat [(-1 : Int)]).flatten (List.replicate ((ks.length : Int) + 2).toNat [(0 : Int)]).flatten := by
  have f : ∀ (x : Int) (n : Nat), (List.replicate n [x]).flatten = List.replicate n x := by
    intro x n
    induction n with
    | zero => rfl
    | succ n ih => rw [List.replicate_succ, List.replicate_succ, List.flatten_cons, ih]; rfl
  have e : ((ks.length : Int) + 2).toNat = b.size + 2 := by omega
  have hlen := nats_len b
  have gd : ∀ (x : Int) (n i : Nat), i < n → (List.replicate n x).getD i 0 = x := by
    intro x n i hi
    rw [List.getD_eq_getElem?_getD, List.getElem?_replicate, if_pos hi]; rfl
  rw [f, f, e]
  refine ⟨List.length_replicate, List.length_replicate, Nat.zero_le _, List.length_replicate, List.length_replicate, Nat.zero_le _, fun i hi => ?_, fun i hi hi' => ?_⟩
  · simp only [List.length_nil] at hi
    exact gd _ _ _ (by omega)
  · simp only [List.length_nil] at hi
    rw [gd _ _ _ (by omega), gd _ _ _ (by omega), shutS_end (by omega), restS_end (by omega)]
    exact ⟨rfl, rfl⟩
/-- behind the loop -/
theorem Inv.done {b : Array UInt8} {pre shut rest : List Int} (inv : Inv b pre shut rest) (h : pre.length = b.size) : ∀ i : Nat, i ≤ b.size → rest.getD i 0 = D ((nats b).drop i) := fun i hi => (inv.2.2.2.2 i (by omega) (by omega)).2
end
section
variable {prog : Program} {w : World} {A : Around} {E : Value → Shared → Prop} {s : Shared} {h₀ : Heap} {L D : Addr} {m : Str → Option Value} {news news' : List (Addr × Obj)} {vs : List Value} {ns : List Int} {n : Nat} {k x : Int} {t u : Tok}
theorem item_bd {value slice : PySem.Expr} {Q : Value → Shared → Prop} {z : Int} (N : News h₀ L s.heap news) (hm : (D, listOf vs.toArray n) ∈ news) (hi : IntsAre vs ns) (hall : ∀ v ∈ ns, v < z) (h0 : 0 ≤ k) (h1 : k < ns.length) (hfit : k < 2 ^ 63) (h : ∀ t, ns.getD k.toNat 0 < z → Q (.int (ns.getD k.toNat 0) t) s)
    (hs : subscripted slice false (.ref D) (.int k u) = operate [.ref D, .int k u] (getItem (.ref D) (.int k u)) := by with_unfolding_all rfl) :
    wpAny (model prog w) A (subscriptTail value slice (.ref D) (.int k u)) Q E s := by
  refine ksa_sub N hm hi h0 h1 hfit (fun t => h t ?_) hs
  have hl : k.toNat < ns.length := by omega
  have : ns.getD k.toNat 0 ∈ ns := by
    rw [List.getD_eq_getElem?_getD, List.getElem?_eq_getElem hl]; exact List.getElem_mem hl
  exact hall _ this
end
end Mine
namespace Mine
open PySem PySem.W PySem.Calls PyProof.Rows

theorem find_mem : ∀ (l : List Nat) (x : List Nat × List Nat), find l = some x → (∀ a ∈ x.1, a ∈ l) ∧ ∀ a ∈ x.2, a ∈ l := fun l x h => by
  obtain ⟨_, q, hq, _⟩ := find_len l x h
  rw [hq]
  exact ⟨fun a ha => by simp [ha], fun a ha => by simp [ha]⟩
theorem strip_mem : ∀ (k : Nat) (l : List Nat), l.length ≤ k → ∀ a ∈ strip l, a ∈ l
  | k, l, hk, a, ha => by
    cases h : find l with
    | none => rw [strip_none h] at ha; exact ha
    | some x =>
      rw [strip_some h] at ha
      have hm := find_mem l x h
      have hl := (find_len l x h).1
      rcases List.mem_append.1 ha with h1 | h1
      · exact hm.1 a h1
      · match k with
        | 0 => omega
        | k + 1 => exact hm.2 a (strip_mem k x.2 (by omega) a h1)
theorem count_u8 (c : Nat) (hc : c < 256) : ∀ l : List Nat, (∀ a ∈ l, a < 256) → (l.map (·.toUInt8)).count c.toUInt8 = l.count c
  | [], _ => rfl
  | a :: l, h => by
    rw [List.map_cons, List.count_cons, List.count_cons, count_u8 c hc l fun x hx => h x (.tail _ hx)]
    have ha := h a (.head _)
    have e : (a.toUInt8 == c.toUInt8) = (a == c) := by
      rw [Bool.eq_iff_iff, beq_iff_eq, beq_iff_eq]
      constructor
      · intro e
        have := congrArg UInt8.toNat e
        rw [show a.toUInt8.toNat = a % 256 from rfl, show c.toUInt8.toNat = c % 256 from rfl] at this
        omega
      · rintro rfl; rfl
    rw [e]
theorem nats_lt (b : Array UInt8) : ∀ a ∈ nats b, a < 256 := by
  intro a ha
  obtain ⟨x, _, rfl⟩ := List.mem_map.1 ha
  exact x.toNat_lt
theorem bare_D (b : Array UInt8) : (((bare b).toList.count 40 : Nat) : Int) - ((bare b).toList.count 41 : Nat) = D (nats b) := by
  have h : ∀ a ∈ strip (nats b), a < 256 := fun a ha => nats_lt b a (strip_mem _ _ (Nat.le_refl _) a ha)
  have e1 := count_u8 40 (by decide) _ h
  have e2 := count_u8 41 (by decide) _ h
  unfold D bare
  show ((((strip (nats b)).map (·.toUInt8)).toArray.toList.count (40 : Nat).toUInt8 : Nat) : Int) - ((((strip (nats b)).map (·.toUInt8)).toArray.toList.count (41 : Nat).toUInt8 : Nat) : Int) = _
  rw [e1, e2]
theorem depth_eq (b : Array UInt8) (d : Int) : d + (((bare b).toList.count 40 : Nat) : Int) - ((bare b).toList.count 41 : Nat) = d + D (nats b) := by
  rw [← bare_D]; omega
theorem picked_nats (b : Array UInt8) (k : Int) (h0 : 0 ≤ k) : nats (KBy.picked b (some k) none) = (nats b).drop k.toNat := by
  rw [KBc.picked_eq]
  unfold nats
  have e : clipAt b.size k = min k.toNat b.size := by
    obtain ⟨n, rfl⟩ := Int.eq_ofNat_of_zero_le h0
    exact clipAt_nat b.size n
  simp only [Option.elim, e]
  rw [List.map_take, List.map_drop]
  rcases Nat.le_total k.toNat b.size with h | h
  · rw [Nat.min_eq_left h, List.take_of_length_le (by simp)]
  · rw [Nat.min_eq_right h, List.drop_eq_nil_of_le (by simp), List.take_nil, List.drop_eq_nil_of_le (by simpa using h)]
theorem picked_size (b : Array UInt8) (k : Int) : (KBy.picked b (some k) none).size ≤ b.size := KBc.size_picked_le b _ _
theorem bnd_lo (x : Int) : -9 ≤ x.fmod 19 - 9 := by
  have := Int.fmod_nonneg_of_pos x (b := 19) (by decide)
  omega
theorem bnd_hi (x : Int) : x.fmod 19 - 9 ≤ 9 := by
  have := Int.fmod_lt_of_pos x (b := 19) (by decide)
  omega
section
variable {prog : Program} {w : World} {A : Around} {E : Value → Shared → Prop} {s : Shared} {h₀ : Heap} {L D : Addr} {news : List (Addr × Obj)} {vs : List Value} {ns : List Int} {n : Nat} {u : Tok}
theorem first_item {value slice : PySem.Expr} {Q : Value → Shared → Prop} (N : News h₀ L s.heap news) (hm : (D, listOf vs.toArray n) ∈ news) (hi : IntsAre vs ns) (hne : decide (ns = []) = false) (h : ∀ t, Q (.int (ns.getD 0 0) t) s)
    (hs : subscripted slice false (.ref D) (.int 0 u) = operate [.ref D, .int 0 u] (getItem (.ref D) (.int 0 u)) := by with_unfolding_all rfl) :
    wpAny (model prog w) A (subscriptTail value slice (.ref D) (.int 0 u)) Q E s := by
  have hl : ns ≠ [] := of_decide_eq_false hne
  have hl2 : 0 < ns.length := List.length_pos_iff.2 hl
  exact ksa_sub N hm hi (by omega) (by omega) (by omega) h hs
end
theorem rest_at {d : Array UInt8} {ns : List Int} {k : Int} (hD : ∀ i : Nat, i ≤ d.size → ns.getD i 0 = D ((nats d).drop i)) (h0 : 0 ≤ k) (h1 : k.toNat ≤ d.size) : D (nats (KBy.picked d (some k) none)) = ns.getD k.toNat 0 := by
  rw [picked_nats _ _ h0, hD _ h1]
theorem no_way0 {p : Prop} {d : Array UInt8} {ns : List Int} {k : Int} (hD : ∀ i : Nat, i ≤ d.size → ns.getD i 0 = D ((nats d).drop i)) (hne : 0 + D (nats (KBy.picked d (some k) none)) ≠ ns.getD k.toNat 0) (h0 : 0 ≤ k) (h1 : k.toNat ≤ d.size) : p := by
  rw [rest_at hD h0 h1] at hne
  exact absurd (Int.zero_add _) hne
theorem no_way {p : Prop} {d : Array UInt8} {ns : List Int} {k a : Int} (hD : ∀ i : Nat, i ≤ d.size → ns.getD i 0 = D ((nats d).drop i)) (hne : a + D (nats (KBy.picked d (some k) none)) ≠ a + ns.getD k.toNat 0) (h0 : 0 ≤ k) (h1 : k.toNat ≤ d.size) : p := by
  rw [rest_at hD h0 h1] at hne
  exact absurd rfl hne
end Mine
namespace Mine
open PySem PySem.W PySem.Calls PyProof.Rows

/-- a turn of a loop that leaves all as it was but its own name -/
def TurnPost (h₀ : Heap) (L : Addr) (x : Str) (m₀ : Str → Option Value) (need : List (Addr × Obj)) (s₁ : Shared) (Q : Flow → Shared → Prop) (f : Flow) (s₂ : Shared) : Prop :=
  match f with
  | .ret v => Q (.ret v) s₂
  | .brk => Q .next s₂
  | _ => ∃ h' tk m' news', s₂ = { s₁ with heap := h', toks := tk } ∧ Fr h₀ L h' m' ∧ News h₀ L h' news' ∧ (∀ p ∈ need, p ∈ news') ∧ ∀ z, z ≠ x → m' z = m₀ z
theorem TurnPost.next {h₀ : Heap} {L : Addr} {x : Str} {m₀ m' : Str → Option Value} {need news' : List (Addr × Obj)} {s₁ : Shared} {Q : Flow → Shared → Prop} {h' : Heap} {tk : Nat} (F : Fr h₀ L h' m') (N : News h₀ L h' news') (hn : ∀ p ∈ need, p ∈ news') (hs : ∀ z, z ≠ x → m' z = m₀ z) :
    TurnPost h₀ L x m₀ need s₁ Q .next { s₁ with heap := h', toks := tk } := ⟨h', tk, m', news', rfl, F, N, hn, hs⟩
section
variable {prog : Program} {w : World} {A : Around} {E : Value → Shared → Prop} {s : Shared} {env : Env} {h₀ : Heap} {x : Str} {body : List Stmt} {Q : Flow → Shared → Prop}
theorem range_turns {r : Addr} {a₀ b₀ : Int} {t₀ u₀ v₀ : Tok} {n : Nat} {m₀ : Str → Option Value} {news : List (Addr × Obj)}
    (hh : A.handled = none) (hr : IsRange s.heap r a₀ b₀ 1 t₀ u₀ v₀) (hsmall : Builtin.Range.small a₀ b₀ 1 = true) (hn : Builtin.Range.rangeSize a₀ b₀ 1 = (n : Int)) (F : Fr h₀ env.locals s.heap m₀) (N : News h₀ env.locals s.heap news)
    (turn : ∀ (k : Int) t h tk own, a₀ ≤ k → k < a₀ + (n : Int) → OwnOff own (news.map (·.1)) → Fr h₀ env.locals h (fun y => if y = x then some (.int k t) else m₀ y) → News h₀ env.locals h (news ++ own) →
      wpAny (model prog w) A (execs body env) (TurnPost h₀ env.locals x m₀ (news ++ own) { s with heap := h, toks := tk } Q) E { s with heap := h, toks := tk })
    (done : ∀ (u : Str → Option Value) h tk, Fr h₀ env.locals h (fun y => if y = x then u y else m₀ y) → News h₀ env.locals h news → Q .next { s with heap := h, toks := tk }) :
    wpAny (model prog w) A (pyIter (.ref r)) (fun it s₂ => LoopAtV prog w A h₀ env x body Q E it s₂) E s := by
  have hm : ∀ (v : Option Value) (u : Str → Option Value), (fun y => if y = x then v else kstB (fun z => if ([] : List Str).contains z then u z else m₀ z) [] y) = fun y => if y = x then v else m₀ y := fun v u => rfl
  refine kst_range (σ := Unit) (fun _ => news) (fun _ => []) (fun _ => True) [] (fun _ _ => True) () hh hr hsmall hn F N trivial (fun _ hp => nomatch hp) trivial ?_ ?_
  · intro c pre k t u h tk own hk hlt hoff _ _ F₁ N₁
    rw [hm] at F₁
    refine wpAny_mono (turn k t h tk own (by omega) (by omega) hoff F₁ N₁) (fun f s₂ hf => ?_) fun _ _ e => e
    have up : (∃ h' tk' m' news', s₂ = { s with heap := h', toks := tk' } ∧ Fr h₀ env.locals h' m' ∧ News h₀ env.locals h' news' ∧ (∀ p ∈ news ++ own, p ∈ news') ∧ ∀ z, z ≠ x → m' z = m₀ z) →
        InvEndN h₀ env.locals (KstS (fun _ : Unit => news) (fun _ => []) (fun _ => True) x [] m₀ (fun _ _ => True) (pre ++ [k])) own (news.map (·.1)) { s with heap := h, toks := tk } s₂ := by
      rintro ⟨h', tk', m', news', rfl, F', N', hn', hs'⟩
      exact ⟨h', tk', m', news', news, rfl, F', N', fun p hp => hn' p (List.mem_append_left _ hp), fun p hp => hn' p (List.mem_append_right _ hp), rfl, (), rfl, trivial, (fun _ hp => nomatch hp), (fun z hz _ _ => hs' z hz), trivial⟩
    cases f with
    | ret v => exact hf
    | brk => exact hf
    | next => exact up hf
    | cont => exact up hf
  · intro c u h tk _ _ F₁ N₁
    refine done u h tk ?_ N₁
    have e : (fun y => if y = x then u y else kstB (fun z => if ([] : List Str).contains z then u z else m₀ z) [] y) = fun y => if y = x then u y else m₀ y := rfl
    rw [e] at F₁
    exact F₁
end
end Mine
namespace Mine
open PySem PySem.W PySem.Calls PyProof.Rows

/-- inside a string: passed over whole -/
def Inert (l : List Nat) : Prop := ∀ r, close (l ++ r) = close r
/-- outside of strings: counts d, whatever stands behind -/
def Good (l : List Nat) (d : Int) : Prop := ∀ r, D (l ++ r) = d + D r
theorem Inert.nil : Inert [] := fun _ => rfl
theorem Inert.append {l l' : List Nat} (h : Inert l) (h' : Inert l') : Inert (l ++ l') := fun r => by rw [List.append_assoc, h, h']
theorem Inert.plain {c : Nat} (h1 : c ≠ 34) (h2 : c ≠ 92) : Inert [c] := fun r => by
  show close (c :: r) = close r
  rw [close_cons, if_neg h1, if_neg h2]
theorem Inert.esc {c : Nat} (h : c ≠ 10) : Inert [92, c] := fun r => by
  show close (92 :: c :: r) = close r
  rw [close_cons, if_neg (by decide), if_pos rfl]
  simp only [if_neg h]
theorem Good.quoted {l : List Nat} (h : Inert l) : Good (34 :: (l ++ [34])) 0 := fun r => by
  show D (34 :: ((l ++ [34]) ++ r)) = 0 + D r
  rw [D_cons, if_pos rfl, List.append_assoc, h]
  show (match close (34 :: r) with | some r' => D r' | none => _) = _
  rw [close_cons, if_pos rfl]
  exact (Int.zero_add _).symm
theorem Good.one {c : Nat} (h : c ≠ 34) : Good [c] ((if c = 40 then 1 else 0) - (if c = 41 then 1 else 0)) := fun r => by
  show D (c :: r) = _
  rw [D_cons, if_neg h]
  show D r + (if c = 40 then 1 else 0) - (if c = 41 then 1 else 0) = _
  generalize (if c = 40 then (1 : Int) else 0) = x
  generalize (if c = 41 then (1 : Int) else 0) = y
  omega
theorem Good.nil : Good [] 0 := fun r => by simp
theorem Good.append {l l' : List Nat} {d d' : Int} (h : Good l d) (h' : Good l' d') : Good (l ++ l') (d + d') := fun r => by
  rw [List.append_assoc, h, h']; omega
theorem Good.val {l : List Nat} {d : Int} (h : Good l d) : D l = d := by
  have := h []
  rw [List.append_nil] at this
  rw [this]
  have : D [] = 0 := by unfold D; rw [strip_none rfl]; rfl
  omega
theorem nats_append (a b : Array UInt8) : nats (a ++ b) = nats a ++ nats b := by simp [nats]
theorem in_start : (#[] : Array UInt8).size ≤ 2 * ([] : List Int).length ∧ Inert (nats #[]) := ⟨Nat.le_refl _, fun _ => rfl⟩
theorem in_plain {a : Array UInt8} {c : UInt8} {pre : List Int} {k : Int} (h : a.size ≤ 2 * pre.length) (hi : Inert (nats a)) (h1 : c.toNat ≠ 34) (h2 : c.toNat ≠ 92) : (a ++ #[c]).size ≤ 2 * (pre ++ [k]).length ∧ Inert (nats (a ++ #[c])) := by
  refine ⟨by simp; omega, ?_⟩
  rw [nats_append]
  exact hi.append (Inert.plain h1 h2)
theorem in_esc {a : Array UInt8} {c : UInt8} {pre : List Int} {k : Int} (h : a.size ≤ 2 * pre.length) (hi : Inert (nats a)) (h1 : c.toNat ≠ 10) : (a ++ #[92] ++ #[c]).size ≤ 2 * (pre ++ [k]).length ∧ Inert (nats (a ++ #[92] ++ #[c])) := by
  refine ⟨by simp; omega, ?_⟩
  rw [nats_append, nats_append, List.append_assoc]
  exact hi.append (Inert.esc h1)
theorem in_end {a : Array UInt8} (hi : Inert (nats a)) : Good (nats (#[34] ++ a ++ #[34])) 0 := by
  rw [nats_append, nats_append]
  exact Good.quoted hi
theorem good_list : ∀ (l : List Nat), l.all (· != 34) = true → Good l (((l.count 40 : Nat) : Int) - (l.count 41 : Nat))
  | [], _ => Good.nil
  | c :: l, h => by
    rw [List.all_cons, Bool.and_eq_true] at h
    have h1 : c ≠ 34 := by simpa using h.1
    have := (Good.one h1).append (good_list l h.2)
    have e : (((c :: l).count 40 : Nat) : Int) - ((c :: l).count 41 : Nat) = ((if c = 40 then 1 else 0) - (if c = 41 then 1 else 0)) + (((l.count 40 : Nat) : Int) - (l.count 41 : Nat)) := by
      simp only [List.count_cons]
      by_cases h40 : c = 40
      · subst h40; simp; omega
      · by_cases h41 : c = 41
        · subst h41; simp; omega
        · simp [h40, h41]
    rw [e]
    exact this
theorem good_lit {b : Array UInt8} {d : Int} (h : (nats b).all (· != 34) = true) (hd : (((nats b).count 40 : Nat) : Int) - ((nats b).count 41 : Nat) = d) : Good (nats b) d := by
  rw [← hd]; exact good_list _ h
theorem good_octet {v : Int} (h0 : 0 ≤ v) (h1 : v < 256) (a : v ≠ 34) (b : v ≠ 40) (c : v ≠ 41) : Good (nats #[v.toNat.toUInt8]) 0 := by
  have e : nats #[v.toNat.toUInt8] = [v.toNat] := by
    show [v.toNat % 256] = _
    rw [Nat.mod_eq_of_lt (by omega)]
  rw [e]
  have := Good.one (c := v.toNat) (by omega)
  rw [if_neg (by omega), if_neg (by omega)] at this
  exact this
theorem fmod256 (x : Int) : 0 ≤ x.fmod 256 ∧ x.fmod 256 < 256 := ⟨Int.fmod_nonneg_of_pos x (by decide), Int.fmod_lt_of_pos x (by decide)⟩
section
variable {prog : Program} {w : World} {A : Around} {E : Value → Shared → Prop} {s : Shared}
theorem add_exact {b c : Array UInt8} {t u : Tok} {Q : Value → Shared → Prop} (hz : b.size + c.size ≤ 16777216) (h : ∀ t' k, (b ++ c).size = b.size + c.size → Q (.bytes (b ++ c) t') { s with toks := k }) : wpAny (model prog w) A (binaryOp .Add (.bytes b t) (.bytes c u)) Q E s :=
  KBy.add_bytes hz fun t' k => h t' k Array.size_append
theorem pick8 {h₀ : Heap} {L l : Addr} {news : List (Addr × Obj)} {value slice : PySem.Expr} {n : Nat} {y : Int} {u : Tok} {v0 v1 v2 v3 v4 v5 v6 v7 : Value} {Q : Value → Shared → Prop} (N : News h₀ L s.heap news) (hm : (l, listOf #[v0, v1, v2, v3, v4, v5, v6, v7] n) ∈ news)
    (q0 : Q v0 s) (q1 : Q v1 s) (q2 : Q v2 s) (q3 : Q v3 s) (q4 : Q v4 s) (q5 : Q v5 s) (q6 : Q v6 s) (q7 : Q v7 s)
    (hs : subscripted slice false (.ref l) (.int (y.fmod 8) u) = operate [.ref l, .int (y.fmod 8) u] (getItem (.ref l) (.int (y.fmod 8) u)) := by with_unfolding_all rfl) :
    wpAny (model prog w) A (subscriptTail value slice (.ref l) (.int (y.fmod 8) u)) Q E s := by
  have hl : s.heap.IsList l [v0, v1, v2, v3, v4, v5, v6, v7].toArray := PySem.IsL.isList (n := n) (N _ hm).1
  have a0 := Int.fmod_nonneg_of_pos y (b := 8) (by decide)
  have a1 := Int.fmod_lt_of_pos y (b := 8) (by decide)
  have hc : y.fmod 8 = 0 ∨ y.fmod 8 = 1 ∨ y.fmod 8 = 2 ∨ y.fmod 8 = 3 ∨ y.fmod 8 = 4 ∨ y.fmod 8 = 5 ∨ y.fmod 8 = 6 ∨ y.fmod 8 = 7 := by omega
  generalize y.fmod 8 = k at *
  rcases hc with rfl | rfl | rfl | rfl | rfl | rfl | rfl | rfl
  · exact tail_any hl.typeIs slot_list_getitem.lookup (wpAny_getItem_list hl (by omega) (by omega) rfl q0) hs
  · exact tail_any hl.typeIs slot_list_getitem.lookup (wpAny_getItem_list hl (by omega) (by omega) rfl q1) hs
  · exact tail_any hl.typeIs slot_list_getitem.lookup (wpAny_getItem_list hl (by omega) (by omega) rfl q2) hs
  · exact tail_any hl.typeIs slot_list_getitem.lookup (wpAny_getItem_list hl (by omega) (by omega) rfl q3) hs
  · exact tail_any hl.typeIs slot_list_getitem.lookup (wpAny_getItem_list hl (by omega) (by omega) rfl q4) hs
  · exact tail_any hl.typeIs slot_list_getitem.lookup (wpAny_getItem_list hl (by omega) (by omega) rfl q5) hs
  · exact tail_any hl.typeIs slot_list_getitem.lookup (wpAny_getItem_list hl (by omega) (by omega) rfl q6) hs
  · exact tail_any hl.typeIs slot_list_getitem.lookup (wpAny_getItem_list hl (by omega) (by omega) rfl q7) hs
end
end Mine
namespace Mine
open PySem PySem.W PyProof.Rows
theorem pat1 (P : Params) : patK (hd.heap_39 P) 36 35 := ⟨_, _, _, _, _, rfl, rfl, rfl, rfl, rfl, rfl, rfl, rfl, rfl, by decide +kernel⟩
local macro_rules | `(tactic| walk_at "getMethod bytes") => `(tactic| (k_here; (with_reducible refine method_count ?_)))
local macro_rules | `(tactic| walk_at "getMethod ref") => `(tactic| (k_here; (with_reducible show wpAny _ _ (getMethod (Value.ref _) (PySem.Str.ofString "sub") _) _ _ _); k_dflt (refine method_sub (by k_asm) (by k_asm) (pat1 _) ?_)))
local macro_rules | `(tactic| walk_at "call builtin:bytes.count") => `(tactic| (k_here; (with_reducible show wpAny _ _ (call (Value.builtin "bytes.count") [Value.bytes _ _, Value.bytes _ _]) _ _ _); k_dflt (refine count_K (by rfl) ?_); intro t' k' hc'))
local macro_rules | `(tactic| walk_at "call builtin:re.Pattern.sub") => `(tactic| (k_here; (with_reducible show wpAny _ _ (call (Value.builtin "re.Pattern.sub") [Value.ref _, Value.bytes _ _, Value.bytes _ _]) _ _ _); k_dflt (refine sub_K (by k_asm) (by k_asm) (by k_asm) (pat1 _) (by rfl) (by assumption) ?_); intro h' t' k' F' N'))
set_option maxHeartbeats 8000000 in
theorem depth_body {w : World} {oc : Value} {od : Option Addr} {name qual : Str} {params : Arguments} {body : List Stmt} {scope : Scope} {dV kV doc pm cdv ct : Value} {an : Option Addr} {osl : Array (Option Value)}
   (ho : (hd.heap_39 w.params).lookup 44 = some ⟨oc, od, .func (fnOf name qual params body scope dV kV doc pm an cdv ct), osl⟩) {e1 : Env} {g : Heap} {mean : ExcName → Option Value} {mg mb : Str → Option Value} {loose : List Str} {news : List (Addr × Obj)} {L : Addr} {Q : Flow → Shared → Prop} {E : Value → Shared → Prop} {s : Shared} {b : Array UInt8} {t u : Tok} {d : Int}
   (X : (hd.heap_39 w.params).In g) (T : Top hd.view_39 loose mean mg mb g) (F : Fr g L s.heap (fun y => List.lookup y [(Str.ofString "depth", Value.int d u), (Str.ofString "data", Value.bytes b t)])) (N : News g L s.heap news) (hb : b.size ≤ 1048576)
   (hQ : ∀ t' h' tk m', Fr g L h' m' → News g L h' news → Q (.ret (.int (d + D (nats b)) t')) { s with heap := h', toks := tk }) :
   wpAny (model PySem.Challenge.rw_mj0024_02.row.prog w) ((callerA.deeper e1).deeper (envOf qual scope L 44 cdv)) (execs body (envOf qual scope L 44 cdv)) Q E s := by
  have e := (Option.some.inj ((show (hd.heap_39 w.params).lookup 44 = some _ from rfl).symm.trans ho))
  cases e
  clear ho
  suffices hh : (hd.heap_39 = hd.heap_39 ∧ PySem.Challenge.rw_mj0024_02 = PySem.Challenge.rw_mj0024_02) → _ from hh ⟨rfl, rfl⟩
  w_top off
  k_fill
  intro _
  k_steps
  all_goals (rw [depth_eq]; exact hQ _ _ _ _ (by assumption) (by assumption))
end Mine
namespace Mine
open PySem PySem.W PyProof.Rows
local macro_rules | `(tactic| walk_at "binaryOp Add bytes bytes") => `(tactic| (k_here; (with_reducible show wpAny _ _ (binaryOp Operator.Add (Value.bytes _ _) (Value.bytes _ _)) _ _ _); (try simp only [rangeKs_length] at *); k_dflt (refine add_exact (by ((try simp only [Array.size_append, List.size_toArray, List.length_cons, List.length_nil]); omega)) ?_); intro t' k' hz'))
local macro_rules | `(tactic| walk_at "exec For Name Call cons nil") => `(tactic| (k_here; (rename Fr _ _ _ _ => lF'); (with_unfolding_all refine' For_invVF lF' ?k1 ?k2 ?_; (case k1 => exact rfl); (case k2 => exact rfl); k_whole)))
local macro_rules | `(tactic| walk_at "subscriptTail Name BinOp ref int") => `(tactic| (k_here; (with_reducible show wpAny _ _ (subscriptTail _ _ (Value.ref _) (Value.int (Int.fmod _ 8) _)) _ _ _); k_dflt (refine' pick8 ?k1 ?k2 ?q0 ?q1 ?q2 ?q3 ?q4 ?q5 ?q6 ?q7 ?k7; (case k1 => k_asm); (case k2 => k_mem); (case k7 => with_unfolding_all rfl))))
set_option maxHeartbeats 8000000 in
theorem quoted_body {w : World} {oc : Value} {od : Option Addr} {name qual : Str} {params : Arguments} {body : List Stmt} {scope : Scope} {dV kV doc pm cdv ct : Value} {an : Option Addr} {osl : Array (Option Value)}
   (ho : (hd.heap_39 w.params).lookup 51 = some ⟨oc, od, .func (fnOf name qual params body scope dV kV doc pm an cdv ct), osl⟩) {e1 e2 : Env} {g : Heap} {mean : ExcName → Option Value} {mg mb : Str → Option Value} {loose : List Str} {news : List (Addr × Obj)} {L : Addr} {Q : Flow → Shared → Prop} {E : Value → Shared → Prop} {s : Shared} {y : Int} {t : Tok}
   (X : (hd.heap_39 w.params).In g) (T : Top hd.view_39 loose mean mg mb g) (F : Fr g L s.heap (fun y' => List.lookup y' [(Str.ofString "y", Value.int y t)])) (N : News g L s.heap news)
   (hQ : ∀ b t' h' tk m', Fr g L h' m' → News g L h' news → Good (nats b) 0 → b.size ≤ 8 → Q (.ret (.bytes b t')) { s with heap := h', toks := tk }) :
   wpAny (model PySem.Challenge.rw_mj0024_02.row.prog w) (((callerA.deeper e1).deeper e2).deeper (envOf qual scope L 51 cdv)) (execs body (envOf qual scope L 51 cdv)) Q E s := by
  have e := (Option.some.inj ((show (hd.heap_39 w.params).lookup 51 = some _ from rfl).symm.trans ho))
  cases e
  clear ho
  suffices hh : (hd.heap_39 = hd.heap_39 ∧ PySem.Challenge.rw_mj0024_02 = PySem.Challenge.rw_mj0024_02) → _ from hh ⟨rfl, rfl⟩
  w_top off
  k_fill
  intro _
  refine wpAny_mono (Q := Q) (E := fun _ _ => False) ?_ (fun _ _ h => h) (fun _ _ h => h.elim)
  k_with "state" => first | exact in_start | exact in_plain (by assumption) (by assumption) (by decide) (by decide) | exact in_esc (by assumption) (by assumption) (by decide)
  k_with "pyIter ref" => k_state_short (fun pre inside y => inside.size ≤ 2 * pre.length ∧ Inert (nats inside)) "inside" "y"
  k_steps
  all_goals exact hQ _ _ _ _ _ (by assumption) (kst_newsOf (by assumption) (fun p hp => by (repeat (first | exact hp | refine List.Mem.tail _ ?_)))) (in_end (by assumption)) (by (simp only [Array.size_append, List.size_toArray, List.length_cons, List.length_nil]; omega))
end Mine
namespace Mine
open PySem PySem.W PyProof.Rows
local macro_rules | `(tactic| walk_at "call ref") => `(tactic| (k_here; (with_reducible show wpAny _ _ (call (Value.ref 51) [Value.int _ _]) _ _ _); k_dflt (refine wpAny_call ?_; (refine' code_def ?k1 ?k2 ?k3 ?k4 ?k5 ?kA ?kF ?kK ?k6 ?k7 ?k8 ?k9 ?kB ?_ ?c2 ?c3 ?c4 ?c5; (case kA => exact rfl); (case kF => exact rfl); (case kK => exact rfl); (case k1 => k_asm); (case k2 => k_asm); (case k3 => k_asm); (case k4 => k_asm); (case k5 => k_asm); (case k6 => k_is); (case k7 => k_is); (case k8 => k_room); (case k9 => first | exact BindsTo.of_eq rfl | exact binds_K (by k_in) rfl (by k_is) rfl rfl rfl); (case c5 => decide); (case kB => exact locs rfl); (case c2 => exact rfl); (case c3 => exact rfl); (case c4 => exact rfl); k_whole; intro g' L' h' FG' F' N' B' X' T'); (refine' quoted_body ?eo X' T' ?ef ?en ?_; (case ef => exact F'); (case en => exact N'); (case eo => exact rfl))); intro b'' t'' h'' tk'' m'' F'' N'' hG'' hZ''; (try dsimp only)))
set_option maxHeartbeats 8000000 in
theorem piece_body {w : World} {oc : Value} {od : Option Addr} {name qual : Str} {params : Arguments} {body : List Stmt} {scope : Scope} {dV kV doc pm cdv ct : Value} {an : Option Addr} {osl : Array (Option Value)}
   (ho : (hd.heap_39 w.params).lookup 58 = some ⟨oc, od, .func (fnOf name qual params body scope dV kV doc pm an cdv ct), osl⟩) {e1 : Env} {base g : Heap} {mean : ExcName → Option Value} {mg mb : Str → Option Value} {loose : List Str} {news : List (Addr × Obj)} {L : Addr} {Q : Flow → Shared → Prop} {E : Value → Shared → Prop} {s : Shared} {x : Int} {t : Tok}
   (B : Below (callerA.deeper e1) base [e1] g) (X : (hd.heap_39 w.params).In g) (T : Top hd.view_39 loose mean mg mb g) (F : Fr g L s.heap (fun y' => List.lookup y' [(Str.ofString "x", Value.int x t)])) (N : News g L s.heap news)
   (hQ : ∀ a b d t' u' n h' tk m', Fr g L h' m' → News g L h' ((a, ({ cls := .type "tuple", data := .seq #[.bytes b t', .int d u'] n } : Obj)) :: news) → (∀ p ∈ news, p.1 < a) → Good (nats b) d → b.size ≤ 8 → Q (.ret (.ref a)) { s with heap := h', toks := tk }) :
   wpAny (model PySem.Challenge.rw_mj0024_02.row.prog w) ((callerA.deeper e1).deeper (envOf qual scope L 58 cdv)) (execs body (envOf qual scope L 58 cdv)) Q E s := by
  have e := (Option.some.inj ((show (hd.heap_39 w.params).lookup 58 = some _ from rfl).symm.trans ho))
  cases e
  clear ho
  suffices hh : (hd.heap_39 = hd.heap_39 ∧ PySem.Challenge.rw_mj0024_02 = PySem.Challenge.rw_mj0024_02) → _ from hh ⟨rfl, rfl⟩
  w_top off
  k_fill
  intro _
  refine wpAny_mono (Q := Q) (E := fun _ _ => False) ?_ (fun _ _ h => h) (fun _ _ h => h.elim)
  k_steps
  all_goals first
    | exact hQ _ _ _ _ _ _ _ _ _ (by assumption) (by assumption) (by assumption) (by assumption) (by assumption)
    | exact hQ _ _ _ _ _ _ _ _ _ (by assumption) (by assumption) (by assumption) (good_lit (by decide +kernel) (by decide +kernel)) (by decide +kernel)
    | ((rename News _ _ _ _ => nE); (rename _ ∧ AllLt _ _ => hA); exact hQ _ _ _ _ _ _ _ _ _ (by assumption) (kst_newsOf nE (List.forall_mem_cons.mpr ⟨List.Mem.head _, fun p hp => List.Mem.tail _ (List.Mem.tail _ hp)⟩)) (kst_ltOf hA.2) (good_octet (fmod256 _).1 (fmod256 _).2 (by assumption) (by assumption) (by assumption)) (Nat.le_of_ble_eq_true rfl))
end Mine
namespace Mine
open PySem PySem.W PySem.Calls PyProof.Rows

/-- a piece's count -/
def val : Dat → Int
  | .tuple [.bytes _, .int k] => k
  | _ => 0
/-- what holds of every piece -/
def Ok (d : Dat) : Prop := ∃ b k, d = Dat.tuple [Dat.bytes b, Dat.int k] ∧ Good (nats b) k ∧ b.size ≤ 8
def tot (ds : List Dat) : Int := (ds.map val).sum
theorem tot_append (a b : List Dat) : tot (a ++ b) = tot a + tot b := by simp [tot, List.sum_append]
def Acc (ds : List Dat) (account : List Int) : Prop := account.length = ds.length + 1 ∧ ∀ i : Nat, i ≤ ds.length → account.getD i 0 = tot (ds.take i)
theorem pieces_start : [Dat.tuple [Dat.bytes #[40], Dat.int 1]].length = ([] : List Int).length + 1 ∧ ∀ d ∈ [Dat.tuple [Dat.bytes #[40], Dat.int 1]], ∃ b k, d = Dat.tuple [Dat.bytes b, Dat.int k] ∧ Good (nats b) k ∧ b.size ≤ 8 := by
  refine ⟨rfl, fun d hd => ?_⟩
  rw [List.mem_singleton] at hd
  exact ⟨_, _, hd, good_lit (by decide +kernel) (by decide +kernel), by decide⟩
theorem pieces_turn {ds : List Dat} {pre : List Int} {k : Int} {b : Array UInt8} {d : Int} (h : ds.length = pre.length + 1) (ha : ∀ d ∈ ds, ∃ b k, d = Dat.tuple [Dat.bytes b, Dat.int k] ∧ Good (nats b) k ∧ b.size ≤ 8) (hG : Good (nats b) d) (hz : b.size ≤ 8) :
    (ds ++ [Dat.tuple [Dat.bytes b, Dat.int d]]).length = (pre ++ [k]).length + 1 ∧ ∀ x ∈ ds ++ [Dat.tuple [Dat.bytes b, Dat.int d]], ∃ b k, x = Dat.tuple [Dat.bytes b, Dat.int k] ∧ Good (nats b) k ∧ b.size ≤ 8 := by
  refine ⟨by simp; omega, fun x hx => ?_⟩
  rcases List.mem_append.1 hx with h1 | h1
  · exact ha x h1
  · rw [List.mem_singleton] at h1
    exact ⟨b, d, h1, hG, hz⟩
end Mine
namespace Mine
open PySem PySem.W PySem.Calls PyProof.Rows

/-- a frame with some names written out -/
theorem fr_put {h₀ h : Heap} {L : Addr} {m : Str → Option Value} (ps : List (Str × Value)) (F : Fr h₀ L h m) (hp : ∀ p ∈ ps, m p.1 = some p.2) : Fr h₀ L h (kstB m ps) := by
  have e : kstB m ps = m := funext fun z => kstB_eq hp (fun _ => rfl)
  rw [e]; exact F
theorem put_eq {m : Str → Option Value} {ps : List (Str × Value)} (hp : ∀ p ∈ ps, m p.1 = some p.2) (z : Str) : kstB m ps z = m z := kstB_eq hp (fun _ => rfl)
/-- how a turn ends: a word of the frame's names and the ledger -/
def EndJ (h₀ : Heap) (L : Addr) (J : (Str → Option Value) → Prop) (need : List (Addr × Obj)) (s₁ : Shared) (Q : Flow → Shared → Prop) (f : Flow) (s₂ : Shared) : Prop :=
  match f with
  | .ret v => Q (.ret v) s₂
  | .brk => Q .next s₂
  | _ => ∃ h' tk m', s₂ = { s₁ with heap := h', toks := tk } ∧ Fr h₀ L h' m' ∧ News h₀ L h' need ∧ J m'
section
variable {prog : Program} {w : World} {A : Around} {E : Value → Shared → Prop} {s : Shared} {env : Env} {h₀ : Heap} {x : Str} {body : List Stmt} {Q : Flow → Shared → Prop}
theorem range_inv {r : Addr} {a₀ b₀ : Int} {t₀ u₀ v₀ : Tok} {n : Nat} {m₀ : Str → Option Value} {news : List (Addr × Obj)} (J : Nat → (Str → Option Value) → Prop)
    (hh : A.handled = none) (hr : IsRange s.heap r a₀ b₀ 1 t₀ u₀ v₀) (hsmall : Builtin.Range.small a₀ b₀ 1 = true) (hn : Builtin.Range.rangeSize a₀ b₀ 1 = (n : Int)) (F : Fr h₀ env.locals s.heap m₀) (N : News h₀ env.locals s.heap news) (hj : J 0 m₀)
    (turn : ∀ (i : Nat) t m h tk own, i < n → J i m → OwnOff own (news.map (·.1)) → Fr h₀ env.locals h (fun y => if y = x then some (.int (a₀ + (i : Int)) t) else m y) → News h₀ env.locals h (news ++ own) →
      wpAny (model prog w) A (execs body env) (EndJ h₀ env.locals (J (i + 1)) (news ++ own) { s with heap := h, toks := tk } Q) E { s with heap := h, toks := tk })
    (done : ∀ m h tk, J n m → Fr h₀ env.locals h m → News h₀ env.locals h news → Q .next { s with heap := h, toks := tk }) :
    wpAny (model prog w) A (pyIter (.ref r)) (fun it s₂ => LoopAtV prog w A h₀ env x body Q E it s₂) E s := by
  refine wpAny_pyIter_range hr hsmall ?_
  have W : Walks prog w A s.heap.objs.size [s.heap.objs.size] [s.heap.objs.size] n (fun i v => i < n ∧ ∃ t, v = .int (a₀ + i * 1) t)
      (fun i h => IsRangeIter h s.heap.objs.size (a₀ + (i : Nat) * 1) ((n : Int) - (i : Nat)) 1) := (Walks.range hh _ a₀ 1 n).bound
  have hI : ∀ p ∈ news, p.1 ∉ [s.heap.objs.size] := fun p hp hI => absurd (Heap.lt_size (N p hp).1) ((List.mem_singleton.mp hI) ▸ Nat.lt_irrefl _)
  refine loop_invN (fun i m nx => nx = news ∧ J i m) W ?_ ?_ hI hI ?_ (F.push _) (fun p hp => ⟨Heap.get?_push_of_some _ (N p hp).1, (N p hp).2⟩) ⟨rfl, hj⟩ ?_ ?_
  · intro hm
    exact absurd F.ns.lt ((List.mem_singleton.mp hm) ▸ Nat.lt_irrefl _)
  · intro b hb
    rw [List.mem_singleton.mp hb]
    exact next_is_new F
  · show IsRangeIter _ _ _ _ _
    rw [hn]
    simpa using Heap.get?_push_size _ rfl
  · rintro i v m₁ nx h tk own hi ⟨_, t, rfl⟩ _ hoff ⟨rfl, hJ⟩ F₁ N₁
    have e1 : a₀ + (i : Int) * 1 = a₀ + (i : Int) := by omega
    rw [e1] at F₁
    refine wpAny_mono (turn i t m₁ h tk own hi hJ hoff F₁ N₁) (fun f s₂ hf => ?_) fun _ _ e => e
    have up : (∃ h' tk' m', s₂ = { s with heap := h', toks := tk' } ∧ Fr h₀ env.locals h' m' ∧ News h₀ env.locals h' (nx ++ own) ∧ J (i + 1) m') →
        InvEndN h₀ env.locals (fun m nx' => nx' = nx ∧ J (i + 1) m) own (nx.map (·.1)) { s with heap := h, toks := tk } s₂ := by
      rintro ⟨h', tk', m', rfl, F', N', hJ'⟩
      exact ⟨h', tk', m', _, nx, rfl, F', N', fun p hp => List.mem_append_left _ hp, fun p hp => List.mem_append_right _ hp, rfl, rfl, hJ'⟩
    cases f with
    | ret v => exact hf
    | brk => exact hf
    | next => exact up hf
    | cont => exact up hf
  · rintro m₁ nx h tk ⟨rfl, hJ⟩ F₁ N₁
    exact done m₁ h tk hJ F₁ N₁
end
/- the plain law -/
theorem acc_start : Acc [] [0] := ⟨rfl, fun i hi => by
  have : i = 0 := by simpa using hi
  subst this; rfl⟩
theorem acc_len {ds : List Dat} {as : List Int} (h : Acc ds as) : as.length = ds.length + 1 := h.1
theorem acc_turn {ds : List Dat} {as : List Int} {b : Array UInt8} {k : Int} (h : Acc ds as) : Acc (ds ++ [Dat.tuple [Dat.bytes b, Dat.int k]]) (as ++ [as.getD (-1 + (as.length : Int)).toNat 0 + k]) := by
  obtain ⟨h1, h2⟩ := h
  refine ⟨by simp [h1], fun i hi => ?_⟩
  have e : (-1 + (as.length : Int)).toNat = ds.length := by omega
  rw [e]
  simp only [List.length_append, List.length_cons, List.length_nil] at hi
  by_cases hc : i ≤ ds.length
  · rw [List.take_append_of_le_length hc, ← h2 i hc]
    simp only [List.getD_eq_getElem?_getD]
    rw [List.getElem?_append_left (by omega)]
  · have hi' : i = ds.length + 1 := by omega
    subst hi'
    have e2 : (ds ++ [Dat.tuple [Dat.bytes b, Dat.int k]]).take (ds.length + 1) = ds ++ [Dat.tuple [Dat.bytes b, Dat.int k]] := List.take_of_length_le (by simp)
    rw [e2, tot_append]
    simp only [List.getD_eq_getElem?_getD]
    rw [List.getElem?_append_right (by omega), h1, Nat.sub_self]
    have h3 := h2 ds.length (Nat.le_refl _)
    rw [List.take_length, List.getD_eq_getElem?_getD] at h3
    simp only [List.getElem?_cons_zero, Option.getD_some]
    rw [h3]
    simp [tot, val]
theorem acc_eq {ds : List Dat} {as : List Int} {l : List Nat} {f j : Nat} (h : Acc ds as) (hk : f + j ≤ ds.length) (hG : Good l (tot ((ds.drop f).take j))) : as.getD f 0 + D l = as.getD (f + j) 0 := by
  rw [hG.val, h.2 f (by omega), h.2 (f + j) hk, List.take_add, tot_append]
theorem good_turn {ds : List Dat} {b b' : Array UInt8} {d : Int} {f j : Nat} (hG : Good (nats b) (tot ((ds.drop f).take j))) (hOk : ∀ d ∈ ds, ∃ b k, d = Dat.tuple [Dat.bytes b, Dat.int k] ∧ Good (nats b) k ∧ b.size ≤ 8) (hd : ds[f + j]? = some (Dat.tuple [Dat.bytes b', Dat.int d])) :
    Good (nats (b ++ b')) (tot ((ds.drop f).take (j + 1))) ∧ b'.size ≤ 8 := by
  obtain ⟨b2, k2, e, h1, h2⟩ := hOk _ (List.mem_of_getElem? hd)
  cases e
  refine ⟨?_, h2⟩
  have e3 : (ds.drop f)[j]? = some (Dat.tuple [Dat.bytes b', Dat.int d]) := by rw [List.getElem?_drop]; exact hd
  have e4 : (ds.drop f).take (j + 1) = (ds.drop f).take j ++ [Dat.tuple [Dat.bytes b', Dat.int d]] := by rw [List.take_add_one, e3]; rfl
  rw [e4, tot_append, nats_append]
  refine hG.append ?_
  have : tot [Dat.tuple [Dat.bytes b', Dat.int d]] = d := by simp [tot, val]
  rw [this]
  exact h1
end Mine
namespace Mine
open PySem PySem.W PyProof.Rows
local macro_rules | `(tactic| walk_at "call ref") => `(tactic| (k_here; (with_reducible show wpAny _ _ (call (Value.ref 44) [Value.bytes _ _, Value.int _ _]) _ _ _); k_dflt (refine wpAny_call ?_; (refine' code_def ?k1 ?k2 ?k3 ?k4 ?k5 ?kA ?kF ?kK ?k6 ?k7 ?k8 ?k9 ?kB ?_ ?c2 ?c3 ?c4 ?c5; (case kA => exact rfl); (case kF => exact rfl); (case kK => exact rfl); (case k1 => k_asm); (case k2 => k_asm); (case k3 => k_asm); (case k4 => k_asm); (case k5 => k_asm); (case k6 => k_is); (case k7 => k_is); (case k8 => k_room); (case k9 => first | exact BindsTo.of_eq rfl | exact binds_K (by k_in) rfl (by k_is) rfl rfl rfl); (case c5 => decide); (case kB => exact locs rfl); (case c2 => exact rfl); (case c3 => exact rfl); (case c4 => exact rfl); k_whole; intro g' L' h' FG' F' N' B' X' T'); (refine' depth_body ?eo X' T' ?ef ?en ?eb ?_; (case ef => exact F'); (case en => exact N'); (case eo => exact rfl); (case eb => omega))); intro t'' h'' tk'' m'' F'' N''; (try dsimp only)))
local macro_rules | `(tactic| walk_at "binaryOp Add bytes bytes") => `(tactic| (k_here; (with_reducible show wpAny _ _ (binaryOp Operator.Add (Value.bytes _ _) (Value.bytes _ _)) _ _ _); k_dflt (refine add_exact (by omega) ?_); intro t' k' hz'))
set_option maxHeartbeats 16000000 in
theorem turn_body {w : World} {oc : Value} {od : Option Addr} {name qual : Str} {params : Arguments} {body : List Stmt} {scope : Scope} {dV kV doc pm cdv ct : Value} {an : Option Addr} {osl : Array (Option Value)}
   (ho : (hd.heap_39 w.params).lookup 65 = some ⟨oc, od, .func (fnOf name qual params body scope dV kV doc pm an cdv ct), osl⟩) {tg1 it1 tg2 it2 : PySem.Expr} {b1 b2 o1 o2 r1 r2 : List Stmt} {p1 p2 : Pos} (hb1 : body.drop 6 = .For tg1 it1 b1 o1 p1 :: r1) (hb2 : b1.drop 1 = .For tg2 it2 b2 o2 p2 :: r2)
   {g : Heap} {mean : ExcName → Option Value} {mg mb m₀ : Str → Option Value} {loose : List Str} {L fa l h9 : Addr} {cd : Value} {us ps : List Value} {as : List Int} {ds : List Dat} {n n9 : Nat} {tl : List (Addr × Obj)} {Q : Flow → Shared → Prop} {E : Value → Shared → Prop} {s : Shared} {k f : Int} {t1 t2 t3 : Tok} {b : Array UInt8}
   (X : (hd.heap_39 w.params).In g) (T : Top hd.view_39 loose mean mg mb g) (K0 : Below callerA g [] g)
   (F : Fr g L s.heap (fun y => if y = Str.ofString "last" then some (Value.int k t1) else if y = Str.ofString "part" then some (Value.bytes b t2) else if y = Str.ofString "first" then some (Value.int f t3) else if y = Str.ofString "account" then some (Value.ref h9) else if y = Str.ofString "pieces" then some (Value.ref l) else m₀ y))
   (N : News g L s.heap ((h9, listOf us.toArray n9) :: (l, listOf ps.toArray n) :: tl)) (hI : IntsAre us as) (hD : DatAll ((h9, listOf us.toArray n9) :: (l, listOf ps.toArray n) :: tl) ps ds) (hn : ds.length ≤ 9) (hOk : ∀ d ∈ ds, ∃ b k, d = Dat.tuple [Dat.bytes b, Dat.int k] ∧ Good (nats b) k ∧ b.size ≤ 8) (hal : as.length = ds.length + 1) (h0 : 0 ≤ f) (h1 : f ≤ k) (h2 : k ≤ (ds.length : Int)) (hz : b.size ≤ 80) (hv : as.getD f.toNat 0 + D (nats b) = as.getD k.toNat 0)
   (hQ1 : ∀ h' tk m' d b' t', Fr g L h' m' → News g L h' ((h9, listOf us.toArray n9) :: (l, listOf ps.toArray n) :: tl) → ds[k.toNat]? = some (Dat.tuple [Dat.bytes b', Dat.int d]) → m' (Str.ofString "part") = some (Value.bytes (b ++ b') t') → m' (Str.ofString "first") = some (Value.int f t3) → m' (Str.ofString "account") = some (Value.ref h9) → m' (Str.ofString "pieces") = some (Value.ref l) → Q .next { s with heap := h', toks := tk })
   (hQ2 : k = (ds.length : Int) → ∀ h' tk m', Fr g L h' m' → News g L h' ((h9, listOf us.toArray n9) :: (l, listOf ps.toArray n) :: tl) → m' (Str.ofString "part") = some (Value.bytes b t2) → m' (Str.ofString "first") = some (Value.int f t3) → m' (Str.ofString "account") = some (Value.ref h9) → m' (Str.ofString "pieces") = some (Value.ref l) → Q .next { s with heap := h', toks := tk }) :
   wpAny (model PySem.Challenge.rw_mj0024_02.row.prog w) (callerA.deeper (envOf qual scope L fa cd)) (execs b2 (envOf qual scope L fa cd)) Q E s := by
  have e := (Option.some.inj ((show (hd.heap_39 w.params).lookup 65 = some _ from rfl).symm.trans ho))
  cases e
  clear ho
  cases hb1
  cases hb2
  suffices hh : (hd.heap_39 = hd.heap_39 ∧ PySem.Challenge.rw_mj0024_02 = PySem.Challenge.rw_mj0024_02) → _ from hh ⟨rfl, rfl⟩
  w_top off
  k_fill
  intro _
  refine wpAny_mono (Q := Q) (E := fun _ _ => False) ?_ (fun _ _ h => h) (fun _ _ h => h.elim)
  k_steps
  · exact absurd hv (by assumption)
  · exact hQ1 _ _ _ _ _ _ (by assumption) (by assumption) (by assumption) (by with_unfolding_all rfl) (by with_unfolding_all rfl) (by with_unfolding_all rfl) (by with_unfolding_all rfl)
  · exact hQ2 (by omega) _ _ _ (by assumption) (by assumption) (by with_unfolding_all rfl) (by with_unfolding_all rfl) (by with_unfolding_all rfl) (by with_unfolding_all rfl)
end Mine
namespace Mine
open PySem PySem.W PyProof.Rows
set_option maxHeartbeats 16000000 in
theorem acc_body {w : World} {oc : Value} {od : Option Addr} {name qual : Str} {params : Arguments} {body : List Stmt} {scope : Scope} {dV kV doc pm cdv ct : Value} {an : Option Addr} {osl : Array (Option Value)}
   (ho : (hd.heap_39 w.params).lookup 65 = some ⟨oc, od, .func (fnOf name qual params body scope dV kV doc pm an cdv ct), osl⟩) {tg1 it1 : PySem.Expr} {b1 o1 r1 : List Stmt} {p1 : Pos} (hb1 : body.drop 5 = .For tg1 it1 b1 o1 p1 :: r1)
   {g : Heap} {mean : ExcName → Option Value} {mg mb m₀ : Str → Option Value} {loose : List Str} {L fa a h9 : Addr} {cd : Value} {us : List Value} {as : List Int} {n n9 : Nat} {tl : List (Addr × Obj)} {Q : Flow → Shared → Prop} {E : Value → Shared → Prop} {s : Shared} {k : Int} {t1 t2 : Tok} {b : Array UInt8}
   (X : (hd.heap_39 w.params).In g) (T : Top hd.view_39 loose mean mg mb g) (K0 : Below callerA g [] g)
   (F : Fr g L s.heap (fun y => if y = Str.ofString "piece" then some (Value.ref a) else if y = Str.ofString "account" then some (Value.ref h9) else m₀ y))
   (N : News g L s.heap ((h9, listOf us.toArray n9) :: (a, ({ cls := .type "tuple", data := .seq #[.bytes b t1, .int k t2] n } : Obj)) :: tl)) (hI : IntsAre us as) (hl0 : 1 ≤ as.length) (hl1 : as.length ≤ 10) (hne : h9 ≠ a) (hoff : OwnOff tl [h9])
   (hQ : ∀ h' tk m' n' t', Fr g L h' m' → News g L h' ((h9, listOf (us ++ [Value.int (as.getD (-1 + (as.length : Int)).toNat 0 + k) t']).toArray n') :: tl) → (∀ z, z ≠ Str.ofString "piece" → m' z = if z = Str.ofString "account" then some (Value.ref h9) else m₀ z) → Q .next { s with heap := h', toks := tk }) :
   wpAny (model PySem.Challenge.rw_mj0024_02.row.prog w) (callerA.deeper (envOf qual scope L fa cd)) (execs b1 (envOf qual scope L fa cd)) Q E s := by
  have e := (Option.some.inj ((show (hd.heap_39 w.params).lookup 65 = some _ from rfl).symm.trans ho))
  cases e
  clear ho
  cases hb1
  suffices hh : (hd.heap_39 = hd.heap_39 ∧ PySem.Challenge.rw_mj0024_02 = PySem.Challenge.rw_mj0024_02) → _ from hh ⟨rfl, rfl⟩
  w_top off
  k_fill
  intro _
  refine wpAny_mono (Q := Q) (E := fun _ _ => False) ?_ (fun _ _ h => h) (fun _ _ h => h.elim)
  k_steps
  refine append_K F N (Upd.head ?_) ?_ ?_
  · intro p hp
    rcases List.mem_cons.mp hp with rfl | hp
    · exact fun h => hne h.symm
    · exact hoff p hp h9 (List.Mem.head _)
  · intro h' F' N'
    refine wpAny_execs_nil ?_
    have e : us.toArray.push (Value.int (as.getD (-1 + (as.length : Int)).toNat 0 + k) (s.toks + 1 + 1 + 1)) = (us ++ [Value.int (as.getD (-1 + (as.length : Int)).toNat 0 + k) (s.toks + 1 + 1 + 1)]).toArray := by simp
    rw [e] at N'
    exact hQ h' _ _ _ _ F' (kst_newsOf N' (List.forall_mem_cons.mpr ⟨List.Mem.head _, fun p hp => List.Mem.tail _ (List.Mem.tail _ hp)⟩)) (fun z hz => if_neg hz)
  · have : us.length = as.length := hI.length
    show us.toArray.size ≤ _
    rw [List.size_toArray, this]
    exact Nat.le_trans hl1 (by decide)
end Mine
namespace Mine
open PySem PySem.W PyProof.Rows
local macro_rules | `(tactic| walk_at "exec For Name Call cons nil") => `(tactic| (k_here; (rename Fr _ _ _ _ => lF'); (with_unfolding_all refine' For_invVF lF' ?k1 ?k2 ?_; (case k1 => exact rfl); (case k2 => exact rfl); k_whole)))
set_option maxHeartbeats 16000000 in
theorem outer_body {w : World} {oc : Value} {od : Option Addr} {name qual : Str} {params : Arguments} {body : List Stmt} {scope : Scope} {dV kV doc pm cdv ct : Value} {an : Option Addr} {osl : Array (Option Value)}
   (ho : (hd.heap_39 w.params).lookup 65 = some ⟨oc, od, .func (fnOf name qual params body scope dV kV doc pm an cdv ct), osl⟩) {tg1 it1 : PySem.Expr} {b1 o1 r1 : List Stmt} {p1 : Pos} (hb1 : body.drop 6 = .For tg1 it1 b1 o1 p1 :: r1)
   {g : Heap} {mean : ExcName → Option Value} {mg mb m₀ : Str → Option Value} {loose : List Str} {L fa l h9 : Addr} {cd : Value} {us ps : List Value} {as : List Int} {ds : List Dat} {n n9 : Nat} {tl : List (Addr × Obj)} {Q : Flow → Shared → Prop} {E : Value → Shared → Prop} {s : Shared} {f : Int} {t3 : Tok}
   (X : (hd.heap_39 w.params).In g) (T : Top hd.view_39 loose mean mg mb g) (K0 : Below callerA g [] g)
   (F : Fr g L s.heap (fun y => if y = Str.ofString "first" then some (Value.int f t3) else if y = Str.ofString "account" then some (Value.ref h9) else if y = Str.ofString "pieces" then some (Value.ref l) else m₀ y))
   (N : News g L s.heap ((h9, listOf us.toArray n9) :: (l, listOf ps.toArray n) :: tl)) (hI : IntsAre us as) (hD : DatAll ((h9, listOf us.toArray n9) :: (l, listOf ps.toArray n) :: tl) ps ds) (hn : ds.length ≤ 9) (hOk : ∀ d ∈ ds, ∃ b k, d = Dat.tuple [Dat.bytes b, Dat.int k] ∧ Good (nats b) k ∧ b.size ≤ 8) (hA : Acc ds as) (h0 : 0 ≤ f) (h1 : f ≤ (ds.length : Int))
   (hQ : ∀ h' tk m', Fr g L h' m' → News g L h' ((h9, listOf us.toArray n9) :: (l, listOf ps.toArray n) :: tl) → m' (Str.ofString "account") = some (Value.ref h9) → m' (Str.ofString "pieces") = some (Value.ref l) → Q .next { s with heap := h', toks := tk }) :
   wpAny (model PySem.Challenge.rw_mj0024_02.row.prog w) (callerA.deeper (envOf qual scope L fa cd)) (execs b1 (envOf qual scope L fa cd)) Q E s := by
  have e := (Option.some.inj ((show (hd.heap_39 w.params).lookup 65 = some _ from rfl).symm.trans ho))
  have ho' := ho
  cases e
  cases hb1
  suffices hh : (hd.heap_39 = hd.heap_39 ∧ PySem.Challenge.rw_mj0024_02 = PySem.Challenge.rw_mj0024_02) → _ from hh ⟨rfl, rfl⟩
  clear ho ho'
  w_top off
  k_fill
  intro _
  refine wpAny_mono (Q := Q) (E := fun _ _ => False) ?_ (fun _ _ h => h) (fun _ _ h => h.elim)
  (repeat' ((fail_if_success (with_reducible show wpAny _ _ (pyIter _) _ _ _)); (first | (k_unfold; (try dsimp only)) | (k_end; wrow_close) | walk1 | (dsimp only; walk1) | fail "no step")))
  rename_i h1' tk1 h2' rg F2 N2 up2
  have hlen := acc_len hA
  with_unfolding_all refine' range_inv (n := ((ds.length : Int) + 1 - f).toNat) (fun i m => ∃ b t, m (Str.ofString "part") = some (Value.bytes b t) ∧ m (Str.ofString "first") = some (Value.int f t3) ∧ m (Str.ofString "account") = some (Value.ref h9) ∧ m (Str.ofString "pieces") = some (Value.ref l) ∧ b.size ≤ 8 * i ∧ Good (nats b) (tot ((ds.drop f.toNat).take i))) ?hh ?hr ?hs ?hz F2 N2 ?hj ?turn ?done
  case hh => exact rfl
  case hr => assumption
  case hs => exact small_one (by omega) (by omega) (by omega) (by omega)
  case hz => exact rangeSize_nat _ _
  case hj => exact ⟨#[], _, rfl, rfl, rfl, rfl, Nat.le_refl _, Good.nil⟩
  case turn =>
    rintro i t m h tk own hi ⟨b, tb, m1, m2, m3, m4, hz, hG⟩ hoff F3 N3
    have hp : ∀ p ∈ [(Str.ofString "last", Value.int (f + (i : Int)) t), (Str.ofString "part", Value.bytes b tb), (Str.ofString "first", Value.int f t3), (Str.ofString "account", Value.ref h9), (Str.ofString "pieces", Value.ref l)], (fun y => if y = Str.ofString "last" then some (Value.int (f + (i : Int)) t) else m y) p.1 = some p.2 := by
      intro p hp
      simp only [List.mem_cons, List.not_mem_nil, or_false] at hp
      rcases hp with rfl | rfl | rfl | rfl | rfl
      · exact if_pos rfl
      · exact (if_neg (show ¬ Str.ofString "part" = Str.ofString "last" by decide)).trans m1
      · exact (if_neg (show ¬ Str.ofString "first" = Str.ofString "last" by decide)).trans m2
      · exact (if_neg (show ¬ Str.ofString "account" = Str.ofString "last" by decide)).trans m3
      · exact (if_neg (show ¬ Str.ofString "pieces" = Str.ofString "last" by decide)).trans m4
    have F4 := fr_put _ F3 hp
    have hfi : f.toNat + i ≤ ds.length := by omega
    have hke : (f + (i : Int)).toNat = f.toNat + i := by omega
    refine' turn_body (b := b) (tl := tl ++ own) (as := as) (ds := ds) ?eo ?e1 ?e2 X T K0 F4 N3 hI ?hD hn hOk hlen h0 ?h1 ?h2 ?hz ?hv ?q1 ?q2
    case eo => exact rfl
    case e1 => exact rfl
    case e2 => exact rfl
    case hD => exact DatAll.mono (fun p hp => by
      rcases List.mem_cons.mp hp with rfl | hp
      · exact List.Mem.head _
      · rcases List.mem_cons.mp hp with rfl | hp
        · exact List.Mem.tail _ (List.Mem.head _)
        · exact List.Mem.tail _ (List.Mem.tail _ (List.mem_append_left _ hp))) hD
    case h1 => omega
    case h2 => omega
    case hz => omega
    case hv => rw [hke]; exact acc_eq hA hfi hG
    case q1 =>
      intro h' tk' m' d b' t' F' N' hd' a1 a2 a3 a4
      rw [hke] at hd'
      obtain ⟨hG', hz'⟩ := good_turn hG hOk hd'
      refine ⟨h', tk', m', rfl, F', N', b ++ b', t', a1, a2, a3, a4, ?_, hG'⟩
      rw [Array.size_append]; omega
    case q2 =>
      intro hk h' tk' m' F' N' a1 a2 a3 a4
      refine ⟨h', tk', m', rfl, F', N', b, tb, a1, a2, a3, a4, by omega, ?_⟩
      have e1 : (ds.drop f.toNat).take (i + 1) = (ds.drop f.toNat).take i := by
        rw [List.take_of_length_le (by rw [List.length_drop]; omega), List.take_of_length_le (by rw [List.length_drop]; omega)]
      rw [e1]; exact hG
  case done =>
    rintro m h tk ⟨b, tb, m1, m2, m3, m4, hz, hG⟩ F3 N3
    exact wpAny_execs_nil (hQ _ _ _ F3 N3 m3 m4)
end Mine
namespace Mine
open PySem PySem.W PyProof.Rows
local macro_rules | `(tactic| walk_at "exec For Name Call cons nil") => `(tactic| (k_here; (rename Fr _ _ _ _ => lF'); (with_unfolding_all refine' For_invVF lF' ?k1 ?k2 ?_; (case k1 => exact rfl); (case k2 => exact rfl); k_whole)))
set_option maxHeartbeats 16000000 in
theorem last_body {w : World} {oc : Value} {od : Option Addr} {name qual : Str} {params : Arguments} {body : List Stmt} {scope : Scope} {dV kV doc pm cdv ct : Value} {an : Option Addr} {osl : Array (Option Value)}
   (ho : (hd.heap_39 w.params).lookup 65 = some ⟨oc, od, .func (fnOf name qual params body scope dV kV doc pm an cdv ct), osl⟩) {tb : List Stmt} (hb : body.drop 6 = tb)
   {g : Heap} {mean : ExcName → Option Value} {mg mb m₀ : Str → Option Value} {loose : List Str} {L fa l h9 : Addr} {cd : Value} {us ps : List Value} {as : List Int} {ds : List Dat} {n n9 : Nat} {tl : List (Addr × Obj)} {Q : Flow → Shared → Prop} {E : Value → Shared → Prop} {s : Shared}
   (X : (hd.heap_39 w.params).In g) (T : Top hd.view_39 loose mean mg mb g) (K0 : Below callerA g [] g)
   (F : Fr g L s.heap (fun y => if y = Str.ofString "account" then some (Value.ref h9) else if y = Str.ofString "pieces" then some (Value.ref l) else m₀ y))
   (N : News g L s.heap ((h9, listOf us.toArray n9) :: (l, listOf ps.toArray n) :: tl)) (hI : IntsAre us as) (hD : DatAll ((h9, listOf us.toArray n9) :: (l, listOf ps.toArray n) :: tl) ps ds) (hn : ds.length ≤ 9) (hOk : ∀ d ∈ ds, ∃ b k, d = Dat.tuple [Dat.bytes b, Dat.int k] ∧ Good (nats b) k ∧ b.size ≤ 8) (hA : Acc ds as)
   (hQ : ∀ h' tk m', Fr g L h' m' → Q (.ret (.bool true)) { s with heap := h', toks := tk }) :
   wpAny (model PySem.Challenge.rw_mj0024_02.row.prog w) (callerA.deeper (envOf qual scope L fa cd)) (execs tb (envOf qual scope L fa cd)) Q E s := by
  have e := (Option.some.inj ((show (hd.heap_39 w.params).lookup 65 = some _ from rfl).symm.trans ho))
  cases e
  clear ho
  cases hb
  dsimp only [List.drop]
  suffices hh : (hd.heap_39 = hd.heap_39 ∧ PySem.Challenge.rw_mj0024_02 = PySem.Challenge.rw_mj0024_02) → _ from hh ⟨rfl, rfl⟩
  w_top off
  k_fill
  intro _
  refine wpAny_mono (Q := Q) (E := fun _ _ => False) ?_ (fun _ _ h => h) (fun _ _ h => h.elim)
  (repeat' ((fail_if_success (with_reducible show wpAny _ _ (pyIter _) _ _ _)); (first | (k_unfold; (try dsimp only)) | (k_end; wrow_close) | walk1 | (dsimp only; walk1) | fail "no step")))
  rename_i h1' tk1 h2' rg F2 N2 up2
  with_unfolding_all refine' range_inv (n := ((ds.length : Int) + 1 - 0).toNat) (fun i m => m (Str.ofString "account") = some (Value.ref h9) ∧ m (Str.ofString "pieces") = some (Value.ref l)) ?hh ?hr ?hs ?hz F2 N2 ?hj ?turn ?done
  case hh => exact rfl
  case hr => assumption
  case hs => exact small_one (by omega) (by omega) (by omega) (by omega)
  case hz => exact rangeSize_nat _ _
  case hj => exact ⟨rfl, rfl⟩
  case turn =>
    rintro i t m h tk own hi ⟨m1, m2⟩ hoff F3 N3
    have hp : ∀ p ∈ [(Str.ofString "first", Value.int (0 + (i : Int)) t), (Str.ofString "account", Value.ref h9), (Str.ofString "pieces", Value.ref l)], (fun y => if y = Str.ofString "first" then some (Value.int (0 + (i : Int)) t) else m y) p.1 = some p.2 := by
      intro p hp
      simp only [List.mem_cons, List.not_mem_nil, or_false] at hp
      rcases hp with rfl | rfl | rfl
      · exact if_pos rfl
      · exact (if_neg (show ¬ Str.ofString "account" = Str.ofString "first" by decide)).trans m1
      · exact (if_neg (show ¬ Str.ofString "pieces" = Str.ofString "first" by decide)).trans m2
    have F4 := fr_put _ F3 hp
    refine' outer_body (tl := tl ++ own) (as := as) (ds := ds) ?eo ?e1 X T K0 F4 N3 hI ?hD hn hOk hA ?h0 ?h1 ?q
    case eo => exact rfl
    case e1 => exact rfl
    case hD => exact DatAll.mono (fun p hp => by
      rcases List.mem_cons.mp hp with rfl | hp
      · exact List.Mem.head _
      · rcases List.mem_cons.mp hp with rfl | hp
        · exact List.Mem.tail _ (List.Mem.head _)
        · exact List.Mem.tail _ (List.Mem.tail _ (List.mem_append_left _ hp))) hD
    case h0 => omega
    case h1 => omega
    case q =>
      intro h' tk' m' F' N' a1 a2
      exact ⟨h', tk', m', rfl, F', N', a1, a2⟩
  case done =>
    rintro m h tk ⟨m1, m2⟩ F3 N3
    dsimp only
    clear F2 N2
    k_steps
    exact hQ _ _ _ F3
end Mine
namespace Mine
open PySem PySem.W PyProof.Rows
local macro_rules | `(tactic| walk_at "exec For Name Name cons nil") => `(tactic| (k_here; (rename Fr _ _ _ _ => lF'); (with_unfolding_all refine' For_invVF lF' ?k1 ?k2 ?_; (case k1 => exact rfl); (case k2 => exact rfl); k_whole)))
set_option maxHeartbeats 16000000 in
theorem rest_body {w : World} {oc : Value} {od : Option Addr} {name qual : Str} {params : Arguments} {body : List Stmt} {scope : Scope} {dV kV doc pm cdv ct : Value} {an : Option Addr} {osl : Array (Option Value)}
   (ho : (hd.heap_39 w.params).lookup 65 = some ⟨oc, od, .func (fnOf name qual params body scope dV kV doc pm an cdv ct), osl⟩) {tb : List Stmt} (hb : body.drop 4 = tb)
   {g : Heap} {mean : ExcName → Option Value} {mg mb m₀ : Str → Option Value} {loose : List Str} {L fa l : Addr} {cd : Value} {ps : List Value} {ds : List Dat} {n : Nat} {tl : List (Addr × Obj)} {Q : Flow → Shared → Prop} {E : Value → Shared → Prop} {s : Shared}
   (X : (hd.heap_39 w.params).In g) (T : Top hd.view_39 loose mean mg mb g) (K0 : Below callerA g [] g) (F : Fr g L s.heap (fun y => if y = Str.ofString "pieces" then some (Value.ref l) else m₀ y)) (N : News g L s.heap ((l, listOf ps.toArray n) :: tl)) (hD : DatAll ((l, listOf ps.toArray n) :: tl) ps ds) (hn : ds.length ≤ 9) (hOk : ∀ d ∈ ds, ∃ b k, d = Dat.tuple [Dat.bytes b, Dat.int k] ∧ Good (nats b) k ∧ b.size ≤ 8)
   (hQ : ∀ h' tk m', Fr g L h' m' → Q (.ret (.bool true)) { s with heap := h', toks := tk }) :
   wpAny (model PySem.Challenge.rw_mj0024_02.row.prog w) (callerA.deeper (envOf qual scope L fa cd)) (execs tb (envOf qual scope L fa cd)) Q E s := by
  have e := (Option.some.inj ((show (hd.heap_39 w.params).lookup 65 = some _ from rfl).symm.trans ho))
  cases e
  clear ho
  cases hb
  dsimp only [List.drop]
  suffices hh : (hd.heap_39 = hd.heap_39 ∧ PySem.Challenge.rw_mj0024_02 = PySem.Challenge.rw_mj0024_02) → _ from hh ⟨rfl, rfl⟩
  w_top off
  k_fill
  intro _
  refine wpAny_mono (Q := Q) (E := fun _ _ => False) ?_ (fun _ _ h => h) (fun _ _ h => h.elim)
  (repeat' ((fail_if_success (with_reducible show wpAny _ _ (pyIter _) _ _ _)); (first | (k_unfold; (try dsimp only)) | (k_end; wrow_close) | walk1 | (dsimp only; walk1) | fail "no step")))
  rename_i _ h9 _ hlt h2' F2 N2
  have hoff : OwnOff ((l, listOf ps.toArray n) :: tl) [h9] := by
    intro p hp b hb
    rw [List.mem_singleton.mp hb]
    rcases List.mem_cons.mp hp with rfl | hp
    · exact Nat.ne_of_lt hlt.1
    · exact Nat.ne_of_lt (kst_ltOf hlt.2 p hp)
  have hlen : ps.length = ds.length := hD.length
  with_unfolding_all refine' kdl_iter (vs := ps) (nn := n) (fun i m nx => ∃ us as n9, nx = (h9, listOf us.toArray n9) :: (l, listOf ps.toArray n) :: tl ∧ IntsAre us as ∧ Acc (ds.take i) as ∧ m (Str.ofString "account") = some (Value.ref h9) ∧ m (Str.ofString "pieces") = some (Value.ref l)) ?hh ?hl F2 N2 ?hj ?turn ?done
  case hh => exact rfl
  case hl => exact List.Mem.tail _ (List.Mem.head _)
  case hj => exact ⟨[Value.int 0 s.toks], [0], 0, rfl, .cons _ _ .nil, acc_start, rfl, rfl⟩
  case turn =>
    rintro i v m nx h tk own hv hown _ ⟨us, as, n9, rfl, hI, hA, m1, m2⟩ F3 N3
    have hi : i < ds.length := by rw [← hlen]; exact (List.getElem?_eq_some_iff.mp hv).1
    obtain ⟨v', hv', hd⟩ := hD.get hi
    have ev : v' = v := by rw [hv] at hv'; exact (Option.some.inj hv').symm
    subst ev
    obtain ⟨b, k, e, hG, hz⟩ := hOk _ (List.getElem_mem hi)
    have hs : ds.take (i + 1) = ds.take i ++ [Dat.tuple [Dat.bytes b, Dat.int k]] := by rw [List.take_add_one, List.getElem?_eq_getElem hi, e]; rfl
    have hal := acc_len hA
    have htl : (ds.take i).length = i := by rw [List.length_take]; omega
    rw [e] at hd
    cases hd with
    | tuple hin hall =>
      rename_i a vs1 n2
      cases hall with
      | cons q1 q2 =>
        cases q1 with
        | bytes _ t1 =>
          cases q2 with
          | cons q3 q4 =>
            cases q3 with
            | int _ t2 =>
              cases q4
              have hp : ∀ p ∈ [(Str.ofString "piece", Value.ref a), (Str.ofString "account", Value.ref h9)], (fun y => if y = Str.ofString "piece" then some (Value.ref a) else m y) p.1 = some p.2 := by
                intro p hp
                simp only [List.mem_cons, List.not_mem_nil, or_false] at hp
                rcases hp with rfl | rfl
                · exact if_pos rfl
                · exact (if_neg (show ¬ Str.ofString "account" = Str.ofString "piece" by decide)).trans m1
              have F4 := fr_put _ F3 hp
              have N4 : News g L h ((h9, listOf us.toArray n9) :: (a, ({ cls := .type "tuple", data := .seq #[.bytes b t1, .int k t2] n2 } : Obj)) :: (((l, listOf ps.toArray n) :: tl) ++ own)) := kst_newsOf N3 (fun p hp => by
                rcases List.mem_cons.mp hp with rfl | hp
                · exact List.Mem.head _
                · rcases List.mem_cons.mp hp with rfl | hp
                  · exact List.Mem.tail _ (List.mem_append_left _ hin)
                  · exact List.Mem.tail _ hp)
              refine' acc_body (b := b) (as := as) ?eo ?e1 X T K0 F4 N4 hI ?l0 ?l1 ?ne ?off ?q
              case eo => exact rfl
              case e1 => exact rfl
              case l0 => omega
              case l1 => omega
              case ne => exact (hoff _ hin h9 (List.Mem.head _)).symm
              case off =>
                intro p hp b hb
                rcases List.mem_append.mp hp with hp | hp
                · exact hoff p hp b hb
                · rw [List.mem_singleton.mp hb]
                  exact hown p hp h9 (List.Mem.head _)
              case q =>
                intro h' tk' m' n' t' F' N' hm'
                refine ⟨h', tk', m', _, (h9, listOf (us ++ [Value.int (as.getD (-1 + (as.length : Int)).toNat 0 + k) t']).toArray n') :: (l, listOf ps.toArray n) :: tl, rfl, F', N', ?_, ?_, ?_, ?_, ?_⟩
                · intro p hp
                  rcases List.mem_cons.mp hp with rfl | hp
                  · exact List.Mem.head _
                  · exact List.Mem.tail _ (List.mem_append_left _ hp)
                · exact fun p hp => List.Mem.tail _ (List.mem_append_right _ hp)
                · exact hown
                · exact List.Mem.tail _ (List.Mem.head _)
                · refine ⟨_, _, _, rfl, hI.append (.cons _ _ .nil), ?_, ?_, ?_⟩
                  · rw [hs]; exact acc_turn hA
                  · exact (hm' _ (by decide)).trans (if_pos rfl)
                  · exact (hm' _ (by decide)).trans ((if_neg (by decide)).trans (show (if Str.ofString "pieces" = Str.ofString "piece" then some (Value.ref a) else m (Str.ofString "pieces")) = _ from (if_neg (by decide)).trans m2))
  case done =>
    rintro m nx h tk ⟨us, as, n9, rfl, hI, hA, m1, m2⟩ F3 N3
    rw [hlen, List.take_length] at hA
    have hp : ∀ p ∈ [(Str.ofString "account", Value.ref h9), (Str.ofString "pieces", Value.ref l)], m p.1 = some p.2 := by
      intro p hp
      simp only [List.mem_cons, List.not_mem_nil, or_false] at hp
      rcases hp with rfl | rfl
      · exact m1
      · exact m2
    have F4 := fr_put _ F3 hp
    refine' last_body (as := as) (ds := ds) ?eo ?eb X T K0 ?ef ?en hI ?hD hn hOk hA ?q
    case ef => exact F4
    case en => exact N3
    case q => exact fun h' tk' m' F' => hQ h' tk' m' F'
    case eo => exact rfl
    case eb => exact rfl
    case hD => exact DatAll.mono (fun p hp => List.Mem.tail _ hp) hD
end Mine
namespace Mine
open PySem PySem.W PyProof.Rows
local macro_rules | `(tactic| walk_at "call ref") => `(tactic| (k_here; (with_reducible show wpAny _ _ (call (Value.ref 58) [Value.int _ _]) _ _ _); k_dflt (refine wpAny_call ?_; (refine' code_def ?k1 ?k2 ?k3 ?k4 ?k5 ?kA ?kF ?kK ?k6 ?k7 ?k8 ?k9 ?kB ?_ ?c2 ?c3 ?c4 ?c5; (case kA => exact rfl); (case kF => exact rfl); (case kK => exact rfl); (case k1 => k_asm); (case k2 => k_asm); (case k3 => k_asm); (case k4 => k_asm); (case k5 => k_asm); (case k6 => k_is); (case k7 => k_is); (case k8 => k_room); (case k9 => first | exact BindsTo.of_eq rfl | exact binds_K (by k_in) rfl (by k_is) rfl rfl rfl); (case c5 => decide); (case kB => exact locs rfl); (case c2 => exact rfl); (case c3 => exact rfl); (case c4 => exact rfl); k_whole; intro g' L' h' FG' F' N' B' X' T'); (refine' piece_body ?eo B' X' T' ?ef ?en ?_; (case ef => exact F'); (case en => exact N'); (case eo => exact rfl))); intro a'' b'' d'' t'' u'' n'' h'' tk'' m'' F'' N'' hlt'' hG'' hZ''; (try k_lt hlt''); (try dsimp only)))
set_option maxHeartbeats 16000000 in
theorem law_body {w : World} {oc : Value} {od : Option Addr} {name qual : Str} {params : Arguments} {body : List Stmt} {scope : Scope} {dV kV doc pm cdv ct : Value} {an : Option Addr} {osl : Array (Option Value)}
   (ho : (hd.heap_39 w.params).lookup 65 = some ⟨oc, od, .func (fnOf name qual params body scope dV kV doc pm an cdv ct), osl⟩) {g : Heap} {mean : ExcName → Option Value} {mg mb : Str → Option Value} {loose : List Str} {L fa l : Addr} {cd : Value} {vs : List Value} {ns : List Int} {Q : Flow → Shared → Prop} {E : Value → Shared → Prop} {s : Shared}
   (X : (hd.heap_39 w.params).In g) (T : Top hd.view_39 loose mean mg mb g) (K0 : Below callerA g [] g) (F : Fr g L s.heap (fun y => List.lookup y [(Str.ofString "script", Value.ref l)])) (N : News g L s.heap []) (hl : g.IsList l vs.toArray) (hi : IntsAre vs ns) (hn : ns.length ≤ 63)
   (hQ : ∀ h' tk m', Fr g L h' m' → News g L h' [] → Q (.ret (.bool true)) { s with heap := h', toks := tk }) :
   wpAny (model PySem.Challenge.rw_mj0024_02.row.prog w) (callerA.deeper (envOf qual scope L fa cd)) (execs body (envOf qual scope L fa cd)) Q E s := by
  have e := (Option.some.inj ((show (hd.heap_39 w.params).lookup 65 = some _ from rfl).symm.trans ho))
  cases e
  clear ho
  suffices hh : (hd.heap_39 = hd.heap_39 ∧ PySem.Challenge.rw_mj0024_02 = PySem.Challenge.rw_mj0024_02) → _ from hh ⟨rfl, rfl⟩
  w_top off
  k_fill
  intro _
  refine wpAny_mono (Q := Q) (E := fun _ _ => False) ?_ (fun _ _ h => h) (fun _ _ h => h.elim)
  k_with "state" => first | exact pieces_start | exact pieces_turn (by assumption) (by assumption) (by assumption) (by assumption)
  k_with "pyIter ref" => (k_of "x" => k_dat (fun pre pieces => pieces.length = pre.length + 1 ∧ ∀ d ∈ pieces, ∃ b k, d = Dat.tuple [Dat.bytes b, Dat.int k] ∧ Good (nats b) k ∧ b.size ≤ 8) "pieces*")
  (repeat' ((fail_if_success (with_reducible show wpAny _ _ (execs (Stmt.Assign [Expr.Name (Str.ofString "account") _] _ _ :: _) _) _ _ _)); (first | (k_unfold; (try dsimp only)) | (k_end; wrow_close) | walk1 | (dsimp only; walk1) | fail "no step")))
  rename_i l9 _ _ _ us9 ds9 n9 _ hlen9 hOk9 _ _ D9 _ _ h9 F9 N9
  have F4 := fr_put [(Str.ofString "pieces", Value.ref l9)] F9 (fun p hp => by rw [List.mem_singleton.mp hp]; rfl)
  rw [List.push_toArray] at N9
  have hI : Good (nats #[34, 40, 34]) 0 := Good.quoted (Inert.plain (c := 40) (by decide) (by decide))
  have hlast : ∀ d ∈ ds9 ++ [Dat.tuple [Dat.bytes #[34, 40, 34], Dat.int 0]], ∃ b k, d = Dat.tuple [Dat.bytes b, Dat.int k] ∧ Good (nats b) k ∧ b.size ≤ 8 := by
    intro d hd
    rcases List.mem_append.mp hd with hd | hd
    · exact hOk9 d hd
    · exact ⟨_, _, List.mem_singleton.mp hd, hI, by decide⟩
  have hlen : (ds9 ++ [Dat.tuple [Dat.bytes #[34, 40, 34], Dat.int 0]]).length ≤ 9 := by
    rw [List.length_append, hlen9, List.length_take]
    simp only [List.length_cons, List.length_nil]
    omega
  refine' rest_body (l := l9) (ps := us9 ++ [Value.ref D9]) (ds := ds9 ++ [Dat.tuple [Dat.bytes #[34, 40, 34], Dat.int 0]]) (n := n9 + 1) ?eo ?eb X T K0 ?ef ?en ?hD hlen hlast ?q
  case eo => exact rfl
  case eb => exact rfl
  case ef => exact F4
  case en => exact kst_newsOf (l' := (l9, _) :: (D9, _) :: _ :: _ :: kTl) N9 (fun p hp => by
      rcases List.mem_cons.mp hp with rfl | hp
      · exact List.Mem.tail _ (List.Mem.head _)
      · rcases List.mem_cons.mp hp with rfl | hp
        · exact List.Mem.head _
        · exact List.Mem.tail _ (List.Mem.tail _ hp))
  case hD => exact (DatAll.mono (fun p hp => List.Mem.tail _ (List.Mem.tail _ hp)) kFacts).append (.one (.tuple (vs := [_, _]) (List.Mem.tail _ (List.Mem.head _)) (.cons (.bytes _ _) (.cons (.int _ _) .nil))))
  case q => exact fun h' tk' m' F' => hQ h' tk' m' F' News.nil
end Mine
open PySem PySem.W PyProof.Rows
set_option maxHeartbeats 8000000 in
theorem PySem.Challenge.cw_mj0024_02_holds : PySem.Challenge.rw_mj0024_02.Holds := by
  refine Mine.hd ?_
  k_go0
  refine' Mine.law_body ?ho ?hX ?hT ?hK ?hF ?hN ?hl ?hi ?hn ?_
  case ho => exact rfl
  case hX => assumption
  case hT => assumption
  case hK => assumption
  case hF => assumption
  case hN => assumption
  case hl => assumption
  case hi => assumption
  case hn => omega
  intro h' tk m' F' N'
  dsimp only
  k_end
  wrow_close
