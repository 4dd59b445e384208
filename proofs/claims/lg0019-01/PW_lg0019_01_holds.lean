import PyProof.Rows.All
import Wide.All
import OpenK.AllK
import Wide.FinOn
import Lean
import PySem.Challenge.RW_lg0019_01
set_option Elab.async false

section
open PySem PySem.W PyProof.Rows
namespace Mine
set_option maxRecDepth 100000 in
set_option maxHeartbeats 8000000 in
open_top hd for PySem.Challenge.rw_lg0019_01
end Mine
end

section
namespace Mine
open PySem PySem.Sre

theorem runFor_stop {m : M} (h : m.outcome.isSome = true) : ∀ n, M.runFor n m = m
  | 0 => rfl
  | n+1 => by simp [M.runFor, h]
theorem runFor_one (m : M) (h : m.outcome = none) : M.runFor 1 m = m.step := by simp [M.runFor, h]
theorem runFor_add (a b : Nat) : ∀ m : M, M.runFor (a + b) m = M.runFor b (M.runFor a m) := by
  induction a with
  | zero => intro m; simp [M.runFor]
  | succ a ih =>
    intro m
    cases h : m.outcome.isSome with
    | true => rw [runFor_stop h, runFor_stop h, runFor_stop h]
    | false =>
      have e : a + 1 + b = (a + b) + 1 := by omega
      rw [e]
      simp only [M.runFor, h]
      exact ih _

def code3 : Array Nat := #[14,4,0,0,4294967295,6,0,24,9,0,4294967295,13,4,8,12,0,1,6,5,1]

/-- the state of a match by code3 -/
def S3 (text : Array Nat) (pc pos handed : Nat) (frames : List Sre.Frame) (weight : Nat) (answer : Option Bool) (seen : Seen) : M :=
  { code := code3, text := text, lim := text.size, start := 0, pc := pc, pos := pos, handed := handed, marks := #[], frames := frames, weight := weight, answer := answer, seen := seen }
theorem for3 (text : Array Nat) : forMatch code3 text 0 0 text.size false false = S3 text 5 0 0 [] 0 none (({} : Seen).add 14) := rfl
theorem s3_a (text : Array Nat) (sn : Seen) : (S3 text 5 0 0 [] 0 none sn).step = S3 text 7 0 0 [] 0 none ((sn.add 6).add 43) := rfl

def cnt (f : Nat → Bool) (text : Array Nat) : Nat → Nat → Nat
  | 0, _ => 0
  | n + 1, p => if f (text.getD p 0) then 1 + cnt f text n (p + 1) else 0
theorem run_cnt {code text : Array Nat} {i : Nat} {f : Nat → Bool} (h : ∀ c seen, ∃ seen', accepts code i c seen = .ok (f c, seen')) :
    ∀ (n p found : Nat) (seen : Seen), ∃ seen', Sre.run code text i n p found seen = .ok (found + cnt f text n p, seen')
  | 0, _, _, seen => ⟨seen, rfl⟩
  | n + 1, p, found, seen => by
    obtain ⟨s1, e1⟩ := h (text.getD p 0) seen
    unfold Sre.run
    rw [e1]
    cases hf : f (text.getD p 0) with
    | false => exact ⟨s1, by simp only [cnt, hf, bind, Except.bind, pure, Except.pure]; rfl⟩
    | true =>
      obtain ⟨s2, e2⟩ := run_cnt h n (p + 1) (found + 1) s1
      refine ⟨s2, ?_⟩
      simp only [bind, Except.bind, if_true]
      rw [e2]
      simp only [cnt, hf, if_true]
      congr 2; omega

theorem acc3 (c : Nat) (seen : Seen) : ∃ seen', accepts code3 11 c seen = .ok (Unicode.isSpace c, seen') := by
  have e : accepts code3 11 c seen = (do if ← (Except.ok (Unicode.isSpace c != false) : Except String Bool) then pure (true, ((seen.add 8).add 67)) else inSet code3 c 19 15 true ((seen.add 8).add 67)) := rfl
  rw [e]
  cases h : Unicode.isSpace c with
  | true => exact ⟨_, rfl⟩
  | false => exact ⟨_, rfl⟩

theorem cnt_le (f : Nat → Bool) (text : Array Nat) : ∀ n p, cnt f text n p ≤ n
  | 0, _ => Nat.le_refl _
  | n + 1, p => by
    have := cnt_le f text n (p + 1)
    simp only [cnt]; split <;> omega
theorem cnt_list (f : Nat → Bool) (text : Array Nat) : ∀ n p, p + n = text.size → cnt f text n p = ((text.toList.drop p).takeWhile f).length
  | 0, p, h => by
    have : text.toList.drop p = [] := by apply List.drop_eq_nil_of_le; simp; omega
    simp [cnt, this]
  | n + 1, p, h => by
    have hp : p < text.toList.length := by simp; omega
    have e : text.toList.drop p = text.toList[p] :: text.toList.drop (p + 1) := List.drop_eq_getElem_cons hp
    have eg : text.getD p 0 = text.toList[p] := by
      have hp' : p < text.size := by omega
      simp [Array.getD, hp']
    rw [e, List.takeWhile_cons, eg.symm]
    simp only [cnt]
    cases f (text.getD p 0) with
    | true => simp only [if_true, List.length_cons]; rw [cnt_list f text n (p + 1) (by omega)]; omega
    | false => simp

/-- the frame that REPEAT_ONE leaves in code3 -/
def F3 (pos : Nat) (count : Int) : Sre.Frame := { wait := .giveBack, pc := 7, pos := pos, outermost := true, count := count, kept := { lastmark := -1, lastindex := -1, whole := false, marks := #[] } }

theorem exec_rep (m : M) (n : Nat) (sn : Seen) (hop : ops[m.word 0]? = some .REPEAT_ONE) (hle : ¬ (m.word 2 : Int) > (m.lim : Int) - m.pos)
    (hrun : Sre.run m.code m.text (m.pc + 4) (min (m.word 3) ((m.lim : Int) - m.pos).toNat) m.pos 0 ((m.seen.add (m.word 0)).add (m.word 4)) = .ok (n, sn)) (hn : ¬ n < m.word 2) :
    m.exec = ({ m with seen := sn, pos := m.pos + n } : M).afterRun .giveBack n (m.keep m.inner.isSome) := by
  unfold M.exec
  rw [hop]
  show (if (m.word 2 : Int) > (m.lim : Int) - m.pos then _ else (match Sre.run m.code m.text (m.pc + 4) (min (m.word 3) ((m.lim : Int) - m.pos).toNat) m.pos 0 ((m.seen.add (m.word 0)).add (m.word 4)) with
    | .error why => M.stick { m with seen := m.seen.add (m.word 0) } why
    | .ok (n, seen) => if n < m.word 2 then M.say { m with seen := seen } false else ({ m with seen := seen, pos := m.pos + n } : M).afterRun .giveBack n (m.keep m.inner.isSome))) = _
  rw [if_neg hle, hrun]
  show (if n < m.word 2 then _ else _) = _
  rw [if_neg hn]
theorem exec_rep_less (m : M) (n : Nat) (sn : Seen) (hop : ops[m.word 0]? = some .REPEAT_ONE) (hle : ¬ (m.word 2 : Int) > (m.lim : Int) - m.pos)
    (hrun : Sre.run m.code m.text (m.pc + 4) (min (m.word 3) ((m.lim : Int) - m.pos).toNat) m.pos 0 ((m.seen.add (m.word 0)).add (m.word 4)) = .ok (n, sn)) (hn : n < m.word 2) :
    m.exec = M.say { m with seen := sn } false := by
  unfold M.exec
  rw [hop]
  show (if (m.word 2 : Int) > (m.lim : Int) - m.pos then _ else (match Sre.run m.code m.text (m.pc + 4) (min (m.word 3) ((m.lim : Int) - m.pos).toNat) m.pos 0 ((m.seen.add (m.word 0)).add (m.word 4)) with
    | .error why => M.stick { m with seen := m.seen.add (m.word 0) } why
    | .ok (n, seen) => if n < m.word 2 then M.say { m with seen := seen } false else ({ m with seen := seen, pos := m.pos + n } : M).afterRun .giveBack n (m.keep m.inner.isSome))) = _
  rw [if_neg hle, hrun]
  show (if n < m.word 2 then _ else _) = _
  rw [if_pos hn]
theorem step_exec (m : M) (ho : m.outcome = none) (ha : m.answer = none) (hpc : m.pc < m.code.size) : m.step = m.exec := by
  unfold M.step; rw [ho, ha]; show (if m.pc < m.code.size then _ else _) = _; rw [if_pos hpc]

theorem s3_b (text : Array Nat) (sn : Seen) (ht : text.size ≤ 4294967295) : ∃ sn', (S3 text 7 0 0 [] 0 none sn).step =
    S3 text 17 (cnt Unicode.isSpace text text.size 0) (cnt Unicode.isSpace text text.size 0) [F3 (cnt Unicode.isSpace text text.size 0) (cnt Unicode.isSpace text text.size 0 : Nat)] 1 none sn' := by
  obtain ⟨s1, e1⟩ := run_cnt (text := text) acc3 text.size 0 0 ((sn.add 24).add 13)
  refine ⟨s1, ?_⟩
  have hroom : ((text.size : Int) - (0 : Nat)).toNat = text.size := by omega
  have hmin : min 4294967295 text.size = text.size := by omega
  rw [step_exec _ rfl rfl (by show 7 < 20; decide)]
  rw [exec_rep _ (cnt Unicode.isSpace text text.size 0) s1 rfl (by show ¬ ((0 : Nat) : Int) > (text.size : Int) - (0 : Nat); omega)
    (by show Sre.run code3 text 11 (min 4294967295 ((text.size : Int) - (0 : Nat)).toNat) 0 0 ((sn.add 24).add 13) = _; rw [hroom, hmin, e1, Nat.zero_add]) (Nat.not_lt_zero _)]
  show M.afterRun (S3 text 7 (0 + cnt Unicode.isSpace text text.size 0) 0 [] 0 none s1) _ _ _ = _
  rw [Nat.zero_add]
  rfl

/-- the end's test and what comes back, at a place p -/
theorem s3_end_no (text : Array Nat) (sn : Seen) (p h : Nat) (fs : List Sre.Frame) (w : Nat) (h1 : p ≠ text.size) (h2 : ¬ (p + 1 = text.size ∧ text.getD p 0 = 10)) :
    ∃ sn', (S3 text 17 p h fs w none sn).step = S3 text 17 p h fs w (some false) sn' := by
  refine ⟨(sn.add 6).add 48, ?_⟩
  rw [step_exec _ rfl rfl (by show 17 < 20; decide)]
  have : (p == text.size || (p + 1 == text.size && text.getD p 0 == 10)) = false := by
    simp only [Bool.or_eq_false_iff, Bool.and_eq_false_iff, beq_eq_false_iff_ne]
    refine ⟨h1, ?_⟩
    by_cases q : p + 1 = text.size
    · right; exact fun e => h2 ⟨q, e⟩
    · left; exact q
  show (if (p == text.size || (p + 1 == text.size && text.getD p 0 == 10)) = true then _ else _) = _
  rw [this]
  rfl
theorem s3_end_yes (text : Array Nat) (sn : Seen) (h : Nat) (fs : List Sre.Frame) (w : Nat) :
    ∃ sn', (S3 text 17 text.size h fs w none sn).step = S3 text 19 text.size h fs w none sn' := by
  refine ⟨(sn.add 6).add 48, ?_⟩
  rw [step_exec _ rfl rfl (by show 17 < 20; decide)]
  have : (text.size == text.size || (text.size + 1 == text.size && text.getD text.size 0 == 10)) = true := by simp
  show (if (text.size == text.size || (text.size + 1 == text.size && text.getD text.size 0 == 10)) = true then _ else _) = _
  rw [this]
  rfl
theorem s3_success (text : Array Nat) (sn : Seen) (p h : Nat) (fs : List Sre.Frame) (w : Nat) : (S3 text 19 p h fs w none sn).step = S3 text 19 p p fs w (some true) (sn.add 1) := rfl
theorem s3_yes (text : Array Nat) (sn : Seen) (p h q : Nat) (c : Int) (pc : Nat) : (S3 text pc p h [F3 q c] 1 (some true) sn).step = S3 text 7 q h [] 0 (some true) sn := rfl
theorem s3_over (text : Array Nat) (sn : Seen) (p h : Nat) (pc : Nat) (b : Bool) : (S3 text pc p h [] 0 (some b) sn).step = { S3 text pc p h [] 0 (some b) sn with outcome := some (if b then .matched else .failed) } := rfl
theorem s3_back (text : Array Nat) (sn : Seen) (p h q c : Nat) : (S3 text 17 p h [F3 (q + 1) (c + 1 : Nat)] 1 (some false) sn).step = S3 text 17 q q [F3 q (c : Nat)] 1 none sn := by
  have e : ((c + 1 : Nat) : Int) - 1 = (c : Nat) := by omega
  show (if ((c + 1 : Nat) : Int) - 1 < (0 : Nat) then _ else _) = _
  rw [if_neg (by omega)]
  show M.afterRun (S3 text 7 q h [] 0 none sn) .giveBack (((c + 1 : Nat) : Int) - 1) (F3 q 0).kept = _
  rw [e]
  rfl
theorem s3_none (text : Array Nat) (sn : Seen) (p h q : Nat) : (S3 text 17 p h [F3 q (0 : Nat)] 1 (some false) sn).step = S3 text 7 q h [] 0 (some false) sn := rfl

theorem go1 {m m1 m' : M} {n : Nat} (h : m.outcome = none) (e : m.step = m1) (r : M.runFor n m1 = m') : M.runFor (n + 1) m = m' := by
  simp only [M.runFor, h, Option.isSome_none, Bool.false_eq_true, if_false, e, r]
/-- within n steps the machine stops in m' -/
def Stops (m : M) (n : Nat) (m' : M) : Prop := M.runFor n m = m' ∧ m'.outcome.isSome = true
theorem Stops.go {m m1 m' : M} {n : Nat} (h : m.outcome = none) (e : m.step = m1) (r : Stops m1 n m') : Stops m (n + 1) m' := ⟨go1 h e r.1, r.2⟩
theorem Stops.zero {m : M} (h : m.outcome.isSome = true) : Stops m 0 m := ⟨rfl, h⟩
theorem Stops.more {m m' : M} {n k : Nat} (r : Stops m n m') (h : n ≤ k) : Stops m k m' := by
  obtain ⟨j, rfl⟩ : ∃ j, k = n + j := ⟨k - n, by omega⟩
  exact ⟨by rw [runFor_add, r.1, runFor_stop r.2], r.2⟩

theorem s3_fails (text : Array Nat) : ∀ (c p : Nat) (h : Nat) (sn : Seen), c ≤ p → p < text.size → (p + 1 = text.size → text.getD p 0 ≠ 10) →
    ∃ m, Stops (S3 text 17 p h [F3 p (c : Nat)] 1 none sn) (2 * c + 3) m ∧ m.outcome = some .failed
  | 0, p, h, sn, _, hp, hl => by
    obtain ⟨s1, e1⟩ := s3_end_no text sn p h [F3 p (0 : Nat)] 1 (by omega) (fun q => hl q.1 q.2)
    exact ⟨_, .go rfl e1 (.go rfl (s3_none ..) (.go rfl (s3_over ..) (.zero rfl))), rfl⟩
  | c + 1, q + 1, h, sn, hc, hp, hl => by
    obtain ⟨s1, e1⟩ := s3_end_no text sn (q + 1) h [F3 (q + 1) (c + 1 : Nat)] 1 (by omega) (fun q => hl q.1 q.2)
    obtain ⟨m, r, o⟩ := s3_fails text c q q s1 (by omega) (by omega) (by omega)
    exact ⟨m, .go rfl e1 (.go rfl (s3_back ..) r), o⟩
theorem s3_wins (text : Array Nat) (h c : Nat) (sn : Seen) : ∃ m, Stops (S3 text 17 text.size h [F3 text.size (c : Nat)] 1 none sn) 5 m ∧ m.outcome = some .matched := by
  obtain ⟨s1, e1⟩ := s3_end_yes text sn h [F3 text.size (c : Nat)] 1
  exact ⟨_, .go rfl e1 (.go rfl (s3_success ..) (.go rfl (s3_yes ..) (.go rfl (s3_over ..) (.more (.zero rfl) (by omega))))), rfl⟩

def allWhite (x : List Nat) : Bool := x.all Unicode.isSpace

theorem takeWhile_all {f : Nat → Bool} : ∀ {l : List Nat}, l.all f = true → l.takeWhile f = l
  | [], _ => rfl
  | a :: r, h => by
    rw [List.all_cons, Bool.and_eq_true] at h
    rw [List.takeWhile_cons, h.1, if_pos rfl, takeWhile_all h.2]
theorem cnt_all (text : Array Nat) : cnt Unicode.isSpace text text.size 0 = text.size ↔ allWhite text.toList = true := by
  rw [cnt_list _ _ _ _ (by omega), List.drop_zero, allWhite]
  have hs : text.size = text.toList.length := by simp
  rw [hs]
  constructor
  · intro e
    have : text.toList.takeWhile Unicode.isSpace = text.toList := (List.takeWhile_prefix _).eq_of_length e
    rw [← this]; simp
  · intro e
    rw [takeWhile_all e]
theorem cnt_stop (f : Nat → Bool) (text : Array Nat) : ∀ n p, cnt f text n p < n → f (text.getD (p + cnt f text n p) 0) = false
  | 0, _, h => by omega
  | n + 1, p, h => by
    simp only [cnt] at h ⊢
    cases hf : f (text.getD p 0) with
    | false => simpa using hf
    | true =>
      rw [hf] at h
      simp only [if_true] at h ⊢
      have := cnt_stop f text n (p + 1) (by omega)
      rw [← this]; congr 2; omega

/-- what the match of code3 comes to -/
theorem match3 (text : Array Nat) (ht : text.size ≤ 16777216) : ∃ m, Stops (forMatch code3 text 0 0 text.size false false) (2 * text.size + 8) m ∧ m.outcome = some (if allWhite text.toList then .matched else .failed) := by
  rw [for3]
  obtain ⟨s1, e1⟩ := s3_b text (((({} : Seen).add 14).add 6).add 43) (by omega)
  by_cases hw : cnt Unicode.isSpace text text.size 0 = text.size
  · rw [if_pos ((cnt_all text).mp hw)]
    rw [hw] at e1
    obtain ⟨m, r, o⟩ := s3_wins text text.size text.size s1
    exact ⟨m, .more (.go rfl (s3_a ..) (.go rfl e1 r)) (by omega), o⟩
  · rw [if_neg (fun e => hw ((cnt_all text).mpr e))]
    have hlt : cnt Unicode.isSpace text text.size 0 < text.size := Nat.lt_of_le_of_ne (cnt_le ..) hw
    have hns := cnt_stop _ text text.size 0 hlt
    rw [Nat.zero_add] at hns
    obtain ⟨m, r, o⟩ := s3_fails text _ _ (cnt Unicode.isSpace text text.size 0) s1 (Nat.le_refl _) hlt (fun _ e => by rw [e] at hns; revert hns; decide)
    exact ⟨m, .more (.go rfl (s3_a ..) (.go rfl e1 r)) (by omega), o⟩

/-- the state of a machine with one group -/
def SG (code text : Array Nat) (start lastStart pc pos handed : Nat) (outer : Bool) (marks : Array (Option Nat)) (lastmark lastindex : Int) (frames : List Sre.Frame) (weight : Nat) (answer : Option Bool) (seen : Seen) : M :=
  { code := code, text := text, lim := text.size, start := start, lastStart := lastStart, pc := pc, pos := pos, handed := handed, outermost := outer, marks := marks, lastmark := lastmark, lastindex := lastindex, frames := frames, weight := weight, answer := answer, seen := seen }

def code4 : Array Nat := #[14,4,0,0,4294967295,6,0,17,0,24,11,0,4294967295,13,6,16,32,16,9,0,1,17,1,1]
def isBlank (c : Nat) : Bool := c == 32 || c == 9
theorem acc4 (c : Nat) (seen : Seen) : ∃ seen', accepts code4 13 c seen = .ok (isBlank c, seen') := by
  have e : accepts code4 13 c seen = if (c == 32) = true then .ok (true, seen.add 16) else if (c == 9) = true then .ok (true, (seen.add 16).add 16) else .ok (false, ((seen.add 16).add 16).add 0) := rfl
  rw [e, isBlank]
  cases c == 32 <;> cases c == 9 <;> exact ⟨_, rfl⟩
theorem match4 (text : Array Nat) (ht : text.size ≤ 16777216) : ∃ m, Stops (forMatch code4 text 1 0 text.size false false) 8 m ∧ m.outcome = some .matched ∧ m.start = 0 ∧ m.handed = (text.toList.takeWhile isBlank).length ∧
    m.marks = #[some 0, some (text.toList.takeWhile isBlank).length] ∧ m.lastmark = 1 := by
  have hk := cnt_list isBlank text text.size 0 (by omega)
  rw [List.drop_zero] at hk
  generalize (text.toList.takeWhile isBlank).length = k at hk ⊢
  have e0 : forMatch code4 text 1 0 text.size false false = SG code4 text 0 0 5 0 0 true #[none, none] (-1) (-1) [] 0 none (({} : Seen).add 14) := rfl
  rw [e0]
  have e1 : ∀ sn, (SG code4 text 0 0 5 0 0 true #[none, none] (-1) (-1) [] 0 none sn).step = SG code4 text 0 0 7 0 0 true #[none, none] (-1) (-1) [] 0 none ((sn.add 6).add 43) := fun _ => rfl
  have e2 : ∀ sn, (SG code4 text 0 0 7 0 0 true #[none, none] (-1) (-1) [] 0 none sn).step = SG code4 text 0 0 9 0 0 true #[some 0, none] 0 (-1) [] 0 none (sn.add 17) := fun _ => rfl
  have e3 : ∀ sn, ∃ sn', (SG code4 text 0 0 9 0 0 true #[some 0, none] 0 (-1) [] 0 none sn).step =
      SG code4 text 0 0 21 k k true #[some 0, none] 0 (-1) [{ wait := .giveBack, pc := 9, pos := k, outermost := true, count := (k : Nat), kept := { lastmark := 0, lastindex := -1, whole := false, marks := #[] } }] 1 none sn' := by
    intro sn
    obtain ⟨s1, r1⟩ := run_cnt (text := text) acc4 text.size 0 0 ((sn.add 24).add 13)
    rw [hk] at r1
    refine ⟨s1, ?_⟩
    have hroom : ((text.size : Int) - (0 : Nat)).toNat = text.size := by omega
    have hmin : min 4294967295 text.size = text.size := by omega
    rw [step_exec _ rfl rfl (by show 9 < 24; decide)]
    rw [exec_rep _ k s1 rfl (by show ¬ ((0 : Nat) : Int) > (text.size : Int) - (0 : Nat); omega)
      (by show Sre.run code4 text 13 (min 4294967295 ((text.size : Int) - (0 : Nat)).toNat) 0 0 ((sn.add 24).add 13) = _; rw [hroom, hmin, r1, Nat.zero_add]) (Nat.not_lt_zero _)]
    show M.afterRun (SG code4 text 0 0 9 (0 + k) 0 true #[some 0, none] 0 (-1) [] 0 none s1) _ _ _ = _
    rw [Nat.zero_add]
    rfl
  obtain ⟨s3, e3⟩ := e3 ((((({} : Seen).add 14).add 6).add 43).add 17)
  generalize hf : ({ wait := .giveBack, pc := 9, pos := k, outermost := true, count := (k : Nat), kept := { lastmark := 0, lastindex := -1, whole := false, marks := #[] } } : Sre.Frame) = f at e3
  have e4 : ∀ sn, (SG code4 text 0 0 21 k k true #[some 0, none] 0 (-1) [f] 1 none sn).step = SG code4 text 0 0 23 k k true #[some 0, some k] 1 1 [f] 1 none (sn.add 17) := fun _ => by with_unfolding_all rfl
  have e5 : ∀ sn, (SG code4 text 0 0 23 k k true #[some 0, some k] 1 1 [f] 1 none sn).step = SG code4 text 0 0 23 k k true #[some 0, some k] 1 1 [f] 1 (some true) (sn.add 1) := fun _ => rfl
  have e6 : ∀ sn, (SG code4 text 0 0 23 k k true #[some 0, some k] 1 1 [f] 1 (some true) sn).step = SG code4 text 0 0 9 k k true #[some 0, some k] 1 1 [] 0 (some true) sn := fun _ => by rw [← hf]; rfl
  have e7 : ∀ sn, (SG code4 text 0 0 9 k k true #[some 0, some k] 1 1 [] 0 (some true) sn).step = { SG code4 text 0 0 9 k k true #[some 0, some k] 1 1 [] 0 (some true) sn with outcome := some .matched } := fun _ => rfl
  exact ⟨_, .more (.go rfl (e1 _) (.go rfl (e2 _) (.go rfl e3 (.go rfl (e4 _) (.go rfl (e5 _) (.go rfl (e6 _) (.go rfl (e7 _) (.zero rfl)))))))) (by omega), rfl, rfl, rfl, rfl, rfl⟩

def code1 : Array Nat := #[14,4,0,0,4294967295,6,0,17,0,24,11,0,4294967295,13,6,16,32,16,9,0,1,24,6,0,4294967295,16,35,1,17,1,1]
theorem acc1a (c : Nat) (seen : Seen) : ∃ seen', accepts code1 13 c seen = .ok (isBlank c, seen') := by
  have e : accepts code1 13 c seen = if (c == 32) = true then .ok (true, seen.add 16) else if (c == 9) = true then .ok (true, (seen.add 16).add 16) else .ok (false, ((seen.add 16).add 16).add 0) := rfl
  rw [e, isBlank]
  cases c == 32 <;> cases c == 9 <;> exact ⟨_, rfl⟩
def isHash (c : Nat) : Bool := c == 35
theorem acc1b (c : Nat) (seen : Seen) : ∃ seen', accepts code1 25 c seen = .ok (isHash c, seen') := ⟨_, rfl⟩

/-- the length of the header -/
def hdLen (x : List Nat) : Nat := (x.takeWhile isBlank).length + ((x.dropWhile isBlank).takeWhile isHash).length
theorem drop_takeWhile (f : Nat → Bool) : ∀ l : List Nat, l.drop (l.takeWhile f).length = l.dropWhile f
  | [] => rfl
  | a :: r => by
    rw [List.takeWhile_cons, List.dropWhile_cons]
    cases f a with
    | true => simpa using drop_takeWhile f r
    | false => rfl
theorem match1 (text : Array Nat) (ht : text.size ≤ 16777216) : ∃ m, Stops (forMatch code1 text 1 0 text.size false false) 10 m ∧ m.outcome = some .matched ∧ m.start = 0 ∧ m.handed = hdLen text.toList ∧
    m.marks = #[some 0, some (hdLen text.toList)] ∧ m.lastmark = 1 := by
  have hk := cnt_list isBlank text text.size 0 (by omega)
  rw [List.drop_zero] at hk
  have hkl : cnt isBlank text text.size 0 ≤ text.size := cnt_le ..
  have hj := cnt_list isHash text (text.size - cnt isBlank text text.size 0) (cnt isBlank text text.size 0) (by omega)
  rw [hk, drop_takeWhile] at hj
  rw [hk] at hkl
  unfold hdLen
  generalize (text.toList.takeWhile isBlank).length = k at hk hj hkl ⊢
  generalize ((text.toList.dropWhile isBlank).takeWhile isHash).length = j at hj ⊢
  have e0 : forMatch code1 text 1 0 text.size false false = SG code1 text 0 0 5 0 0 true #[none, none] (-1) (-1) [] 0 none (({} : Seen).add 14) := rfl
  rw [e0]
  have e1 : ∀ sn, (SG code1 text 0 0 5 0 0 true #[none, none] (-1) (-1) [] 0 none sn).step = SG code1 text 0 0 7 0 0 true #[none, none] (-1) (-1) [] 0 none ((sn.add 6).add 43) := fun _ => rfl
  have e2 : ∀ sn, (SG code1 text 0 0 7 0 0 true #[none, none] (-1) (-1) [] 0 none sn).step = SG code1 text 0 0 9 0 0 true #[some 0, none] 0 (-1) [] 0 none (sn.add 17) := fun _ => rfl
  have e3 : ∀ sn, ∃ sn', (SG code1 text 0 0 9 0 0 true #[some 0, none] 0 (-1) [] 0 none sn).step =
      SG code1 text 0 0 21 k k true #[some 0, none] 0 (-1) [{ wait := .giveBack, pc := 9, pos := k, outermost := true, count := (k : Nat), kept := { lastmark := 0, lastindex := -1, whole := false, marks := #[] } }] 1 none sn' := by
    intro sn
    obtain ⟨s1, r1⟩ := run_cnt (text := text) acc1a text.size 0 0 ((sn.add 24).add 13)
    rw [hk] at r1
    refine ⟨s1, ?_⟩
    have hroom : ((text.size : Int) - (0 : Nat)).toNat = text.size := by omega
    have hmin : min 4294967295 text.size = text.size := by omega
    rw [step_exec _ rfl rfl (by show 9 < 31; decide)]
    rw [exec_rep _ k s1 rfl (by show ¬ ((0 : Nat) : Int) > (text.size : Int) - (0 : Nat); omega)
      (by show Sre.run code1 text 13 (min 4294967295 ((text.size : Int) - (0 : Nat)).toNat) 0 0 ((sn.add 24).add 13) = _; rw [hroom, hmin, r1, Nat.zero_add]) (Nat.not_lt_zero _)]
    show M.afterRun (SG code1 text 0 0 9 (0 + k) 0 true #[some 0, none] 0 (-1) [] 0 none s1) _ _ _ = _
    rw [Nat.zero_add]
    rfl
  obtain ⟨s3, e3⟩ := e3 ((((({} : Seen).add 14).add 6).add 43).add 17)
  generalize hf : ({ wait := .giveBack, pc := 9, pos := k, outermost := true, count := (k : Nat), kept := { lastmark := 0, lastindex := -1, whole := false, marks := #[] } } : Sre.Frame) = f at e3
  have e3b : ∀ sn, ∃ sn', (SG code1 text 0 0 21 k k true #[some 0, none] 0 (-1) [f] 1 none sn).step =
      SG code1 text 0 0 28 (k + j) (k + j) true #[some 0, none] 0 (-1) [{ wait := .giveBack, pc := 21, pos := k + j, outermost := true, count := (j : Nat), kept := { lastmark := 0, lastindex := -1, whole := false, marks := #[] } }, f] 2 none sn' := by
    intro sn
    obtain ⟨s1, r1⟩ := run_cnt (text := text) acc1b (text.size - k) k 0 ((sn.add 24).add 16)
    refine ⟨s1, ?_⟩
    have hroom : ((text.size : Int) - (k : Nat)).toNat = text.size - k := by omega
    have hmin : min 4294967295 (text.size - k) = text.size - k := by omega
    rw [hj] at r1
    rw [step_exec _ rfl rfl (by show 21 < 31; decide)]
    rw [exec_rep _ j s1 rfl (by show ¬ ((0 : Nat) : Int) > (text.size : Int) - (k : Nat); omega)
      (by show Sre.run code1 text 25 (min 4294967295 ((text.size : Int) - (k : Nat)).toNat) k 0 ((sn.add 24).add 16) = _; rw [hroom, hmin, r1, Nat.zero_add]) (Nat.not_lt_zero _)]
    rfl
  obtain ⟨s3b, e3b⟩ := e3b s3
  generalize hg : ({ wait := .giveBack, pc := 21, pos := k + j, outermost := true, count := (j : Nat), kept := { lastmark := 0, lastindex := -1, whole := false, marks := #[] } } : Sre.Frame) = g at e3b
  have hgp : g.pos = k + j := by rw [← hg]
  generalize hq : k + j = q at *
  have e4 : ∀ sn, (SG code1 text 0 0 28 q q true #[some 0, none] 0 (-1) [g, f] 2 none sn).step = SG code1 text 0 0 30 q q true #[some 0, some q] 1 1 [g, f] 2 none (sn.add 17) := fun _ => by with_unfolding_all rfl
  have e5 : ∀ sn, (SG code1 text 0 0 30 q q true #[some 0, some q] 1 1 [g, f] 2 none sn).step = SG code1 text 0 0 30 q q true #[some 0, some q] 1 1 [g, f] 2 (some true) (sn.add 1) := fun _ => rfl
  have e6 : ∀ sn, (SG code1 text 0 0 30 q q true #[some 0, some q] 1 1 [g, f] 2 (some true) sn).step = SG code1 text 0 0 21 q q true #[some 0, some q] 1 1 [f] 1 (some true) sn := fun _ => by rw [← hg]; rfl
  have e6b : ∀ sn, (SG code1 text 0 0 21 q q true #[some 0, some q] 1 1 [f] 1 (some true) sn).step = SG code1 text 0 0 9 k q true #[some 0, some q] 1 1 [] 0 (some true) sn := fun _ => by rw [← hf]; rfl
  have e7 : ∀ sn, (SG code1 text 0 0 9 k q true #[some 0, some q] 1 1 [] 0 (some true) sn).step = { SG code1 text 0 0 9 k q true #[some 0, some q] 1 1 [] 0 (some true) sn with outcome := some .matched } := fun _ => rfl
  exact ⟨_, .more (.go rfl (e1 _) (.go rfl (e2 _) (.go rfl e3 (.go rfl e3b (.go rfl (e4 _) (.go rfl (e5 _) (.go rfl (e6 _) (.go rfl (e6b _) (.go rfl (e7 _) (.zero rfl)))))))))) (by omega), rfl, rfl, rfl, rfl, rfl⟩

def code2 : Array Nat := #[14,4,0,1,4294967295,17,0,24,9,1,4294967295,13,4,8,12,0,1,17,1,1]
theorem acc2 (c : Nat) (seen : Seen) : ∃ seen', accepts code2 11 c seen = .ok (Unicode.isSpace c, seen') := by
  have e : accepts code2 11 c seen = (do if ← (Except.ok (Unicode.isSpace c != false) : Except String Bool) then pure (true, ((seen.add 8).add 67)) else inSet code2 c 19 15 true ((seen.add 8).add 67)) := rfl
  rw [e]
  cases h : Unicode.isSpace c with
  | true => exact ⟨_, rfl⟩
  | false => exact ⟨_, rfl⟩
/-- the frame of a start, of a run -/
def NF (s : Nat) (b : Bool) : Sre.Frame := { wait := .nextStart, pc := 5, pos := s, outermost := b }
def GF (p n : Nat) (b : Bool) : Sre.Frame := { wait := .giveBack, pc := 7, pos := p, outermost := b, count := (n : Nat), kept := { lastmark := 0, lastindex := -1, whole := false, marks := #[] } }
theorem s2_mark (text : Array Nat) (s h : Nat) (b : Bool) (x : Option Nat) (sn : Seen) :
    (SG code2 text s text.size 5 s h b #[x, none] (-1) (-1) [NF s b] 1 none sn).step = SG code2 text s text.size 7 s h b #[some s, none] 0 (-1) [NF s b] 1 none (sn.add 17) := rfl
theorem s2_none (text : Array Nat) (s h : Nat) (b : Bool) (sn : Seen) (hs : s < text.size) (ht : text.size ≤ 4294967295) (hf : Unicode.isSpace (text.getD s 0) = false) :
    ∃ sn', (SG code2 text s text.size 7 s h b #[some s, none] 0 (-1) [NF s b] 1 none sn).step = SG code2 text s text.size 7 s h b #[some s, none] 0 (-1) [NF s b] 1 (some false) sn' := by
  obtain ⟨s1, r1⟩ := run_cnt (text := text) acc2 (text.size - s) s 0 ((sn.add 24).add 13)
  have hc : cnt Unicode.isSpace text (text.size - s) s = 0 := by
    obtain ⟨j, hj⟩ : ∃ j, text.size - s = j + 1 := ⟨text.size - s - 1, by omega⟩
    rw [hj, cnt, hf]; rfl
  rw [hc] at r1
  refine ⟨s1, ?_⟩
  have hroom : ((text.size : Int) - (s : Nat)).toNat = text.size - s := by omega
  have hmin : min 4294967295 (text.size - s) = text.size - s := by omega
  rw [step_exec _ rfl rfl (by show 7 < 20; decide)]
  rw [exec_rep_less _ 0 s1 rfl (by show ¬ ((1 : Nat) : Int) > (text.size : Int) - (s : Nat); omega)
    (by show Sre.run code2 text 11 (min 4294967295 ((text.size : Int) - (s : Nat)).toNat) s 0 ((sn.add 24).add 13) = _; rw [hroom, hmin, r1]) (by show 0 < 1; decide)]
  rfl
theorem s2_last (text : Array Nat) (h : Nat) (b : Bool) (sn : Seen) :
    (SG code2 text text.size text.size 7 text.size h b #[some text.size, none] 0 (-1) [NF text.size b] 1 none sn).step = SG code2 text text.size text.size 7 text.size h b #[some text.size, none] 0 (-1) [NF text.size b] 1 (some false) (sn.add 24) := by
  rw [step_exec _ rfl rfl (by show 7 < 20; decide)]
  show (if ((1 : Nat) : Int) > (text.size : Int) - (text.size : Nat) then _ else _) = _
  rw [if_pos (by omega)]
  rfl
theorem s2_next (text : Array Nat) (s h : Nat) (b : Bool) (x : Option Nat) (sn : Seen) (hs : s < text.size) :
    (SG code2 text s text.size 7 s h b #[x, none] 0 (-1) [NF s b] 1 (some false) sn).step = SG code2 text (s + 1) text.size 5 (s + 1) (s + 1) false #[x, none] (-1) (-1) [NF (s + 1) false] 1 none sn := by
  show (if s < text.size then _ else _) = _
  rw [if_pos hs]
  rfl
theorem s2_over (text : Array Nat) (h : Nat) (b : Bool) (x : Option Nat) (sn : Seen) :
    (SG code2 text text.size text.size 7 text.size h b #[x, none] 0 (-1) [NF text.size b] 1 (some false) sn).step = SG code2 text text.size text.size 5 text.size h b #[x, none] 0 (-1) [] 0 (some false) sn := by
  show (if text.size < text.size then _ else _) = _
  rw [if_neg (Nat.lt_irrefl _)]
  rfl
theorem s2_fin (text : Array Nat) (s l pc p h : Nat) (b : Bool) (mk : Array (Option Nat)) (i j : Int) (sn : Seen) (a : Bool) :
    (SG code2 text s l pc p h b mk i j [] 0 (some a) sn).step = { SG code2 text s l pc p h b mk i j [] 0 (some a) sn with outcome := some (if a then .matched else .failed) } := rfl
theorem s2_run (text : Array Nat) (s h n : Nat) (b : Bool) (sn : Seen) (hs : s < text.size) (ht : text.size ≤ 4294967295) (hn : cnt Unicode.isSpace text (text.size - s) s = n + 1) :
    ∃ sn', (SG code2 text s text.size 7 s h b #[some s, none] 0 (-1) [NF s b] 1 none sn).step = SG code2 text s text.size 17 (s + (n + 1)) (s + (n + 1)) b #[some s, none] 0 (-1) [GF (s + (n + 1)) (n + 1) b, NF s b] 2 none sn' := by
  obtain ⟨s1, r1⟩ := run_cnt (text := text) acc2 (text.size - s) s 0 ((sn.add 24).add 13)
  rw [hn] at r1
  refine ⟨s1, ?_⟩
  have hroom : ((text.size : Int) - (s : Nat)).toNat = text.size - s := by omega
  have hmin : min 4294967295 (text.size - s) = text.size - s := by omega
  rw [step_exec _ rfl rfl (by show 7 < 20; decide)]
  rw [exec_rep _ (n + 1) s1 rfl (by show ¬ ((1 : Nat) : Int) > (text.size : Int) - (s : Nat); omega)
    (by show Sre.run code2 text 11 (min 4294967295 ((text.size : Int) - (s : Nat)).toNat) s 0 ((sn.add 24).add 13) = _; rw [hroom, hmin, r1, Nat.zero_add]) (by show ¬ n + 1 < 1; omega)]
  rfl
theorem s2_mark1 (text : Array Nat) (s p : Nat) (b : Bool) (fs : List Sre.Frame) (sn : Seen) :
    (SG code2 text s text.size 17 p p b #[some s, none] 0 (-1) fs 2 none sn).step = SG code2 text s text.size 19 p p b #[some s, some p] 1 1 fs 2 none (sn.add 17) := by with_unfolding_all rfl
theorem s2_success (text : Array Nat) (s p : Nat) (b : Bool) (fs : List Sre.Frame) (sn : Seen) :
    (SG code2 text s text.size 19 p p b #[some s, some p] 1 1 fs 2 none sn).step = SG code2 text s text.size 19 p p b #[some s, some p] 1 1 fs 2 (some true) (sn.add 1) := by cases b <;> rfl
theorem s2_yes1 (text : Array Nat) (s p n : Nat) (b : Bool) (sn : Seen) :
    (SG code2 text s text.size 19 p p b #[some s, some p] 1 1 [GF p n b, NF s b] 2 (some true) sn).step = SG code2 text s text.size 7 p p b #[some s, some p] 1 1 [NF s b] 1 (some true) sn := rfl
theorem s2_yes2 (text : Array Nat) (s p : Nat) (b : Bool) (sn : Seen) :
    (SG code2 text s text.size 7 p p b #[some s, some p] 1 1 [NF s b] 1 (some true) sn).step = SG code2 text s text.size 5 s p b #[some s, some p] 1 1 [] 0 (some true) sn := rfl

/-- a search that finds: k signs that are no white ones, then n + 1 white ones -/
theorem s2_finds (text : Array Nat) (ht : text.size ≤ 4294967295) (n : Nat) : ∀ (k s h : Nat) (b : Bool) (x : Option Nat) (sn : Seen), s + k < text.size → (∀ i, i < k → Unicode.isSpace (text.getD (s + i) 0) = false) →
    cnt Unicode.isSpace text (text.size - (s + k)) (s + k) = n + 1 →
    ∃ m, Stops (SG code2 text s text.size 5 s h b #[x, none] (-1) (-1) [NF s b] 1 none sn) (3 * k + 8) m ∧ m.outcome = some .matched ∧ m.start = s + k ∧ m.handed = s + k + (n + 1) ∧ m.marks = #[some (s + k), some (s + k + (n + 1))] ∧ m.lastmark = 1
  | 0, s, h, b, x, sn, hs, _, hn => by
    obtain ⟨s1, e1⟩ := s2_run text s h n b (sn.add 17) (by omega) ht hn
    exact ⟨_, .more (.go rfl (s2_mark ..) (.go rfl e1 (.go rfl (s2_mark1 ..) (.go rfl (s2_success ..) (.go rfl (s2_yes1 ..) (.go rfl (s2_yes2 ..) (.go rfl (s2_fin ..) (.zero rfl)))))))) (by omega), rfl, rfl, rfl, rfl, rfl⟩
  | k + 1, s, h, b, x, sn, hs, hk, hn => by
    obtain ⟨s1, e1⟩ := s2_none text s h b (sn.add 17) (by omega) ht (by simpa using hk 0 (by omega))
    have ea : s + (k + 1) = s + 1 + k := by omega
    obtain ⟨m, r, o1, o2, o3, o4, o5⟩ := s2_finds text ht n k (s + 1) (s + 1) false (some s) s1 (by omega) (fun i hi => by have := hk (i + 1) (by omega); rwa [show s + (i + 1) = s + 1 + i by omega] at this) (by rw [← ea]; exact hn)
    rw [ea]
    exact ⟨m, .more (.go rfl (s2_mark ..) (.go rfl e1 (.go rfl (s2_next _ _ _ _ _ _ (by omega)) r))) (by omega), o1, o2, o3, o4, o5⟩
theorem s2_misses (text : Array Nat) (ht : text.size ≤ 4294967295) : ∀ (k s h : Nat) (b : Bool) (x : Option Nat) (sn : Seen), s + k = text.size → (∀ i, i < k → Unicode.isSpace (text.getD (s + i) 0) = false) →
    ∃ m, Stops (SG code2 text s text.size 5 s h b #[x, none] (-1) (-1) [NF s b] 1 none sn) (3 * k + 4) m ∧ m.outcome = some .failed
  | 0, s, h, b, x, sn, hs, _ => by
    have hs' : s = text.size := by omega
    subst hs'
    exact ⟨_, .go rfl (s2_mark ..) (.go rfl (s2_last ..) (.go rfl (s2_over ..) (.go rfl (s2_fin ..) (.zero rfl)))), rfl⟩
  | k + 1, s, h, b, x, sn, hs, hk => by
    obtain ⟨s1, e1⟩ := s2_none text s h b (sn.add 17) (by omega) ht (by simpa using hk 0 (by omega))
    obtain ⟨m, r, o⟩ := s2_misses text ht k (s + 1) (s + 1) false (some s) s1 (by omega) (fun i hi => by have := hk (i + 1) (by omega); rwa [show s + (i + 1) = s + 1 + i by omega] at this)
    exact ⟨m, .more (.go rfl (s2_mark ..) (.go rfl e1 (.go rfl (s2_next _ _ _ _ _ _ (by omega)) r))) (by omega), o⟩
theorem for2 (text : Array Nat) (s : Nat) (hs : s < text.size) : forSearch code2 text 1 s text.size false = SG code2 text s text.size 5 s s true #[none, none] (-1) (-1) [NF s true] 1 none (({} : Seen).add 14) := by
  show (if (decide (s > text.size) || decide (text.size - s < 1)) = true then _ else _) = _
  have h1 : decide (s > text.size) = false := by simp; omega
  have h2 : decide (text.size - s < 1) = false := by simp; omega
  rw [h1, h2]
  rfl
theorem for2_end (text : Array Nat) : ∃ m, Stops (forSearch code2 text 1 text.size text.size false) 1 m ∧ m.outcome = some .failed := by
  have e : forSearch code2 text 1 text.size text.size false = SG code2 text text.size 0 5 text.size text.size true #[none, none] (-1) (-1) [] 0 (some false) (({} : Seen).add 14) := by
    show (if (decide (text.size > text.size) || decide (text.size - text.size < 1)) = true then _ else _) = _
    have h2 : decide (text.size - text.size < 1) = true := by simp
    rw [h2, Bool.or_true]
    rfl
  rw [e]
  exact ⟨_, .go rfl (s2_fin ..) (.zero rfl), rfl⟩
theorem search2_found (text : Array Nat) (ht : text.size ≤ 16777216) (s k n : Nat) (hs : s + k < text.size) (hk : ∀ i, i < k → Unicode.isSpace (text.getD (s + i) 0) = false)
    (hn : cnt Unicode.isSpace text (text.size - (s + k)) (s + k) = n + 1) :
    ∃ m, Stops (forSearch code2 text 1 s text.size false) (3 * text.size + 8) m ∧ m.outcome = some .matched ∧ m.start = s + k ∧ m.handed = s + k + (n + 1) ∧ m.marks = #[some (s + k), some (s + k + (n + 1))] ∧ m.lastmark = 1 := by
  rw [for2 text s (by omega)]
  obtain ⟨m, r, o⟩ := s2_finds text (by omega) n k s s true none (({} : Seen).add 14) hs hk hn
  exact ⟨m, r.more (by omega), o⟩
theorem search2_none (text : Array Nat) (ht : text.size ≤ 16777216) (s : Nat) (hs : s ≤ text.size) (hk : ∀ i, s ≤ i → i < text.size → Unicode.isSpace (text.getD i 0) = false) :
    ∃ m, Stops (forSearch code2 text 1 s text.size false) (3 * text.size + 8) m ∧ m.outcome = some .failed := by
  by_cases he : s = text.size
  · subst he
    obtain ⟨m, r, o⟩ := for2_end text
    exact ⟨m, r.more (by omega), o⟩
  · rw [for2 text s (by omega)]
    obtain ⟨m, r, o⟩ := s2_misses text (by omega) (text.size - s) s s true none (({} : Seen).add 14) (by omega) (fun i hi => hk _ (by omega) (by omega))
    exact ⟨m, r.more (by omega), o⟩
end Mine
end

section
set_option maxRecDepth 100000
namespace Mine
open PySem PySem.Calls PyProof.Rows PySem.Builtin PySem.Builtin.Re

theorem plain_pat : PlainAttrs "re.Pattern" := ⟨⟨"object.__getattribute__", by rw [typeLookup_type, builtinLookup_eq_fast]; kernel_rfl, by decide +kernel⟩, by rw [typeLookup_type, builtinLookup_eq_fast]; kernel_rfl⟩
theorem slot_pat_match : Slot "re.Pattern" "match" "re.Pattern.match" :=
  .of (owner := "re.Pattern") (n := "match") (by rw [typeLookup_type, builtinLookup_eq_fast]; kernel_rfl) (by decide +kernel) (by decide +kernel) (by decide +kernel)
    (by first | exact .inl (by decide +kernel) | exact .inr (by decide +kernel)) (by rw [isSubtype_type]; kernel_rfl)
theorem type_pat_match : typeOf (.builtin "re.Pattern.match") = pure (.type "method_descriptor") := by show builtinType _ = _; rw [builtinType_eq_fast]; kernel_rfl
theorem entry_pat_match : entryFor table "re.Pattern.match" = some Builtin.«re.Pattern.match» := entryFor_of_tree (by kernel_rfl)
theorem owner_pat : Manifest.owners.lookup (String.ofList ['n', 'r', 'e', 't', 't', 'a', 'P', '.', 'e', 'r'].reverse) = some Manifest.sig_re_Pattern := by kernel_rfl
theorem args_pat_match (a b : Value) : argsOk "re.Pattern.match" ⟨[a, b], []⟩ := by
  unfold argsOk; rw [signature?_of (id := "re.Pattern.match") (n := ['h', 'c', 't', 'a', 'm']) (o := ['n', 'r', 'e', 't', 't', 'a', 'P', '.', 'e', 'r']) (by kernel_rfl) owner_pat]; kernel_rfl
theorem slot_pat_split : Slot "re.Pattern" "split" "re.Pattern.split" :=
  .of (owner := "re.Pattern") (n := "split") (by rw [typeLookup_type, builtinLookup_eq_fast]; kernel_rfl) (by decide +kernel) (by decide +kernel) (by decide +kernel)
    (by first | exact .inl (by decide +kernel) | exact .inr (by decide +kernel)) (by rw [isSubtype_type]; kernel_rfl)
theorem type_pat_split : typeOf (.builtin "re.Pattern.split") = pure (.type "method_descriptor") := by show builtinType _ = _; rw [builtinType_eq_fast]; kernel_rfl
theorem entry_pat_split : entryFor table "re.Pattern.split" = some Builtin.«re.Pattern.split» := entryFor_of_tree (by kernel_rfl)
theorem args_pat_split (a b : Value) : argsOk "re.Pattern.split" ⟨[a, b], []⟩ := by
  unfold argsOk; rw [signature?_of (id := "re.Pattern.split") (n := ['t', 'i', 'l', 'p', 's']) (o := ['n', 'r', 'e', 't', 't', 'a', 'P', '.', 'e', 'r']) (by kernel_rfl) owner_pat]; kernel_rfl
theorem plain_mat : PlainAttrs "re.Match" := ⟨⟨"object.__getattribute__", by rw [typeLookup_type, builtinLookup_eq_fast]; kernel_rfl, by decide +kernel⟩, by rw [typeLookup_type, builtinLookup_eq_fast]; kernel_rfl⟩
theorem slot_mat_group : Slot "re.Match" "group" "re.Match.group" :=
  .of (owner := "re.Match") (n := "group") (by rw [typeLookup_type, builtinLookup_eq_fast]; kernel_rfl) (by decide +kernel) (by decide +kernel) (by decide +kernel)
    (by first | exact .inl (by decide +kernel) | exact .inr (by decide +kernel)) (by rw [isSubtype_type]; kernel_rfl)
theorem type_mat_group : typeOf (.builtin "re.Match.group") = pure (.type "method_descriptor") := by show builtinType _ = _; rw [builtinType_eq_fast]; kernel_rfl
theorem entry_mat_group : entryFor table "re.Match.group" = some Builtin.«re.Match.group» := entryFor_of_tree (by kernel_rfl)
theorem owner_mat : Manifest.owners.lookup (String.ofList ['h', 'c', 't', 'a', 'M', '.', 'e', 'r'].reverse) = some Manifest.sig_re_Match := by kernel_rfl
theorem args_mat_group1 (a : Value) : argsOk "re.Match.group" ⟨[a], []⟩ := by
  unfold argsOk; rw [signature?_of (id := "re.Match.group") (n := ['p', 'u', 'o', 'r', 'g']) (o := ['h', 'c', 't', 'a', 'M', '.', 'e', 'r']) (by kernel_rfl) owner_mat]; kernel_rfl
theorem args_mat_group2 (a b : Value) : argsOk "re.Match.group" ⟨[a, b], []⟩ := by
  unfold argsOk; rw [signature?_of (id := "re.Match.group") (n := ['p', 'u', 'o', 'r', 'g']) (o := ['h', 'c', 't', 'a', 'M', '.', 'e', 'r']) (by kernel_rfl) owner_mat]; kernel_rfl

section
variable {M : Model} {A : Around} {E : Value → Shared → Prop} {s : Shared}

theorem wp_reDrive {m' : Sre.M} {Q : Sre.M → Shared → Prop} (q : Q m' s) : ∀ (t n : Nat) (m : Sre.M), Stops m n m' → n ≤ 4 * t → 0 < t → wpAny M A (reDrive t m) Q E s
  | 0, _, _, _, _, h => absurd h (Nat.lt_irrefl _)
  | t + 1, n, m, r, h, _ => by
    unfold reDrive
    show wpAny M A (if (Sre.M.runFor 4 m).outcome.isSome = true then pure (Sre.M.runFor 4 m) else do rule "sre.turn"; reDrive t (Sre.M.runFor 4 m)) Q E s
    by_cases hs : (Sre.M.runFor 4 m).outcome.isSome = true
    · rw [if_pos hs]
      have e : Sre.M.runFor 4 m = m' := by
        rcases Nat.le_total n 4 with hn | hn
        · exact (r.more hn).1
        · obtain ⟨j, rfl⟩ : ∃ j, n = 4 + j := ⟨n - 4, by omega⟩
          have := r.1
          rw [runFor_add, runFor_stop hs] at this
          exact this
      rw [e]; exact wpAny_pure q
    · rw [if_neg hs]
      have hn : 4 < n := by
        rcases Nat.lt_or_ge 4 n with hn | hn
        · exact hn
        · exact absurd ((r.more hn).1 ▸ r.2) hs
      obtain ⟨j, rfl⟩ : ∃ j, n = 4 + j := ⟨n - 4, by omega⟩
      refine wpAny_bind (wpAny_rule (wp_reDrive q t j _ ⟨?_, r.2⟩ (by omega) (by omega)))
      rw [← runFor_add]; exact r.1

theorem wp_rules {Q : PUnit → Shared → Prop} (q : Q ⟨⟩ s) (c : Nat → Bool) (n : Nat → String) : ∀ l : List Nat,
    wpAny M A (forIn l PUnit.unit fun i (_ : PUnit) => if c i = true then (do rule (n i); pure (ForInStep.yield PUnit.unit)) else pure (ForInStep.yield PUnit.unit)) Q E s
  | [] => by rw [List.forIn_nil]; exact wpAny_pure q
  | i :: l => by
    rw [List.forIn_cons]
    refine wpAny_bind ?_
    cases c i with
    | true => exact wpAny_bind (wpAny_rule (wpAny_pure (wp_rules q c n l)))
    | false => exact wpAny_pure (wp_rules q c n l)

theorem wp_reRunToEnd {m m' : Sre.M} {n : Nat} {Q : Option Sre.M → Shared → Prop} (r : Stops m n m') (hn : n ≤ 4294967296) (b : Bool) (ho : m'.outcome = some (if b then .matched else .failed))
    (q : Q (if b then some m' else none) s) : wpAny M A (reRunToEnd m) Q E s := by
  unfold reRunToEnd
  refine wpAny_bind (wp_reDrive (m' := m') ?_ _ _ _ r (by omega) (by omega))
  refine wpAny_bind (wp_rules ?_ (fun i => m'.seen.has i) (fun i => Sre.names.getD i "") _)
  rw [ho]
  cases b with
  | true => exact wpAny_pure q
  | false => exact wpAny_pure q
end
end Mine
end

section
set_option maxRecDepth 100000
namespace Mine
open PySem PySem.Calls PyProof.Rows PySem.Builtin PySem.Builtin.Re

/-- a compiled pattern: its object, its code's tuple -/
structure PatAt (h : Heap) (p : Addr) (code : Array Nat) (groups : Nat) : Prop where
  at_ : ∃ (op : Obj) (fs : Array Value) (c : Addr) (oc : Obj) (items : Array Value) (n : Nat), h.get? p = some op ∧ op.cls = .type "re.Pattern" ∧ op.dict = none ∧ op.data = .fields fs ∧
    fs.getD 6 .none = .int 0 0 ∧ fs.getD 5 .none = .ref c ∧ reRawNat (fs.getD 2 .none) = groups ∧ h.get? c = some oc ∧ oc.data = .seq items n ∧ (items.map reRawOf).map (·.toNat) = code
theorem PatAt.keeps {h h' : Heap} {p : Addr} {code : Array Nat} {g : Nat} (P : PatAt h p code g) (hk : ∀ b o, h.get? b = some o → h'.get? b = some o) : PatAt h' p code g := by
  obtain ⟨op, fs, c, oc, items, n, h1, h2, h3, h4, h5, h6, h7, h8, h9, h10⟩ := P.at_
  exact ⟨op, fs, c, oc, items, n, hk _ _ h1, h2, h3, h4, h5, h6, h7, hk _ _ h8, h9, h10⟩
theorem PatAt.typeIs {s : Shared} {p : Addr} {code : Array Nat} {g : Nat} (P : PatAt s.heap p code g) : s.TypeIs (.ref p) "re.Pattern" := by
  obtain ⟨op, fs, c, oc, items, n, h1, h2, h3, h4, h5, h6, h7, h8, h9, h10⟩ := P.at_
  exact ⟨op, h1, h2⟩
theorem PatAt.noDict {s : Shared} {p : Addr} {code : Array Nat} {g : Nat} (P : PatAt s.heap p code g) : ∀ a, Value.ref p = .ref a → ∃ ob, s.heap.get? a = some ob ∧ ob.dict = none := by
  obtain ⟨op, fs, c, oc, items, n, h1, h2, h3, h4, h5, h6, h7, h8, h9, h10⟩ := P.at_
  rintro a e; cases e
  exact ⟨op, h1, h3⟩

section
variable {M : Model} {A : Around} {E : Value → Shared → Prop} {s : Shared}

theorem wp_reTarget {id f : String} {p : Addr} {code : Array Nat} {g : Nat} {x : Str} {t : Tok} {Q : ReTarget → Shared → Prop} (P : PatAt s.heap p code g) (hx : x.cps.size ≤ 16777216)
    (q : Q { pattern := .ref p, string := .str x t, code := code, text := x.cps, kind := 0, groups := g, pos := 0, lim := x.cps.size } s) :
    wpAny M A (reTarget id f ⟨[.ref p, .str x t], []⟩) Q E s := by
  obtain ⟨op, fs, c, oc, items, n, h1, h2, h3, h4, h5, h6, h7, h8, h9, h10⟩ := P.at_
  unfold reTarget
  refine wpAny_bind (m := reNamed id f ["string", "pos", "endpos"] 1 [.str x t] []) (wpAny_pure (a := [some (Value.str x t), none, none]) ?_)
  refine wpAny_bind (wpAny_pure ?_)
  refine wpAny_bind (wpAny_pure ?_)
  refine wpAny_bind (wpAny_fieldsOf h1 h4 ?_)
  refine wpAny_bind (m := reTextOf (.str x t)) (wpAny_pure (a := (x.cps, 0)) ?_)
  dsimp only
  rw [h5, h6]
  refine wpAny_bind (m := reNoCollectionInside (.str x t) 0) (wpAny_pure (a := ()) ?_)
  refine wpAny_bind (m := reRawItems (.ref c)) ?_
  unfold reRawItems seqItems?
  refine wpAny_bind (wpAny_bind (wpAny_load h8 ?_))
  rw [h9]
  refine wpAny_pure (wpAny_pure (wpAny_pure ?_))
  have e1 : min (0 : Int).toNat x.cps.size = 0 := by simp
  have e2 : min ((2 ^ 63 - 1 : Int)).toNat x.cps.size = x.cps.size := by
    have : ((2 ^ 63 - 1 : Int)).toNat = 9223372036854775807 := by decide
    rw [this]; omega
  show Q { pattern := .ref p, string := .str x t, code := (items.map reRawOf).map (·.toNat), text := x.cps, kind := 0, groups := reRawNat (fs.getD 2 .none), pos := min (0 : Int).toNat x.cps.size, lim := min ((2 ^ 63 - 1 : Int)).toNat x.cps.size } s
  rw [h10, h7, e1, e2]
  exact q

/-- a found match: its text, its spans -/
structure MatAt (h : Heap) (a : Addr) (x : Str) (t : Tok) (spans : Array Int) : Prop where
  at_ : ∃ (ob : Obj) (fs : Array Value) (tu : Addr) (ot : Obj) (items : Array Value) (n : Nat), h.get? a = some ob ∧ ob.cls = .type "re.Match" ∧ ob.dict = none ∧ ob.data = .fields fs ∧
    fs.getD 0 .none = .str x t ∧ fs.getD 5 .none = .ref tu ∧ h.get? tu = some ot ∧ ot.data = .seq items n ∧ items.map reRawOf = spans
theorem MatAt.keeps {h h' : Heap} {a : Addr} {x : Str} {t : Tok} {sp : Array Int} (P : MatAt h a x t sp) (hk : ∀ b o, h.get? b = some o → h'.get? b = some o) : MatAt h' a x t sp := by
  obtain ⟨ob, fs, tu, ot, items, n, h1, h2, h3, h4, h5, h6, h7, h8, h9⟩ := P.at_
  exact ⟨ob, fs, tu, ot, items, n, hk _ _ h1, h2, h3, h4, h5, h6, hk _ _ h7, h8, h9⟩
theorem MatAt.typeIs {a : Addr} {x : Str} {t : Tok} {sp : Array Int} (P : MatAt s.heap a x t sp) : s.TypeIs (.ref a) "re.Match" := by
  obtain ⟨ob, fs, tu, ot, items, n, h1, h2, h3, h4, h5, h6, h7, h8, h9⟩ := P.at_
  exact ⟨ob, h1, h2⟩
theorem MatAt.noDict {p : Addr} {x : Str} {t : Tok} {sp : Array Int} (P : MatAt s.heap p x t sp) : ∀ a, Value.ref p = .ref a → ∃ ob, s.heap.get? a = some ob ∧ ob.dict = none := by
  obtain ⟨ob, fs, tu, ot, items, n, h1, h2, h3, h4, h5, h6, h7, h8, h9⟩ := P.at_
  rintro a e; cases e
  exact ⟨ob, h1, h3⟩

theorem wp_newMatch0 {pat : Value} {x : Str} {t : Tok} {pos lim : Nat} {m : Sre.M} {Q : Value → Shared → Prop}
    (q : ∀ a h', (∀ b o, s.heap.get? b = some o → h'.get? b = some o) → MatAt h' a x t #[(m.start : Int), (m.handed : Int)] → Q (.ref a) { s with heap := h' }) :
    wpAny M A (reNewMatch pat (.str x t) 0 pos lim m) Q E s := by
  show wpAny M A (do let tu ← newTuple [rawInt m.start, rawInt m.handed]; newFields "re.Match" [.str x t, pat, rawInt pos, rawInt lim, rawInt m.lastindex, tu]) Q E s
  refine wpAny_bind (wpAny_newObj_type (wpAny_newObj_type (q _ _ (fun b o e => Heap.get?_push_of_some _ (Heap.get?_push_of_some _ e))
    ⟨_, _, _, _, _, _, Heap.get?_push_size _ rfl, rfl, rfl, rfl, rfl, rfl, Heap.get?_push_of_some _ (Heap.get?_push_size _ rfl), rfl, by simp [reRawOf, rawInt]⟩) (by size_fits)) (by size_fits))

/-- the two objects of a found match -/
def TuP (sp : Array Int) : Obj → Prop := fun o => ∃ items n, o.data = .seq items n ∧ items.map reRawOf = sp
def MaP (x : Str) (t : Tok) (tu : Addr) : Obj → Prop := fun o => o.cls = .type "re.Match" ∧ o.dict = none ∧ ∃ fs, o.data = .fields fs ∧ fs.getD 0 .none = .str x t ∧ fs.getD 5 .none = .ref tu
theorem MatAt.of {h : Heap} {a tu : Addr} {x : Str} {t : Tok} {sp : Array Int} (h1 : ∃ o, h.get? a = some o ∧ MaP x t tu o) (h2 : ∃ o, h.get? tu = some o ∧ TuP sp o) : MatAt h a x t sp := by
  obtain ⟨o, ho, c, d, fs, hf, f0, f5⟩ := h1
  obtain ⟨o', ho', items, n, hd, e⟩ := h2
  exact ⟨o, fs, tu, o', items, n, ho, c, d, hf, f0, f5, ho', hd, e⟩
theorem wp_newMatch1 {pat : Value} {x : Str} {t : Tok} {pos lim b e : Nat} {m : Sre.M} {Q : Value → Shared → Prop} (hm : m.marks = #[some b, some e]) (hl : m.lastmark = 1) (hbe : b ≤ e)
    (q : ∀ o1 o2 : Obj, o1.isFreed = false → o2.isFreed = false → TuP #[(m.start : Int), (m.handed : Int), (b : Int), (e : Int)] o1 → MaP x t s.heap.objs.size o2 → Q (.ref (s.heap.push o1).objs.size) { s with heap := (s.heap.push o1).push o2 }) :
    wpAny M A (reNewMatch pat (.str x t) 1 pos lim m) Q E s := by
  have e1 : reNewMatch pat (.str x t) 1 pos lim m = (do let tu ← newTuple [rawInt m.start, rawInt m.handed, rawInt b, rawInt e]; newFields "re.Match" [.str x t, pat, rawInt pos, rawInt lim, rawInt m.lastindex, tu]) := by
    unfold reNewMatch
    rw [hm, hl]
    dsimp only
    show (if (((decide (((1 : Nat) : Int) ≤ 1) && decide (e < b)) || false) = true) then _ else _) = _
    rw [decide_eq_false (Nat.not_lt.mpr hbe)]
    rfl
  rw [e1]
  exact wpAny_bind (wpAny_newObj_type (wpAny_newObj_type (q _ _ rfl rfl ⟨_, _, rfl, by simp [reRawOf, rawInt]⟩ ⟨rfl, rfl, _, rfl, rfl, rfl⟩) (by size_fits)) (by size_fits))
end

section
variable {prog : Program} {w : World} {A : Around} {E : Value → Shared → Prop} {s : Shared}

theorem call_match_no {p : Addr} {code : Array Nat} {g : Nat} {x : Str} {t : Tok} {m' : Sre.M} {n : Nat} {Q : Value → Shared → Prop} (P : PatAt s.heap p code g) (hx : x.cps.size ≤ 16777216)
    (r : Stops (Sre.forMatch code x.cps g 0 x.cps.size false false) n m') (hn : n ≤ 4294967296) (ho : m'.outcome = some .failed) (q : Q .none s) :
    wpAny (model prog w) A (call (.builtin "re.Pattern.match") [.ref p, .str x t]) Q E s := by
  refine wpAny_call_entry slot_pat_match P.typeIs entry_pat_match ?_ (args_pat_match _ _)
  unfold Builtin.«re.Pattern.match»
  refine wpAny_bind (wp_reTarget P hx ?_)
  unfold reAnswer
  refine wpAny_bind (wp_reRunToEnd r hn false ho ?_)
  exact wpAny_pure ⟨_, rfl, q⟩
theorem call_match0 {p : Addr} {code : Array Nat} {x : Str} {t : Tok} {m' : Sre.M} {n : Nat} {Q : Value → Shared → Prop} (P : PatAt s.heap p code 0) (hx : x.cps.size ≤ 16777216)
    (r : Stops (Sre.forMatch code x.cps 0 0 x.cps.size false false) n m') (hn : n ≤ 4294967296) (ho : m'.outcome = some .matched)
    (q : ∀ a h', (∀ b o, s.heap.get? b = some o → h'.get? b = some o) → Q (.ref a) { s with heap := h' }) :
    wpAny (model prog w) A (call (.builtin "re.Pattern.match") [.ref p, .str x t]) Q E s := by
  refine wpAny_call_entry slot_pat_match P.typeIs entry_pat_match ?_ (args_pat_match _ _)
  unfold Builtin.«re.Pattern.match»
  refine wpAny_bind (wp_reTarget P hx ?_)
  unfold reAnswer
  refine wpAny_bind (wp_reRunToEnd r hn true ho ?_)
  exact wpAny_bind (wp_newMatch0 fun a h' hk _ => wpAny_pure ⟨_, rfl, q a h' hk⟩)
theorem call_match1 {p : Addr} {code : Array Nat} {x : Str} {t : Tok} {m' : Sre.M} {n k : Nat} {Q : Value → Shared → Prop} (P : PatAt s.heap p code 1) (hx : x.cps.size ≤ 16777216)
    (r : Stops (Sre.forMatch code x.cps 1 0 x.cps.size false false) n m') (hn : n ≤ 4294967296) (ho : m'.outcome = some .matched) (h0 : m'.start = 0) (h1 : m'.handed = k) (hm : m'.marks = #[some 0, some k]) (hl : m'.lastmark = 1)
    (q : ∀ o1 o2 : Obj, o1.isFreed = false → o2.isFreed = false → TuP #[0, (k : Int), 0, (k : Int)] o1 → MaP x t s.heap.objs.size o2 → Q (.ref (s.heap.push o1).objs.size) { s with heap := (s.heap.push o1).push o2 }) :
    wpAny (model prog w) A (call (.builtin "re.Pattern.match") [.ref p, .str x t]) Q E s := by
  refine wpAny_call_entry slot_pat_match P.typeIs entry_pat_match ?_ (args_pat_match _ _)
  unfold Builtin.«re.Pattern.match»
  refine wpAny_bind (wp_reTarget P hx ?_)
  unfold reAnswer
  refine wpAny_bind (wp_reRunToEnd r hn true ho ?_)
  refine wpAny_bind (wp_newMatch1 hm hl (Nat.zero_le _) fun o1 o2 f1 f2 p1 p2 => wpAny_pure ⟨_, rfl, q o1 o2 f1 f2 ?_ p2⟩)
  rw [h0, h1] at p1
  exact p1

theorem call_group0 {a : Addr} {x : Str} {t : Tok} {k : Nat} {sp2 sp3 : Int} {Q : Value → Shared → Prop} (P : MatAt s.heap a x t #[0, (k : Int), sp2, sp3]) (hx : x.cps.size ≤ 16777216)
    (q : ∀ t' tk, Q (.str ⟨x.cps.extract 0 k⟩ t') { s with toks := tk }) :
    wpAny (model prog w) A (call (.builtin "re.Match.group") [.ref a]) Q E s := by
  refine wpAny_call_entry slot_mat_group P.typeIs entry_mat_group ?_ (args_mat_group1 _)
  obtain ⟨ob, fs, tu, ot, items, n, h1, h2, h3, h4, h5, h6, h7, h8, h9⟩ := P.at_
  unfold Builtin.«re.Match.group»
  refine wpAny_bind (m := noKeywords "Match.group" ⟨[.ref a], []⟩) (wpAny_pure (a := ()) ?_)
  dsimp only
  refine wpAny_bind (m := reFound (.ref a)) ?_
  unfold reFound
  refine wpAny_bind (wpAny_fieldsOf h1 h4 ?_)
  rw [h6]
  unfold reRawItems seqItems?
  refine wpAny_bind (wpAny_bind (wpAny_bind (wpAny_load h7 ?_)))
  rw [h8]
  refine wpAny_pure (wpAny_pure (wpAny_pure ?_))
  dsimp only [Option.getD_some]
  rw [h9]
  refine wpAny_bind ?_
  unfold reGroupText
  dsimp only
  rw [h5]
  show wpAny _ _ (if (decide ((0 : Int) < 0) || decide ((k : Int) < 0)) = true then _ else _) _ _ _
  have hk : decide ((k : Int) < 0) = false := decide_eq_false (by omega)
  rw [hk]
  show wpAny _ _ (reSlice x.cps 0 0 k) _ _ _
  have hsz : (⟨x.cps.extract 0 k⟩ : Str).length ≤ sizeLine := by
    show (x.cps.extract 0 k).size ≤ sizeLine
    rw [sizeLine_eq, Array.size_extract]; omega
  show wpAny _ _ (mkStr ⟨x.cps.extract 0 k⟩) _ _ _
  unfold mkStr
  rw [if_neg (Nat.not_lt.mpr hsz)]
  exact wpAny_bind (wpAny_fresh (wpAny_pure (wpAny_pure ⟨_, rfl, q _ _⟩)))

theorem call_group1 {a : Addr} {x : Str} {t u : Tok} {k : Nat} {sp0 sp1 : Int} {Q : Value → Shared → Prop} (P : MatAt s.heap a x t #[sp0, sp1, 0, (k : Int)]) (hx : x.cps.size ≤ 16777216)
    (q : ∀ t' tk, Q (.str ⟨x.cps.extract 0 k⟩ t') { s with toks := tk }) :
    wpAny (model prog w) A (call (.builtin "re.Match.group") [.ref a, .int 1 u]) Q E s := by
  refine wpAny_call_entry slot_mat_group P.typeIs entry_mat_group ?_ (args_mat_group2 _ _)
  obtain ⟨ob, fs, tu, ot, items, n, h1, h2, h3, h4, h5, h6, h7, h8, h9⟩ := P.at_
  unfold Builtin.«re.Match.group»
  refine wpAny_bind (m := noKeywords "Match.group" ⟨[.ref a, .int 1 u], []⟩) (wpAny_pure (a := ()) ?_)
  dsimp only
  refine wpAny_bind (m := reFound (.ref a)) ?_
  unfold reFound
  refine wpAny_bind (wpAny_fieldsOf h1 h4 ?_)
  rw [h6]
  unfold reRawItems seqItems?
  refine wpAny_bind (wpAny_bind (wpAny_bind (wpAny_load h7 ?_)))
  rw [h8]
  refine wpAny_pure (wpAny_pure (wpAny_pure ?_))
  dsimp only [Option.getD_some]
  rw [h9]
  refine wpAny_bind (m := reGroupNumber _ (.int 1 u)) (wpAny_pure (a := (1 : Nat)) ?_)
  refine wpAny_bind ?_
  unfold reGroupText
  dsimp only
  rw [h5]
  show wpAny _ _ (if (decide ((0 : Int) < 0) || decide ((k : Int) < 0)) = true then _ else _) _ _ _
  have hk : decide ((k : Int) < 0) = false := decide_eq_false (by omega)
  rw [hk]
  show wpAny _ _ (reSlice x.cps 0 0 k) _ _ _
  have hsz : (⟨x.cps.extract 0 k⟩ : Str).length ≤ sizeLine := by
    show (x.cps.extract 0 k).size ≤ sizeLine
    rw [sizeLine_eq, Array.size_extract]; omega
  show wpAny _ _ (mkStr ⟨x.cps.extract 0 k⟩) _ _ _
  unfold mkStr
  rw [if_neg (Nat.not_lt.mpr hsz)]
  exact wpAny_bind (wpAny_fresh (wpAny_pure (wpAny_pure ⟨_, rfl, q _ _⟩)))
end
end Mine
end

section
set_option maxRecDepth 100000
namespace Mine
open PySem PySem.Calls PyProof.Rows PySem.Builtin PySem.Builtin.Re

/-- a text of codes -/
def S (l : List Nat) : Str := ⟨l.toArray⟩
theorem S_cps (l : List Nat) : (S l).cps = l.toArray := rfl
theorem S_of (x : Str) : S x.cps.toList = x := by cases x; rfl
theorem S_len (l : List Nat) : (S l).length = l.length := by show l.toArray.size = _; simp

def nsp (c : Nat) : Bool := !Unicode.isSpace c
theorem drop_lt {l : List Nat} (h : l.dropWhile nsp ≠ []) : ((l.dropWhile nsp).dropWhile Unicode.isSpace).length < l.length := by
  have h1 : (l.dropWhile nsp).length ≤ l.length := (List.dropWhile_suffix nsp).length_le
  cases e : l.dropWhile nsp with
  | nil => exact absurd e h
  | cons a r =>
    have ha : Unicode.isSpace a = true := by
      have := List.head?_dropWhile_not nsp l
      rw [e] at this
      simpa [nsp] using this
    rw [List.dropWhile_cons, if_pos ha]
    have h2 : (r.dropWhile Unicode.isSpace).length ≤ r.length := (List.dropWhile_suffix _).length_le
    rw [e, List.length_cons] at h1
    omega
/-- re.split by (\s+) -/
def splitW (l : List Nat) : List (List Nat) :=
  if _h : l.dropWhile nsp = [] then [l] else l.takeWhile nsp :: (l.dropWhile nsp).takeWhile Unicode.isSpace :: splitW ((l.dropWhile nsp).dropWhile Unicode.isSpace)
termination_by l.length
decreasing_by exact drop_lt (by assumption)
theorem splitW_nil {l : List Nat} (h : l.dropWhile nsp = []) : splitW l = [l] := by rw [splitW, dif_pos h]
theorem splitW_cons {l : List Nat} (h : l.dropWhile nsp ≠ []) : splitW l = l.takeWhile nsp :: (l.dropWhile nsp).takeWhile Unicode.isSpace :: splitW ((l.dropWhile nsp).dropWhile Unicode.isSpace) := by rw [splitW, dif_neg h]

theorem extract_S (text : Array Nat) (b e : Nat) : (⟨text.extract b e⟩ : Str) = S ((text.toList.drop b).take (e - b)) := by
  show (⟨_⟩ : Str) = ⟨_⟩
  congr 1
  apply Array.toList_inj.mp
  simp [List.extract_eq_take_drop]

section
variable {M : Model} {A : Around} {E : Value → Shared → Prop} {s : Shared}
theorem wp_reSlice {text : Array Nat} {b e : Nat} {Q : Value → Shared → Prop} (ht : text.size ≤ 16777216) (q : ∀ t tk, Q (.str (S ((text.toList.drop b).take (e - b))) t) { s with toks := tk }) : wpAny M A (reSlice text 0 b e) Q E s := by
  show wpAny M A (mkStr ⟨text.extract b e⟩) Q E s
  have hsz : (⟨text.extract b e⟩ : Str).length ≤ sizeLine := by
    show (text.extract b e).size ≤ sizeLine
    rw [sizeLine_eq, Array.size_extract]; omega
  unfold mkStr
  rw [if_neg (Nat.not_lt.mpr hsz), extract_S]
  exact wpAny_bind (wpAny_fresh (wpAny_pure (q _ _)))
theorem wp_reWholeTarget {p : Addr} {code : Array Nat} {g : Nat} {x : Str} {t : Tok} {Q : ReTarget → Shared → Prop} (P : PatAt s.heap p code g)
    (q : Q { pattern := .ref p, string := .str x t, code := code, text := x.cps, kind := 0, groups := g, pos := 0, lim := x.cps.size } s) :
    wpAny M A (reWholeTarget (.ref p) (.str x t)) Q E s := by
  obtain ⟨op, fs, c, oc, items, n, h1, h2, h3, h4, h5, h6, h7, h8, h9, h10⟩ := P.at_
  unfold reWholeTarget
  refine wpAny_bind (wpAny_fieldsOf h1 h4 ?_)
  refine wpAny_bind (m := reTextOf (.str x t)) (wpAny_pure (a := (x.cps, 0)) ?_)
  dsimp only
  rw [h5, h6]
  refine wpAny_bind (m := reNoCollectionInside (.str x t) 0) (wpAny_pure (a := ()) ?_)
  refine wpAny_bind (m := reRawItems (.ref c)) ?_
  unfold reRawItems seqItems?
  refine wpAny_bind (wpAny_bind (wpAny_load h8 ?_))
  rw [h9]
  refine wpAny_pure (wpAny_pure (wpAny_pure ?_))
  show Q { pattern := .ref p, string := .str x t, code := (items.map reRawOf).map (·.toNat), text := x.cps, kind := 0, groups := reRawNat (fs.getD 2 .none), pos := 0, lim := x.cps.size } s
  rw [h10, h7]
  exact q
/-- the next white run, or none -/
theorem wp_next {p : Addr} {x : Str} {t : Tok} {start : Nat} {Q : Option Sre.M → Shared → Prop} (hx : x.cps.size ≤ 16777216) (hs : start ≤ x.cps.size)
    (q0 : (x.cps.toList.drop start).dropWhile nsp = [] → Q none s)
    (q1 : ∀ m a b, (x.cps.toList.drop start).dropWhile nsp ≠ [] → a = ((x.cps.toList.drop start).takeWhile nsp).length → b = (((x.cps.toList.drop start).dropWhile nsp).takeWhile Unicode.isSpace).length → 0 < b →
      m.start = start + a → m.handed = start + a + b → m.marks = #[some (start + a), some (start + a + b)] → m.lastmark = 1 → Q (some m) s) :
    wpAny M A (reNextFound { pattern := .ref p, string := .str x t, code := code2, text := x.cps, kind := 0, groups := 1, pos := 0, lim := x.cps.size } start false) Q E s := by
  unfold reNextFound
  have hk := cnt_list nsp x.cps (x.cps.size - start) start (by omega)
  have hns : ∀ i, i < ((x.cps.toList.drop start).takeWhile nsp).length → Unicode.isSpace (x.cps.getD (start + i) 0) = false := by
    intro i hi
    have hm := List.all_eq_true.mp (List.all_takeWhile (p := nsp) (l := x.cps.toList.drop start)) _ (List.getElem_mem hi)
    have hlt : i < (x.cps.toList.drop start).length := Nat.lt_of_lt_of_le hi (List.takeWhile_prefix _).length_le
    have e1 : ((x.cps.toList.drop start).takeWhile nsp)[i] = (x.cps.toList.drop start)[i] := by
      have := List.takeWhile_prefix nsp (l := x.cps.toList.drop start)
      exact (List.prefix_iff_getElem.mp this).2 i hi
    rw [e1] at hm
    have e2 : (x.cps.toList.drop start)[i] = x.cps.getD (start + i) 0 := by
      have : start + i < x.cps.size := by simp at hlt; omega
      simp [Array.getD, this]
    rw [e2] at hm
    simpa [nsp] using hm
  by_cases he : (x.cps.toList.drop start).dropWhile nsp = []
  · have hall : ((x.cps.toList.drop start).takeWhile nsp) = x.cps.toList.drop start := by
      have := List.takeWhile_append_dropWhile (p := nsp) (l := x.cps.toList.drop start)
      rw [he, List.append_nil] at this
      exact this
    obtain ⟨m, r, o⟩ := search2_none x.cps hx start hs (fun i h1 h2 => by
      have := hns (i - start) (by rw [hall]; simp; omega)
      rwa [show start + (i - start) = i by omega] at this)
    exact wp_reRunToEnd r (by omega) false o (q0 he)
  · have hlen : start + ((x.cps.toList.drop start).takeWhile nsp).length < x.cps.size := by
      have h1 := congrArg List.length (List.takeWhile_append_dropWhile (p := nsp) (l := x.cps.toList.drop start))
      rw [List.length_append, List.length_drop] at h1
      have h2 : 0 < ((x.cps.toList.drop start).dropWhile nsp).length := List.length_pos_iff.mpr he
      have h3 : x.cps.toList.length = x.cps.size := by simp
      omega
    have hb := cnt_list Unicode.isSpace x.cps (x.cps.size - (start + ((x.cps.toList.drop start).takeWhile nsp).length)) (start + ((x.cps.toList.drop start).takeWhile nsp).length) (by omega)
    rw [← List.drop_drop, drop_takeWhile nsp] at hb
    have hpos : 0 < (((x.cps.toList.drop start).dropWhile nsp).takeWhile Unicode.isSpace).length := by
      cases e : (x.cps.toList.drop start).dropWhile nsp with
      | nil => exact absurd e he
      | cons a r =>
        have ha : Unicode.isSpace a = true := by
          have := List.head?_dropWhile_not nsp (x.cps.toList.drop start)
          rw [e] at this
          simpa [nsp] using this
        rw [List.takeWhile_cons, if_pos ha]; simp
    obtain ⟨n, hn⟩ : ∃ n, (((x.cps.toList.drop start).dropWhile nsp).takeWhile Unicode.isSpace).length = n + 1 := ⟨_, (Nat.succ_pred_eq_of_pos hpos).symm⟩
    obtain ⟨m, r, o, o1, o2, o3, o4⟩ := search2_found x.cps hx start _ n hlen hns (hb.trans hn)
    refine wp_reRunToEnd r (by omega) true o (q1 m _ _ he rfl rfl hpos o1 ?_ ?_ o4)
    · rw [hn]; exact o2
    · rw [hn]; exact o3
end

section
variable {prog : Program} {w : World} {A : Around} {E : Value → Shared → Prop} {s : Shared}
theorem call_split {p : Addr} {x : Str} {t : Tok} {Q : Value → Shared → Prop} (P : PatAt s.heap p code2 1) (hx : x.cps.size ≤ 1000000)
    (q : ∀ a vs h' tk, h'.get? a = some { cls := .type "list", data := .seq vs.toArray } → StrsAre vs ((splitW x.cps.toList).map S) → (∀ b o, s.heap.get? b = some o → h'.get? b = some o) → s.heap.get? a = none → Q (.ref a) { s with heap := h', toks := tk }) :
    wpAny (model prog w) A (call (.builtin "re.Pattern.split") [.ref p, .str x t]) Q E s := by
  refine wpAny_call_entry slot_pat_split P.typeIs entry_pat_split ?_ (args_pat_split _ _)
  unfold Builtin.«re.Pattern.split»
  dsimp only
  refine wpAny_bind (m := reNamed _ _ ["string", "maxsplit"] 1 [.str x t] []) (wpAny_pure (a := [some (Value.str x t), none]) ?_)
  dsimp only
  refine wpAny_bind (wpAny_pure (a := (0 : Int)) ?_)
  refine wpAny_bind (wp_reWholeTarget P ?_)
  refine wpAny_bind (wpAny_forIn_list _ (fun l st s' => ∃ (vs : List Value) (ps : List (List Nat)) (p n : Nat) (over : Bool) (tk : Nat), st = (vs.toArray, p, p, false, (n : Int), over) ∧ s' = { s with toks := tk } ∧ StrsAre vs (ps.map S) ∧ p ≤ x.cps.size ∧ vs.length ≤ 2 * p ∧
      (over = false → ps ++ splitW (x.cps.toList.drop p) = splitW x.cps.toList ∧ x.cps.size - p + 1 ≤ l.length) ∧ (over = true → ps ++ [x.cps.toList.drop p] = splitW x.cps.toList)) _ ?_ ?_ _ _ ⟨[], [], 0, 0, false, s.toks, rfl, rfl, .nil, Nat.zero_le _, Nat.le_refl _, fun _ => ⟨by simp, by rw [List.length_range]; show _ ≤ 2 * x.cps.size + 3; omega⟩, fun h => by cases h⟩)
  · rintro i l st s' ⟨vs, ps, k, n, over, tk, rfl, rfl, hv, hp, hvl, h1, h2⟩
    dsimp only
    cases over with
    | true => exact wpAny_pure ⟨vs, ps, k, n, true, tk, rfl, rfl, hv, hp, hvl, (fun h => absurd h (by decide)), h2⟩
    | false =>
      obtain ⟨e1, e2⟩ := h1 rfl
      refine wpAny_bind (m := reNextFound _ _ _) (wp_next (by omega) hp (fun he => ?_) fun m a b he ha hb hb0 m1 m2 m3 m4 => ?_)
      · rw [splitW_nil he] at e1
        exact wpAny_pure ⟨vs, ps, k, n, true, tk, rfl, rfl, hv, hp, hvl, (fun h => absurd h (by decide)), fun _ => e1⟩
      · dsimp only
        refine wpAny_bind (wp_reSlice (by omega) fun t1 tk1 => ?_)
        refine wpAny_bind ?_
        rw [show List.range 1 = [0] from rfl, List.forIn_cons]
        have hg : ∀ d, reMachineGroup ({ pattern := .ref p, string := .str x t, code := code2, text := x.cps, kind := 0, groups := 1, pos := 0, lim := x.cps.size } : ReTarget) m (0 + 1) d = reSlice x.cps 0 (k + a) (k + a + b) := by
          intro d
          unfold reMachineGroup
          rw [m3, m4]
          show (if k + a + b < k + a then _ else _) = _
          rw [if_neg (by omega)]
        refine wpAny_bind ?_
        rw [hg]
        refine wpAny_bind (wp_reSlice (by omega) fun t2 tk2 => ?_)
        refine wpAny_pure ?_
        dsimp only
        rw [List.forIn_nil]
        refine wpAny_pure (wpAny_pure ?_)
        have hle : k + a + b ≤ x.cps.size := by
          have q1 := congrArg List.length (List.takeWhile_append_dropWhile (p := nsp) (l := x.cps.toList.drop k))
          rw [List.length_append, List.length_drop] at q1
          have q2 : (((x.cps.toList.drop k).dropWhile nsp).takeWhile Unicode.isSpace).length ≤ ((x.cps.toList.drop k).dropWhile nsp).length := (List.takeWhile_prefix _).length_le
          have q3 : x.cps.toList.length = x.cps.size := by simp
          omega
        have f1 : (x.cps.toList.drop k).take (m.start - k) = (x.cps.toList.drop k).takeWhile nsp := by
          rw [m1, Nat.add_sub_cancel_left, ha]
          exact (List.prefix_iff_eq_take.mp (List.takeWhile_prefix _)).symm
        have f2 : (x.cps.toList.drop (k + a)).take (k + a + b - (k + a)) = ((x.cps.toList.drop k).dropWhile nsp).takeWhile Unicode.isSpace := by
          rw [Nat.add_sub_cancel_left, ← List.drop_drop, ha, drop_takeWhile, hb]
          exact (List.prefix_iff_eq_take.mp (List.takeWhile_prefix _)).symm
        have f3 : x.cps.toList.drop (k + a + b) = ((x.cps.toList.drop k).dropWhile nsp).dropWhile Unicode.isSpace := by
          rw [← List.drop_drop, ← List.drop_drop, ha, drop_takeWhile, hb, drop_takeWhile]
        rw [f1, f2]
        refine ⟨vs ++ [.str (S ((x.cps.toList.drop k).takeWhile nsp)) t1, .str (S (((x.cps.toList.drop k).dropWhile nsp).takeWhile Unicode.isSpace)) t2], ps ++ [(x.cps.toList.drop k).takeWhile nsp, ((x.cps.toList.drop k).dropWhile nsp).takeWhile Unicode.isSpace], k + a + b, n + 1, false, tk2, ?_, rfl, ?_, hle, ?_, ?_, fun h => by cases h⟩
        · rw [m2]
          have hbq : (k + a + b == m.start) = false := by rw [m1]; simp; omega
          rw [hbq]
          simp
        · rw [List.map_append]
          exact StrsAre.append' hv (.cons _ _ (.cons _ _ .nil))
        · simp; omega
        · intro _
          refine ⟨?_, ?_⟩
          · rw [f3, List.append_assoc, ← e1, splitW_cons he]; rfl
          · simp at e2; omega
  · rintro st s' ⟨vs, ps, k, n, over, tk, rfl, rfl, hv, hp, hvl, h1, h2⟩
    dsimp only
    cases over with
    | false =>
      obtain ⟨_, e2⟩ := h1 rfl
      exact absurd e2 (by simp)
    | true =>
      show wpAny _ _ (do let v ← reSlice x.cps 0 k x.cps.size; let l ← newList (vs.toArray.push v).toList; ret l) _ _ _
      refine wpAny_bind (wp_reSlice (by omega) fun t1 tk1 => ?_)
      have e : (x.cps.toList.drop k).take (x.cps.size - k) = x.cps.toList.drop k := List.take_of_length_le (by simp)
      rw [e]
      have e' : (vs.toArray.push (Value.str (S (x.cps.toList.drop k)) t1)).toList = vs ++ [.str (S (x.cps.toList.drop k)) t1] := by simp
      rw [e']
      refine wpAny_bind (wpAny_newObj_type (wpAny_pure ⟨_, rfl, q _ (vs ++ [.str (S (x.cps.toList.drop k)) t1]) _ _ (Heap.get?_push_size _ rfl) ?_ (fun b o e => Heap.get?_push_of_some _ e) ?_⟩) ?_)
      · rw [← h2 rfl, List.map_append]
        exact StrsAre.append' hv (.cons _ _ .nil)
      · cases hq : s.heap.get? s.heap.objs.size with
        | none => rfl
        | some o => exact absurd (Heap.lt_size hq) (Nat.lt_irrefl _)
      · show (vs ++ [Value.str (S (x.cps.toList.drop k)) t1]).toArray.size ≤ sizeLine
        rw [sizeLine_eq]; simp; omega
end
end Mine
end

section
set_option maxRecDepth 100000
namespace Mine
open PySem PySem.W PySem.Calls PyProof.Rows

/-- every object of h stands in h' -/
def Kp (h h' : Heap) : Prop := ∀ b o, h.get? b = some o → h'.get? b = some o
theorem Kp.refl (h : Heap) : Kp h h := fun _ _ e => e
theorem Kp.trans {h h' h'' : Heap} (k : Kp h h') (k' : Kp h' h'') : Kp h h'' := fun b o e => k' b o (k b o e)
theorem Kp.push (h : Heap) (o : Obj) : Kp h (h.push o) := fun _ _ e => Heap.get?_push_of_some _ e

/-- what the top left -/
structure Gl (w : World) (mg mb : Str → Option Value) (h : Heap) : Prop where
  X : (hd.heap_39 w.params).In h
  g : h.Ns mainGlobals mg
  b : h.Ns builtinsNs mb
  nolimit : h.NoLimit
  builtins : ∀ x : Str, x ≠ "__name__" → mb x = bootBuiltins x
theorem Gl.keeps {w : World} {mg mb : Str → Option Value} {h h' : Heap} (G : Gl w mg mb h) (k : Kp h h') : Gl w mg mb h' := ⟨G.X.keeps k, G.g.keeps k, G.b.keeps k, G.nolimit.keeps k, G.builtins⟩

/-- room for n frames -/
structure Room (A : Around) (n : Nat) : Prop where
  hh : A.handled = none
  d : A.depth + n < 1000
  u : A.units + 8 * n < 9900
theorem Room.deeper {A : Around} {n : Nat} (R : Room A (n + 1)) (env : Env) : Room (A.deeper env) n :=
  ⟨R.hh, by show A.depth + 1 + n < 1000; have := R.d; omega, by show A.units + 3 + 8 * n < 9900; have := R.u; omega⟩
theorem Room.less {A : Around} {n k : Nat} (R : Room A n) (h : k ≤ n) : Room A k := ⟨R.hh, by have := R.d; omega, by have := R.u; omega⟩
theorem Room.in1 {A : Around} {n : Nat} (R : Room A (n + 1)) : Room A.in1 n := ⟨R.hh, by show A.depth + n < 1000; have := R.d; omega, by show A.units + 1 + 8 * n < 9900; have := R.u; omega⟩

abbrev Rs := List (Addr × (Obj → Prop))
def PL (vs : List Value) : Obj → Prop := fun o => ∃ n, o = { cls := .type "list", data := .seq vs.toArray n }
def PT (vs : List Value) : Obj → Prop := fun o => ∃ n, o = { cls := .type "tuple", data := .seq vs.toArray n }
def LI (l : Addr) (i : Nat) : Obj → Prop := fun o => o.cls = .type "list_iterator" ∧ o.data = .fields #[.ref l, .int i 0]

def put (x : Str) (v : Value) : List (Str × Value) → List (Str × Value)
  | [] => [(x, v)]
  | (y, u) :: r => if y == x then (x, v) :: r else (y, u) :: put x v r
theorem put_lookup (x : Str) (v : Value) : ∀ (bs : List (Str × Value)) (y : Str), (put x v bs).lookup y = if y = x then some v else bs.lookup y
  | [], y => by
    simp only [put, List.lookup_cons, List.lookup_nil]
    by_cases h : y = x
    · subst h; simp
    · have : (y == x) = false := by simpa using h
      rw [this, if_neg h]
  | (z, u) :: r, y => by
    simp only [put]
    by_cases hz : z = x
    · subst hz
      simp only [beq_self_eq_true, if_true, List.lookup_cons]
      by_cases h : y = z
      · subst h; simp
      · have : (y == z) = false := by simpa using h
        rw [this, if_neg h]
    · rw [if_neg (by simpa using hz)]
      simp only [List.lookup_cons]
      by_cases h : y = z
      · subst h; simp [hz]
      · have : (y == z) = false := by simpa using h
        rw [this]; exact put_lookup x v r y

/-- the frame: locals, resources -/
structure Cx (h₀ : Heap) (L : Addr) (bs : List (Str × Value)) (rs : Rs) (h : Heap) : Prop where
  fr : ∃ m, Fr h₀ L h m ∧ ∀ x v, bs.lookup x = some v → m x = some v
  at_ : ∀ r ∈ rs, ∃ o, h.get? r.1 = some o ∧ r.2 o
  fresh : ∀ r ∈ rs, h₀.get? r.1 = none
  nd : (L :: rs.map (·.1)).Nodup
section
variable {h₀ h h' : Heap} {L : Addr} {bs : List (Str × Value)} {rs : Rs}
theorem Cx.keep (C : Cx h₀ L bs rs h) : Kp h₀ h := let ⟨_, F, _⟩ := C.fr; F.keep
theorem Cx.keeps (C : Cx h₀ L bs rs h) (k : Kp h h') : Cx h₀ L bs rs h' :=
  ⟨let ⟨m, F, hm⟩ := C.fr; ⟨m, F.after k, hm⟩, fun r hr => let ⟨o, ho, p⟩ := C.at_ r hr; ⟨o, k _ _ ho, p⟩, C.fresh, C.nd⟩
theorem Cx.ltL (C : Cx h₀ L bs rs h) : L < h.objs.size := let ⟨_, F, _⟩ := C.fr; F.ns.lt
theorem Cx.neL (C : Cx h₀ L bs rs h) {b : Addr} {o : Obj} (e : h₀.get? b = some o) : b ≠ L := by
  obtain ⟨m, F, _⟩ := C.fr
  exact Nat.ne_of_lt (Nat.lt_of_lt_of_le (Heap.lt_size e) F.above)
theorem Cx.sub (C : Cx h₀ L bs rs h) {bs' : List (Str × Value)} {rs' : Rs} (hb : ∀ x v, bs'.lookup x = some v → bs.lookup x = some v) (hr : ∀ r ∈ rs', r ∈ rs) (hn : (rs'.map (·.1)).Nodup) : Cx h₀ L bs' rs' h :=
  ⟨let ⟨m, F, hm⟩ := C.fr; ⟨m, F, fun x v e => hm x v (hb x v e)⟩, fun r h => C.at_ r (hr r h), fun r h => C.fresh r (hr r h), by
    refine List.nodup_cons.mpr ⟨fun hm => ?_, hn⟩
    obtain ⟨r, hr', e⟩ := List.mem_map.mp hm
    exact (List.nodup_cons.mp C.nd).1 (e ▸ List.mem_map_of_mem (hr r hr'))⟩
theorem Cx.drop (C : Cx h₀ L bs rs h) {r : Addr × (Obj → Prop)} {rs' : Rs} (e : rs = r :: rs') : Cx h₀ L bs rs' h := by
  subst e
  exact C.sub (fun _ _ e => e) (fun r h => .tail _ h) (List.nodup_cons.mp (List.nodup_cons.mp C.nd).2).2
theorem Cx.swap {r₁ r₂ : Addr × (Obj → Prop)} (C : Cx h₀ L bs (r₁ :: r₂ :: rs) h) : Cx h₀ L bs (r₂ :: r₁ :: rs) h := by
  refine C.sub (fun _ _ e => e) (fun r hr => ?_) ?_
  · simp only [List.mem_cons] at hr ⊢; rcases hr with h | h | h; exact .inr (.inl h); exact .inl h; exact .inr (.inr h)
  · have := (List.nodup_cons.mp C.nd).2
    simp only [List.map_cons, List.nodup_cons, List.mem_cons, not_or] at this ⊢
    exact ⟨⟨fun e => this.1.1 e.symm, this.2.1⟩, this.1.2, this.2.2⟩
theorem Cx.get (C : Cx h₀ L bs rs h) {a : Addr} {P : Obj → Prop} (m : (a, P) ∈ rs) : ∃ o, h.get? a = some o ∧ P o := C.at_ _ m
theorem Cx.push (C : Cx h₀ L bs rs h) (o : Obj) {P : Obj → Prop} (p : P o) (hf : o.isFreed = false) : Cx h₀ L bs ((h.objs.size, P) :: rs) (h.push o) := by
  have hlt : ∀ r ∈ rs, r.1 < h.objs.size := fun r hr => let ⟨o, ho, _⟩ := C.at_ r hr; Heap.lt_size ho
  refine ⟨let ⟨m, F, hm⟩ := C.fr; ⟨m, F.push o, hm⟩, fun r hr => ?_, fun r hr => ?_, ?_⟩
  · rcases List.mem_cons.mp hr with rfl | hr
    · exact ⟨o, Heap.get?_push_size _ hf, p⟩
    · obtain ⟨o', ho, p'⟩ := C.at_ r hr; exact ⟨o', Heap.get?_push_of_some _ ho, p'⟩
  · rcases List.mem_cons.mp hr with rfl | hr
    · show h₀.get? h.objs.size = none
      cases q : h₀.get? h.objs.size with
      | none => rfl
      | some o' => exact absurd (Heap.lt_size (C.keep _ _ q)) (Nat.lt_irrefl _)
    · exact C.fresh r hr
  · have := List.nodup_cons.mp C.nd
    refine List.nodup_cons.mpr ⟨fun hm => ?_, List.nodup_cons.mpr ⟨fun hm => ?_, this.2⟩⟩
    · rcases List.mem_cons.mp hm with e | hm
      · exact Nat.lt_irrefl _ (e ▸ C.ltL)
      · exact this.1 hm
    · obtain ⟨r, hr, e⟩ := List.mem_map.mp hm
      exact Nat.lt_irrefl _ (e ▸ hlt r hr)
theorem Cx.upd {a : Addr} {P P' : Obj → Prop} (C : Cx h₀ L bs ((a, P) :: rs) h) (hs : Heap.ExtBut a h h') (ho : ∃ o, h'.get? a = some o ∧ P' o) : Cx h₀ L bs ((a, P') :: rs) h' := by
  have hnd := C.nd
  simp only [List.map_cons, List.nodup_cons, List.mem_cons, not_or] at hnd
  refine ⟨?_, fun r hr => ?_, fun r hr => ?_, ?_⟩
  · obtain ⟨m, F, hm⟩ := C.fr
    obtain ⟨oL, es, ep, hL, q⟩ := F.ns
    refine ⟨m, ⟨⟨oL, es, ep, hs _ _ hnd.1.1 hL, q⟩, fun b o e => hs b o (fun hb => ?_) (F.keep b o e), F.above⟩, hm⟩
    have := C.fresh _ (.head _)
    rw [← hb, e] at this; cases this
  · rcases List.mem_cons.mp hr with rfl | hr
    · exact ho
    · obtain ⟨o, e, p⟩ := C.at_ r (.tail _ hr)
      exact ⟨o, hs _ _ (fun hb => hnd.2.1 (hb ▸ List.mem_map_of_mem hr)) e, p⟩
  · rcases List.mem_cons.mp hr with rfl | hr
    · exact C.fresh (a, P) (.head _)
    · exact C.fresh r (.tail _ hr)
  · exact C.nd
theorem Cx.set {x : Str} {v : Value} (C : Cx h₀ L bs rs h) (hn : ∀ m, h.Ns L m → h'.Ns L (fun y => if y = x then some v else m y)) (hs : Heap.SameBut L h h') : Cx h₀ L (put x v bs) rs h' := by
  obtain ⟨m, F, hm⟩ := C.fr
  refine ⟨⟨_, F.set (hn m F.ns) hs, fun y u e => ?_⟩, fun r hr => ?_, C.fresh, C.nd⟩
  · rw [put_lookup] at e
    by_cases hy : y = x
    · simpa [hy] using e
    · rw [if_neg hy] at e; simp only [hy, if_false]; exact hm y u e
  · obtain ⟨o, ho, p⟩ := C.at_ r hr
    refine ⟨o, (hs.2 _ fun e => ?_).trans ho, p⟩
    exact (List.nodup_cons.mp C.nd).1 (e ▸ List.mem_map_of_mem hr)
end
end Mine
end

section
set_option maxRecDepth 100000
namespace Mine
open PySem PySem.W PySem.Calls PyProof.Rows

/-- every entry of the second list is told by the first -/
def AllIn (bs : List (Str × Value)) : List (Str × Value) → Prop
  | [] => True
  | p :: r => bs.lookup p.1 = some p.2 ∧ AllIn bs r
theorem AllIn.get {bs : List (Str × Value)} : ∀ {bs' : List (Str × Value)}, AllIn bs bs' → ∀ x v, bs'.lookup x = some v → bs.lookup x = some v
  | [], _, _, _, e => by cases e
  | (y, u) :: r, h, x, v, e => by
    rw [List.lookup_cons] at e
    by_cases hxy : x = y
    · subst hxy
      simp at e
      subst e
      exact h.1
    · have : (x == y) = false := by simpa using hxy
      rw [this] at e
      exact AllIn.get h.2 x v e
theorem Cx.re {h₀ h : Heap} {L : Addr} {bs bs' : List (Str × Value)} {rs : Rs} (C : Cx h₀ L bs rs h) (a : AllIn bs bs') : Cx h₀ L bs' rs h :=
  C.sub a.get (fun _ h => h) (List.nodup_cons.mp C.nd).2
/-- the rest of a block, or the flow handed on -/
def Then (P : Shared → Prop) (Q : Flow → Shared → Prop) : Flow → Shared → Prop
  | .next, s => P s
  | f, s => Q f s
section
variable {M : Model} {A : Around} {E : Value → Shared → Prop} {s : Shared} {env : Env} {Q : Flow → Shared → Prop} {P : Shared → Prop}
theorem then_next (h : P s) : Then P Q .next s := h
theorem then_ret {v : Value} (h : Q (.ret v) s) : Then P Q (.ret v) s := h
theorem then_cont (h : Q .cont s) : Then P Q .cont s := h
theorem sNil (h : Q .next s) : wpAny M A (execs [] env) Q E s := wpAny_execs_nil h
theorem sThen {st : Stmt} {rest : List Stmt} (h : wpAny M A (exec st env) (Then (fun s' => wpAny M A (execs rest env) Q E s') Q) E s) : wpAny M A (execs (st :: rest) env) Q E s :=
  wpAny_execs_cons (wpAny_mono h (fun f s' h' => by cases f <;> exact h') fun _ _ h => h)
theorem sAssign {x : Str} {pos' pos : Pos} {value : PySem.Expr} {rest : List Stmt} (hs : swapsWith value (some (.Name x pos')) pos.line env = pure false)
    (h : wpAny M A (eval value env) (fun v s₁ => wpAny M A (storeName env x v) (fun _ s₂ => wpAny M A (execs rest env) Q E s₂) E s₁) E s) :
    wpAny M A (execs (.Assign [.Name x pos'] value pos :: rest) env) Q E s := sThen (wpAny_Assign_Name h hs)
theorem sAug {x : Str} {pos' pos : Pos} {op : Operator} {value : PySem.Expr} {rest : List Stmt}
    (h : wpAny M A (loadName env x) (fun old s₁ => wpAny M A (eval value env) (fun v s₂ => wpAny M A (inplaceOp op old v)
      (fun r s₃ => wpAny M A (storeName env x r) (fun _ s₄ => wpAny M A (execs rest env) Q E s₄) E s₃) E s₂) E s₁) E s) :
    wpAny M A (execs (.AugAssign (.Name x pos') op value pos :: rest) env) Q E s := sThen (wpAny_AugAssign_Name h)
theorem sReturn {e : PySem.Expr} {pos : Pos} {rest : List Stmt} (h : wpAny M A (eval e env) (fun v s₁ => Q (.ret v) s₁) E s) : wpAny M A (execs (.Return (some e) pos :: rest) env) Q E s :=
  sThen (wpAny_Return_some h)
theorem sContinue {pos : Pos} {rest : List Stmt} (h : Q .cont s) : wpAny M A (execs (.Continue pos :: rest) env) Q E s := sThen (wpAny_Continue h)
theorem br {b : Bool} {X Y : Prop} (h1 : b = true → X) (h2 : b = false → Y) : if b then X else Y := by
  cases b with
  | true => exact h1 rfl
  | false => exact h2 rfl
theorem sIf {test : PySem.Expr} {body orelse : List Stmt} {pos : Pos} {rest : List Stmt}
    (h : wpAny M A (isTrue test env (eval test env)) (fun b s₁ => if b then wpAny M A (execs body env) (Then (fun s' => wpAny M A (execs rest env) Q E s') Q) E s₁ else
      wpAny M A (execs orelse env) (Then (fun s' => wpAny M A (execs rest env) Q E s') Q) E s₁) E s) : wpAny M A (execs (.If test body orelse pos :: rest) env) Q E s := sThen (wpAny_If h)
theorem sIfJ {test : PySem.Expr} {body orelse : List Stmt} {pos : Pos} {rest : List Stmt} (J : Shared → Prop)
    (h : wpAny M A (isTrue test env (eval test env)) (fun b s₁ => if b then wpAny M A (execs body env) (Then J Q) E s₁ else wpAny M A (execs orelse env) (Then J Q) E s₁) E s)
    (k : ∀ s', J s' → wpAny M A (execs rest env) Q E s') : wpAny M A (execs (.If test body orelse pos :: rest) env) Q E s := by
  have up : ∀ f s', Then J Q f s' → Then (fun s' => wpAny M A (execs rest env) Q E s') Q f s' := by
    intro f s' h
    cases f with
    | next => exact k s' h
    | _ => exact h
  refine sIf (wpAny_mono h (fun b s₁ h₁ => ?_) fun _ _ e => e)
  cases b with
  | true => exact wpAny_mono h₁ up fun _ _ e => e
  | false => exact wpAny_mono h₁ up fun _ _ e => e
theorem constS {x : Str} {l : List Nat} {k : Nat} {pos : Pos} {Q : Value → Shared → Prop} (e : x = S l) (q : ∀ t tk, Q (.str (S l) t) { s with toks := tk }) : wpAny M A (eval (.Constant (.str x) k pos) env) Q E s := by
  subst e
  exact Constant_str (q _ _)
theorem constI {i : Int} {k : Nat} {pos : Pos} {Q : Value → Shared → Prop} (q : ∀ t tk, Q (.int i t) { s with toks := tk }) : wpAny M A (eval (.Constant (.int i) k pos) env) Q E s := wpAny_Constant_int (q _ _)
theorem sExpr {e : PySem.Expr} {pos : Pos} {rest : List Stmt} (hs : swapsWith e none pos.line env = pure false) (hi : interactive env = false)
    (h : wpAny M A (eval e env) (fun v s' => v = .none ∧ wpAny M A (execs rest env) Q E s') E s) : wpAny M A (execs (.Expr e pos :: rest) env) Q E s :=
  sThen (wpAny_Expr (wpAny_mono h (fun v s' h' => by obtain ⟨rfl, h'⟩ := h'; exact h') fun _ _ h => h) hi hs)
end

section
variable {M : Model} {A : Around} {E : Value → Shared → Prop} {s : Shared} {name : Str} {scope : Scope} {L a : Addr} {cd : Value} {h₀ : Heap} {bs : List (Str × Value)} {rs : Rs} {w : World} {mg mb : Str → Option Value}
theorem nmL {x : Str} {pos : Pos} {v : Value} {Q : Value → Shared → Prop} (C : Cx h₀ L bs rs s.heap) (e : bs.lookup x = some v) (hl : scope.names.lookup x = some .local) (hk : scope.kind = .function) (hd : (x == ("__debug__" : Str)) = false) (q : Q v s) :
    wpAny M A (eval (.Name x pos) (envOf name scope L a cd)) Q E s :=
  let ⟨_, F, hm⟩ := C.fr; ld F (hm _ _ e) q hk hl hd
theorem ldL {x : Str} {v : Value} {Q : Value → Shared → Prop} (C : Cx h₀ L bs rs s.heap) (e : bs.lookup x = some v) (hl : scope.names.lookup x = some .local) (hk : scope.kind = .function) (q : Q v s) :
    wpAny M A (loadName (envOf name scope L a cd) x) Q E s :=
  let ⟨_, F, hm⟩ := C.fr; ldn F (hm _ _ e) q hk hl
theorem stL {x : Str} {v : Value} {Q : Unit → Shared → Prop} (C : Cx h₀ L bs rs s.heap) (hl : scope.names.lookup x = some .local) (hk : scope.kind = .function)
    (q : ∀ h' tk, Cx h₀ L (put x v bs) rs h' → Q () { s with heap := h', toks := tk }) : wpAny M A (storeName (envOf name scope L a cd) x v) Q E s := by
  obtain ⟨m, F, hm⟩ := C.fr
  refine wpAny_storeName_local hl F.ns (fun h' hn hs => q h' _ ⟨⟨_, F.set hn hs, fun y u e => ?_⟩, fun r hr => ?_, C.fresh, C.nd⟩)
    (by show (scope.kind == .class || (scope.kind == .module && L != mainGlobals)) = false; rw [hk]; rfl)
  · rw [put_lookup] at e
    by_cases hy : y = x
    · simpa [hy] using e
    · rw [if_neg hy] at e; simp only [hy, if_false]; exact hm y u e
  · obtain ⟨o, ho, p⟩ := C.at_ r hr
    refine ⟨o, (hs.2 _ fun (e : r.1 = L) => ?_).trans ho, p⟩
    exact (List.nodup_cons.mp C.nd).1 (e ▸ List.mem_map_of_mem hr)
theorem nmG {x : Str} {pos : Pos} {v : Value} {Q : Value → Shared → Prop} (C : Cx h₀ L bs rs s.heap) (G : Gl w mg mb h₀) (e : nsIn (hd.heap_39 w.params) mainGlobals x = some (some v)) (hl : scope.names.lookup x = some .globalImplicit) (hk : scope.kind = .function)
    (hd : (x == ("__debug__" : Str)) = false) (q : Q v s) : wpAny M A (eval (.Name x pos) (envOf name scope L a cd)) Q E s :=
  let ⟨_, F, _⟩ := C.fr; ld_global_at F G.g (mg_of G.X G.g e) q hk hl hd
theorem nmB {x : Str} {pos : Pos} {v : Value} {Q : Value → Shared → Prop} (C : Cx h₀ L bs rs s.heap) (G : Gl w mg mb h₀) (e : nsIn (hd.heap_39 w.params) mainGlobals x = some none) (hv : bootBuiltins x = some v) (hn : x ≠ "__name__") (hl : scope.names.lookup x = some .globalImplicit) (hk : scope.kind = .function)
    (hd : (x == ("__debug__" : Str)) = false) (q : Q v s) : wpAny M A (eval (.Name x pos) (envOf name scope L a cd)) Q E s :=
  let ⟨_, F, _⟩ := C.fr; ld_builtin_at F G.g (mg_none_of G.X G.g e) G.b ((G.builtins x hn).trans hv) q hk hl hd
end

section
variable {prog : Program} {w : World} {A : Around} {E : Value → Shared → Prop} {s : Shared} {env : Env} {Q : Value → Shared → Prop}
theorem meth0 {o : PySem.Expr} {nm : Str} {apos pos : Pos} {T id : String} (hbase : attributeBase o nm env (eval o env) = eval o env) (hline : (apos.endLine == pos.line) = true)
    (pa : PlainAttrs T) (slot : Slot T nm id) (hty : typeOf (.builtin id) = pure (.type "method_descriptor"))
    (h : wpAny (model prog w) A (eval o env) (fun ov s₁ => (s₁.TypeIs ov T ∧ ∀ a, ov = .ref a → ∃ ob, s₁.heap.get? a = some ob ∧ ob.dict = none) ∧ wpAny (model prog w) A (call (.builtin id) [ov]) Q E s₁) E s) :
    wpAny (model prog w) A (eval (.Call (.Attribute o nm apos) [] [] pos) env) Q E s :=
  wpAny_Call_method hbase rfl hline pa slot hty (wpAny_mono h (fun ov s₁ h₁ => ⟨h₁.1.1, h₁.1.2, callWith_builtin rfl (PySem.evalArgs_none h₁.2)⟩) fun _ _ e => e)
theorem meth1 {o e : PySem.Expr} {nm : Str} {apos pos : Pos} {T id : String} (hbase : attributeBase o nm env (eval o env) = eval o env) (hline : (apos.endLine == pos.line) = true) (ht : backTo pos (starEach [e] env) = [(false, eval e env)])
    (pa : PlainAttrs T) (slot : Slot T nm id) (hty : typeOf (.builtin id) = pure (.type "method_descriptor"))
    (h : wpAny (model prog w) A (eval o env) (fun ov s₁ => (s₁.TypeIs ov T ∧ ∀ a, ov = .ref a → ∃ ob, s₁.heap.get? a = some ob ∧ ob.dict = none) ∧ wpAny (model prog w) A (eval e env) (fun v s₂ => wpAny (model prog w) A (call (.builtin id) [ov, v]) Q E s₂) E s₁) E s) :
    wpAny (model prog w) A (eval (.Call (.Attribute o nm apos) [e] [] pos) env) Q E s :=
  wpAny_Call_method hbase (by rw [ht]; rfl) hline pa slot hty (wpAny_mono h (fun ov s₁ h₁ => ⟨h₁.1.1, h₁.1.2, by
    rw [ht]
    exact callWith_builtin rfl (evalArgs_plain (spliced_cons (wpAny_mono h₁.2 (fun v s₂ h₂ => spliced_nil h₂) fun _ _ e => e)))⟩) fun _ _ e => e)
theorem base_const {c : Const} {k : Nat} {p : Pos} {nm : Str} {t : Sem Value} : attributeBase (.Constant c k p) nm env t = t := rfl
theorem base_name {x : Str} {p : Pos} {nm : Str} {t : Sem Value} : attributeBase (.Name x p) nm env t = t := rfl
theorem base_binop {l r : PySem.Expr} {op : Operator} {p : Pos} {nm : Str} {t : Sem Value} : attributeBase (.BinOp l op r p) nm env t = t := rfl
theorem base_sub {l r : PySem.Expr} {p : Pos} {nm : Str} {t : Sem Value} : attributeBase (.Subscript l r p) nm env t = t := rfl
theorem callB1 {x : Str} {p pos : Pos} {e : PySem.Expr} {id : String} (ht : backTo pos (starEach [e] env) = [(false, eval e env)])
    (h : wpAny (model prog w) A (eval (.Name x p) env) (fun f s₁ => f = .builtin id ∧ wpAny (model prog w) A (eval e env) (fun v s₂ => wpAny (model prog w) A (call (.builtin id) [v]) Q E s₂) E s₁) E s) :
    wpAny (model prog w) A (eval (.Call (.Name x p) [e] [] pos) env) Q E s :=
  Call_Name ht (wpAny_mono h (fun f s₁ h₁ => by
    obtain ⟨rfl, h₁⟩ := h₁
    exact callWith_builtin rfl (evalArgs_plain (spliced_cons (wpAny_mono h₁ (fun v s₂ h₂ => spliced_nil h₂) fun _ _ e => e)))) fun _ _ e => e)
theorem callB2 {x : Str} {p pos : Pos} {e e' : PySem.Expr} {id : String} (ht : backTo pos (starEach [e, e'] env) = [(false, eval e env), (false, eval e' env)])
    (h : wpAny (model prog w) A (eval (.Name x p) env) (fun f s₁ => f = .builtin id ∧ wpAny (model prog w) A (eval e env) (fun v s₂ => wpAny (model prog w) A (eval e' env) (fun v' s₃ => wpAny (model prog w) A (call (.builtin id) [v, v']) Q E s₃) E s₂) E s₁) E s) :
    wpAny (model prog w) A (eval (.Call (.Name x p) [e, e'] [] pos) env) Q E s :=
  Call_Name ht (wpAny_mono h (fun f s₁ h₁ => by
    obtain ⟨rfl, h₁⟩ := h₁
    exact callWith_builtin rfl (evalArgs_plain (spliced_cons (wpAny_mono h₁ (fun v s₂ h₂ => spliced_cons (wpAny_mono h₂ (fun v' s₃ h₃ => spliced_nil h₃) fun _ _ e => e)) fun _ _ e => e)))) fun _ _ e => e)
theorem callT3 {x : Str} {p pos : Pos} {e e' e'' : PySem.Expr} {T : String} (ht : backTo pos (starEach [e, e', e''] env) = [(false, eval e env), (false, eval e' env), (false, eval e'' env)])
    (h : wpAny (model prog w) A (eval (.Name x p) env) (fun fv s₁ => fv = .type T ∧ wpAny (model prog w) A (eval e env) (fun v s₂ => wpAny (model prog w) A (eval e' env) (fun v' s₃ => wpAny (model prog w) A (eval e'' env) (fun v'' s₄ => wpAny (model prog w) A (call (.type T) [v, v', v'']) Q E s₄) E s₃) E s₂) E s₁) E s) :
    wpAny (model prog w) A (eval (.Call (.Name x p) [e, e', e''] [] pos) env) Q E s :=
  Call_Name ht (wpAny_mono h (fun f s₁ h₁ => by
    obtain ⟨rfl, h₁⟩ := h₁
    exact PySem.callWith_type rfl (evalArgs_plain (spliced_cons (wpAny_mono h₁ (fun v s₂ h₂ => spliced_cons (wpAny_mono h₂ (fun v' s₃ h₃ => spliced_cons (wpAny_mono h₃ (fun v'' s₄ h₄ => spliced_nil h₄) fun _ _ e => e)) fun _ _ e => e)) fun _ _ e => e)))) fun _ _ e => e)
/-- a call of a def of the text -/
theorem callF1 {x : Str} {p pos : Pos} {e : PySem.Expr} {f : Addr} {o : Obj} {fd : FuncData} {mg mb : Str → Option Value} (ho : (hd.heap_39 w.params).lookup f = some o) (hdt : o.data = .func fd) (ht : backTo pos (starEach [e] env) = [(false, eval e env)])
    (h : wpAny (model prog w) A (eval (.Name x p) env) (fun fv s₁ => fv = .ref f ∧ wpAny (model prog w) A (eval e env) (fun v s₂ => Gl w mg mb s₂.heap ∧ wpAny (model prog w) A (call (.ref f) [v]) Q E s₂) E s₁) E s) :
    wpAny (model prog w) A (eval (.Call (.Name x p) [e] [] pos) env) Q E s :=
  Call_Name ht (wpAny_mono h (fun f s₁ h₁ => by
    obtain ⟨rfl, h₁⟩ := h₁
    exact callWith_function (evalArgs_plain (spliced_cons (wpAny_mono h₁ (fun v s₂ h₂ => spliced_nil ⟨⟨h₂.1.X _ _ ho, hdt⟩, h₂.2⟩) fun _ _ e => e)))) fun _ _ e => e)
theorem callF2 {x : Str} {p pos : Pos} {e e' : PySem.Expr} {f : Addr} {o : Obj} {fd : FuncData} {mg mb : Str → Option Value} (ho : (hd.heap_39 w.params).lookup f = some o) (hdt : o.data = .func fd) (ht : backTo pos (starEach [e, e'] env) = [(false, eval e env), (false, eval e' env)])
    (h : wpAny (model prog w) A (eval (.Name x p) env) (fun fv s₁ => fv = .ref f ∧ wpAny (model prog w) A (eval e env) (fun v s₂ => wpAny (model prog w) A (eval e' env) (fun v' s₃ => Gl w mg mb s₃.heap ∧ wpAny (model prog w) A (call (.ref f) [v, v']) Q E s₃) E s₂) E s₁) E s) :
    wpAny (model prog w) A (eval (.Call (.Name x p) [e, e'] [] pos) env) Q E s :=
  Call_Name ht (wpAny_mono h (fun f s₁ h₁ => by
    obtain ⟨rfl, h₁⟩ := h₁
    exact callWith_function (evalArgs_plain (spliced_cons (wpAny_mono h₁ (fun v s₂ h₂ => spliced_cons (wpAny_mono h₂ (fun v' s₃ h₃ => spliced_nil ⟨⟨h₃.1.X _ _ ho, hdt⟩, h₃.2⟩) fun _ _ e => e)) fun _ _ e => e)))) fun _ _ e => e)
theorem callF3 {x : Str} {p pos : Pos} {e e' e'' : PySem.Expr} {f : Addr} {o : Obj} {fd : FuncData} {mg mb : Str → Option Value} (ho : (hd.heap_39 w.params).lookup f = some o) (hdt : o.data = .func fd) (ht : backTo pos (starEach [e, e', e''] env) = [(false, eval e env), (false, eval e' env), (false, eval e'' env)])
    (h : wpAny (model prog w) A (eval (.Name x p) env) (fun fv s₁ => fv = .ref f ∧ wpAny (model prog w) A (eval e env) (fun v s₂ => wpAny (model prog w) A (eval e' env) (fun v' s₃ => wpAny (model prog w) A (eval e'' env) (fun v'' s₄ => Gl w mg mb s₄.heap ∧ wpAny (model prog w) A (call (.ref f) [v, v', v'']) Q E s₄) E s₃) E s₂) E s₁) E s) :
    wpAny (model prog w) A (eval (.Call (.Name x p) [e, e', e''] [] pos) env) Q E s :=
  Call_Name ht (wpAny_mono h (fun f s₁ h₁ => by
    obtain ⟨rfl, h₁⟩ := h₁
    exact callWith_function (evalArgs_plain (spliced_cons (wpAny_mono h₁ (fun v s₂ h₂ => spliced_cons (wpAny_mono h₂ (fun v' s₃ h₃ => spliced_cons (wpAny_mono h₃ (fun v'' s₄ h₄ => spliced_nil ⟨⟨h₄.1.X _ _ ho, hdt⟩, h₄.2⟩) fun _ _ e => e)) fun _ _ e => e)) fun _ _ e => e)))) fun _ _ e => e)
end

section
variable {prog : Program} {w : World} {A : Around} {E : Value → Shared → Prop} {s : Shared} {mg mb : Str → Option Value}
/-- entering a def of the text: all that stands is kept -/
theorem enter {f : Addr} {oc dV kV doc pm cdv ct : Value} {od an : Option Addr} {osl : Array (Option Value)} {nm qual : Str} {params : Arguments} {body : List Stmt} {scope : Scope} {args : List Value} {binds : List (Str × Value)} {n : Nat} {Q : Value → Shared → Prop}
    (G : Gl w mg mb s.heap) (R : Room A (n + 1)) (ho : (hd.heap_39 w.params).lookup f = some ⟨oc, od, .func (fnOf nm qual params body scope dV kV doc pm an cdv ct), osl⟩)
    (hcd : codeIn (hd.heap_39 w.params) cdv qual = true) (hbind : bindArgs (fnOf nm qual params body scope dV kV doc pm an cdv ct) ⟨args, []⟩ = pure binds)
    (hloc : (binds.all fun x => decide (scope.names.lookup x.1 = some .local)) = true)
    (hco : scope.isCoroutine = false) (hgen : scope.isGenerator = false) (hk : scope.kind = .function) (hcell : (scope.names.all fun x => decide (x.2 ≠ .cell)) = true)
    (h : ∀ L h₁ tk, Cx s.heap L binds.reverse [] h₁ → Room (A.deeper (envOf qual scope L f cdv)) n →
      wpAny (model prog w) (A.deeper (envOf qual scope L f cdv)) (execs body (envOf qual scope L f cdv)) (fun fl s' => Q (match fl with | .ret v => v | _ => .none) s') (fun _ _ => False) { s with heap := h₁, toks := tk }) :
    wpAny (model prog w) A (call (.ref f) args) Q E s := by
  refine wpAny_call (codeAny_call_def (fd := fnOf nm qual params body scope dV kV doc pm an cdv ct) (body := body) (binds := binds) (by have := R.d; show A.depth < 1000; omega) (G.X _ _ ho) rfl G.nolimit (codeRec_of G.X hcd) rfl (BindsTo.of_eq hbind)
    (fun x hx => of_decide_eq_true (List.all_eq_true.mp hcell x hx)) (locs hloc) (fun h₁ hns hk₁ => ?_) hco hgen hk)
  exact wpAny_mono (h s.heap.objs.size h₁ _ ⟨⟨_, ⟨hns, hk₁, Nat.le_refl _⟩, fun _ _ e => e⟩, (fun _ h => nomatch h), (fun _ h => nomatch h), by simp⟩ (R.deeper _)) (fun _ _ q => q) fun _ _ e => e.elim
end
end Mine
end

section
set_option maxRecDepth 100000
namespace Mine
open PySem PySem.W PySem.Calls PyProof.Rows

section
variable {w : World} {mg mb : Str → Option Value} {h : Heap}
theorem Gl.pat1 (G : Gl w mg mb h) : PatAt h 36 code1 1 := ⟨_, _, _, _, _, _, G.X 36 _ rfl, rfl, rfl, rfl, rfl, rfl, rfl, G.X 35 _ rfl, rfl, by with_unfolding_all rfl⟩
theorem Gl.pat2 (G : Gl w mg mb h) : PatAt h 41 code2 1 := ⟨_, _, _, _, _, _, G.X 41 _ rfl, rfl, rfl, rfl, rfl, rfl, rfl, G.X 40 _ rfl, rfl, by with_unfolding_all rfl⟩
theorem Gl.pat3 (G : Gl w mg mb h) : PatAt h 46 code3 0 := ⟨_, _, _, _, _, _, G.X 46 _ rfl, rfl, rfl, rfl, rfl, rfl, rfl, G.X 45 _ rfl, rfl, by with_unfolding_all rfl⟩
theorem Gl.pat4 (G : Gl w mg mb h) : PatAt h 51 code4 1 := ⟨_, _, _, _, _, _, G.X 51 _ rfl, rfl, rfl, rfl, rfl, rfl, rfl, G.X 50 _ rfl, rfl, by with_unfolding_all rfl⟩
end

section
variable {prog : Program} {w : World} {A : Around} {E : Value → Shared → Prop} {s : Shared} {mg mb : Str → Option Value} {n : Nat} {Q : Value → Shared → Prop}
theorem white_call (G : Gl w mg mb s.heap) (R : Room A (n + 1)) {x : List Nat} {t : Tok} {bw : Bool} (hb : allWhite x = bw) (hx : x.length ≤ 1000000)
    (q : ∀ h' tk, Kp s.heap h' → Q (.bool bw) { s with heap := h', toks := tk }) : wpAny (model prog w) A (call (.ref 72) [.str (S x) t]) Q E s := by
  subst hb
  refine enter G R rfl rfl (binds := [(Str.ofString "line", .str (S x) t)]) rfl rfl rfl rfl rfl rfl ?_
  intro L h₁ tk C R'
  refine sReturn ?_
  refine wpAny_Compare1 (meth1 rfl rfl rfl plain_pat slot_pat_match type_pat_match ?_)
  refine nmG C G (v := .ref 46) rfl rfl rfl rfl ?_
  have P := G.pat3.keeps C.keep
  refine ⟨⟨P.typeIs, P.noDict⟩, ?_⟩
  refine nmL C rfl rfl rfl rfl ?_
  have hsz : (S x).cps.size = x.length := by simp [S]
  obtain ⟨m', r, o⟩ := match3 (S x).cps (by omega)
  have el : (S x).cps.toList = x := by simp [S]
  rw [el] at o
  cases hw : allWhite x with
  | true =>
    rw [hw] at o
    refine call_match0 P (by omega) r (by omega) o ?_
    intro a h' hk
    refine wpAny_Constant_none (isNot_none ?_)
    rw [hw] at q
    exact q _ _ (C.keep.trans hk)
  | false =>
    rw [hw] at o
    refine call_match_no P (by omega) r (by omega) o ?_
    refine wpAny_Constant_none (isNot_none ?_)
    rw [hw] at q
    exact q _ _ C.keep

theorem indent_call (G : Gl w mg mb s.heap) (R : Room A (n + 1)) {x y : List Nat} {t : Tok} (hy : x.takeWhile isBlank = y) (hx : x.length ≤ 1000000)
    (q : ∀ h' t' tk, Kp s.heap h' → Q (.str (S y) t') { s with heap := h', toks := tk }) : wpAny (model prog w) A (call (.ref 79) [.str (S x) t]) Q E s := by
  subst hy
  refine enter G R rfl rfl (binds := [(Str.ofString "line", .str (S x) t)]) rfl rfl rfl rfl rfl rfl ?_
  intro L h₁ tk C R'
  refine sReturn ?_
  refine meth0 rfl rfl plain_mat slot_mat_group type_mat_group ?_
  refine meth1 rfl rfl rfl plain_pat slot_pat_match type_pat_match ?_
  refine nmG C G (v := .ref 51) rfl rfl rfl rfl ?_
  have P := G.pat4.keeps C.keep
  refine ⟨⟨P.typeIs, P.noDict⟩, ?_⟩
  refine nmL C rfl rfl rfl rfl ?_
  have hsz : (S x).cps.size = x.length := by simp [S]
  obtain ⟨m', r, o, o0, o1, o2, o3⟩ := match4 (S x).cps (by omega)
  have el : (S x).cps.toList = x := by simp [S]
  rw [el] at o1 o2
  refine call_match1 P (by omega) r (by omega) o o0 o1 o2 o3 ?_
  intro o1 o2 f1 f2 p1 p2
  replace C := (C.push o1 p1 f1).push o2 p2 f2
  have ma := MatAt.of (C.get (.head _)) (C.get (.tail _ (.head _)))
  refine ⟨⟨ma.typeIs, ma.noDict⟩, ?_⟩
  refine call_group0 ma (by omega) ?_
  intro t' tk'
  rw [extract_S, el, List.drop_zero, Nat.sub_zero, ← List.prefix_iff_eq_take.mp (List.takeWhile_prefix _)]
  exact q _ _ _ C.keep

def hdr (x : List Nat) : List Nat := x.take (hdLen x)
theorem header_call (G : Gl w mg mb s.heap) (R : Room A (n + 1)) {x y : List Nat} {t : Tok} (hy : hdr x = y) (hx : x.length ≤ 1000000)
    (q : ∀ h' t' tk, Kp s.heap h' → Q (.str (S y) t') { s with heap := h', toks := tk }) : wpAny (model prog w) A (call (.ref 86) [.str (S x) t]) Q E s := by
  subst hy
  refine enter G R rfl rfl (binds := [(Str.ofString "line", .str (S x) t)]) rfl rfl rfl rfl rfl rfl ?_
  intro L h₁ tk C R'
  refine sAssign rfl ?_
  refine meth1 rfl rfl rfl plain_pat slot_pat_match type_pat_match ?_
  refine nmG C G (v := .ref 36) rfl rfl rfl rfl ?_
  have P := G.pat1.keeps C.keep
  refine ⟨⟨P.typeIs, P.noDict⟩, ?_⟩
  refine nmL C rfl rfl rfl rfl ?_
  have hsz : (S x).cps.size = x.length := by simp [S]
  obtain ⟨m', r, o, o0, o1, o2, o3⟩ := match1 (S x).cps (by omega)
  have el : (S x).cps.toList = x := by simp [S]
  rw [el] at o1 o2
  refine call_match1 P (by omega) r (by omega) o o0 o1 o2 o3 ?_
  intro o1 o2 f1 f2 p1 p2
  replace C := (C.push o1 p1 f1).push o2 p2 f2
  refine stL C rfl rfl ?_
  intro h'' tk'' C'
  refine sIf (wpAny_isTrue_Compare1 ?_)
  refine nmL C' rfl rfl rfl rfl ?_
  refine wpAny_Constant_none (is_none ?_)
  refine wpAny_truthy_bool ?_
  refine br (fun h => nomatch h) fun _ => ?_
  refine sNil (then_next ?_)
  refine sReturn ?_
  refine meth1 rfl rfl rfl plain_mat slot_mat_group type_mat_group ?_
  refine nmL C' rfl rfl rfl rfl ?_
  have ma := MatAt.of (C'.get (.head _)) (C'.get (.tail _ (.head _)))
  refine ⟨⟨ma.typeIs, ma.noDict⟩, ?_⟩
  refine wpAny_Constant_int ?_
  refine call_group1 ma (by omega) ?_
  intro t' tk'
  rw [extract_S, el, List.drop_zero, Nat.sub_zero]
  exact q _ _ _ C'.keep
end
end Mine
end

section
set_option maxRecDepth 100000
namespace Mine
open PySem PySem.W PySem.Calls PyProof.Rows PySem.Builtin PySem.Builtin.Str

theorem S_append (a b : List Nat) : S a ++ S b = S (a ++ b) := by
  apply Str.ext'
  show (S a).cps ++ (S b).cps = _
  simp [S]
theorem S_inj {a b : List Nat} (h : S a = S b) : a = b := by
  have := congrArg (fun x : Str => x.cps.toList) h
  simpa [S] using this
theorem S_list (a : List Nat) : (S a).cps.toList = a := by simp [S]

/-- joined by a separator -/
def jn (sep : List Nat) : List (List Nat) → List Nat
  | [] => []
  | [x] => x
  | x :: y :: r => x ++ sep ++ jn sep (y :: r)
theorem jn_S (sep : List Nat) : ∀ ls : List (List Nat), Str.join (S sep) (ls.map S) = S (jn sep ls)
  | [] => rfl
  | [x] => rfl
  | x :: y :: r => by
    show S x ++ S sep ++ Str.join (S sep) ((y :: r).map S) = _
    rw [jn_S sep (y :: r), S_append, S_append]; rfl
theorem jn_cons (sep x : List Nat) {r : List (List Nat)} (h : r ≠ []) : jn sep (x :: r) = x ++ sep ++ jn sep r := by
  cases r with
  | nil => exact absurd rfl h
  | cons y r => rfl
theorem jn_inj (c : Nat) : ∀ (ps qs : List (List Nat)), ps ≠ [] → qs ≠ [] → (∀ p ∈ ps, c ∉ p) → (∀ q ∈ qs, c ∉ q) → jn [c] ps = jn [c] qs → ps = qs
  | [], _, h, _, _, _, _ => absurd rfl h
  | _, [], _, h, _, _, _ => absurd rfl h
  | [x], [y], _, _, _, _, e => by rw [show x = y from e]
  | [x], y :: z :: r, _, _, hp, hq, e => by
    exfalso
    have : c ∈ x := by rw [show x = y ++ [c] ++ jn [c] (z :: r) from e]; simp
    exact hp x (.head _) this
  | x :: z :: r, [y], _, _, hp, hq, e => by
    exfalso
    have : c ∈ y := by rw [show y = x ++ [c] ++ jn [c] (z :: r) from e.symm]; simp
    exact hq y (.head _) this
  | x :: z :: r, y :: z' :: r', _, _, hp, hq, e => by
    have e' : x ++ c :: jn [c] (z :: r) = y ++ c :: jn [c] (z' :: r') := by
      have : x ++ [c] ++ jn [c] (z :: r) = y ++ [c] ++ jn [c] (z' :: r') := e
      simpa using this
    have key : ∀ (x y u v : List Nat), c ∉ x → c ∉ y → x ++ c :: u = y ++ c :: v → x = y ∧ u = v := by
      intro x
      induction x with
      | nil =>
        intro y u v _ hy e
        cases y with
        | nil => exact ⟨rfl, by simpa using e⟩
        | cons a y => simp at e; exact absurd (e.1 ▸ List.mem_cons_self) hy
      | cons a x ih =>
        intro y u v hx hy e
        cases y with
        | nil => simp at e; exact absurd (e.1 ▸ List.mem_cons_self) hx
        | cons b y =>
          simp at e
          obtain ⟨h1, h2⟩ := ih y u v (fun h => hx (.tail _ h)) (fun h => hy (.tail _ h)) e.2
          exact ⟨by rw [e.1, h1], h2⟩
    obtain ⟨h1, h2⟩ := key x y _ _ (hp x (.head _)) (hq y (.head _)) e'
    have := jn_inj c (z :: r) (z' :: r') (by simp) (by simp) (fun p h => hp p (.tail _ h)) (fun q h => hq q (.tail _ h)) h2
    rw [h1, this]
theorem split_S {c : Nat} {ls : List (List Nat)} (hne : ls ≠ []) (hf : ∀ l ∈ ls, c ∉ l) : Txt.split (S (jn [c] ls)) (S [c]) = ls.map S := by
  have h1 := StrLaws.join_split (S (jn [c] ls)) (S [c])
  have h2 := StrLaws.split_free (S (jn [c] ls)) c
  change ∀ p ∈ Txt.split (S (jn [c] ls)) (S [c]), c ∉ p.cps.toList at h2
  generalize hq : Txt.split (S (jn [c] ls)) (S [c]) = qs at h1 h2
  have e : qs = (qs.map (fun x => x.cps.toList)).map S := by
    rw [List.map_map]
    conv => lhs; rw [← List.map_id qs]
    apply List.map_congr_left
    intro x _
    exact (S_of x).symm
  rw [e, jn_S] at h1
  have hne' : qs.map (fun x => x.cps.toList) ≠ [] := by
    intro h0
    have hqn : qs = [] := by simpa using h0
    rw [hqn] at hq
    unfold Txt.split at hq
    split at hq
    · cases hq
    · split at hq
      · cases hq
      · rw [StrLaws.partsBetween_eq] at hq
        obtain ⟨p, r, e⟩ := StrLaws.partsFrom_ne (S (jn [c] ls)) (S [c]).length 0 (occurrences (S (jn [c] ls)) (S [c]) 0 (S (jn [c] ls)).length ((S (jn [c] ls)).length + 1))
        rw [e] at hq; cases hq
  have := jn_inj c _ ls hne' hne (fun p hp => by
    obtain ⟨x, hx, rfl⟩ := List.mem_map.mp hp
    exact h2 x hx) hf (S_inj h1)
  rw [e, this]

section
variable {prog : Program} {w : World} {A : Around} {E : Value → Shared → Prop} {s : Shared} {t u : Tok} {a b : List Nat} {Q : Value → Shared → Prop}
theorem add_S (hsz : a.length + b.length ≤ 16777216) (q : ∀ t' tk, Q (.str (S (a ++ b)) t') { s with toks := tk }) : wpAny (model prog w) A (binaryOp .Add (.str (S a) t) (.str (S b) u)) Q E s := by
  refine PySem.P.add_str ?_
  by_cases ha : ((S a).length == 0) = true
  · rw [if_pos ha]
    have : a = [] := by rw [S_len] at ha; simpa using ha
    subst this
    exact q u s.toks
  · rw [if_neg ha]
    by_cases hb : ((S b).length == 0) = true
    · rw [if_pos hb]
      have : b = [] := by rw [S_len] at hb; simpa using hb
      subst this
      have := q t s.toks
      rwa [List.append_nil] at this
    · rw [if_neg hb, S_append]
      refine ⟨?_, q _ _⟩
      rw [S_len, sizeLine_eq, List.length_append]; exact hsz
theorem iadd_S (hsz : a.length + b.length ≤ 16777216) (q : ∀ t' tk, Q (.str (S (a ++ b)) t') { s with toks := tk }) : wpAny (model prog w) A (inplaceOp .Add (.str (S a) t) (.str (S b) u)) Q E s := by
  refine PySem.P.iadd_str ?_
  by_cases ha : ((S a).length == 0) = true
  · rw [if_pos ha]
    have : a = [] := by rw [S_len] at ha; simpa using ha
    subst this
    exact q u s.toks
  · rw [if_neg ha]
    by_cases hb : ((S b).length == 0) = true
    · rw [if_pos hb]
      have : b = [] := by rw [S_len] at hb; simpa using hb
      subst this
      have := q t s.toks
      rwa [List.append_nil] at this
    · rw [if_neg hb, S_append]
      refine ⟨?_, q _ _⟩
      rw [S_len, sizeLine_eq, List.length_append]; exact hsz
theorem addI {x y z : Int} (hz : x + y = z) (q : ∀ t' tk, Q (.int z t') { s with toks := tk }) : wpAny (model prog w) A (binaryOp .Add (.int x t) (.int y u)) Q E s := by
  subst hz; exact P.add_int (q _ _)
theorem subI {x y z : Int} (hz : x - y = z) (q : ∀ t' tk, Q (.int z t') { s with toks := tk }) : wpAny (model prog w) A (binaryOp .Sub (.int x t) (.int y u)) Q E s := by
  subst hz; exact P.sub_int (q _ _)
theorem eq_S (q : Q (.bool (a == b)) s) : wpAny (model prog w) A (compareOp .Eq (.str (S a) t) (.str (S b) u)) Q E s :=
  PySem.P.eq_str (by rw [S_list, S_list]; exact q)
theorem ne_S (q : Q (.bool (a != b)) s) : wpAny (model prog w) A (compareOp .NotEq (.str (S a) t) (.str (S b) u)) Q E s :=
  PySem.P.ne_str (by rw [S_list, S_list]; exact q)
theorem len_S {n : Nat} (hn : a.length = n) (hsz : n ≤ 16777216) (q : ∀ t' tk, Q (.int n t') { s with toks := tk }) : wpAny (model prog w) A (call (.builtin "len") [.str (S a) t]) Q E s :=
  PySem.P.len_str (by rw [S_len]; omega) (by rw [S_len, hn]; exact q _ _)
theorem truthy_S {Q : Bool → Shared → Prop} (hsz : a.length ≤ 16777216) (q : ∀ tk, Q (!a.isEmpty) { s with toks := tk }) : wpAny (model prog w) A (truthy (.str (S a) t)) Q E s := by
  refine PySem.P.truthy_str (by rw [S_len]; omega) ?_
  have e : (((S a).length : Int) != 0) = !a.isEmpty := by
    rw [S_len]
    cases a with
    | nil => rfl
    | cons x r => simp only [List.length_cons, List.isEmpty_cons, Bool.not_false, bne_iff_ne, ne_eq]; omega
  rw [e]; exact q _
theorem expandtabs_S (hsz : a.length ≤ 16777216) (h9 : 9 ∉ a) (q : Q (.str (S a) t) s) : wpAny (model prog w) A (call (.builtin "str.expandtabs") [.str (S a) t]) Q E s := by
  refine wpAny_call_entry F.slot_str_expandtabs (typeIs_str _ _ _) F.entry_str_expandtabs ?_ (F.args_str_expandtabs_1 _)
  unfold Builtin.«str.expandtabs»
  have hc : (S a).cps.contains 9 = false := by
    rw [Bool.eq_false_iff]
    intro h
    exact h9 (by simpa [S] using h)
  refine wpAny_bind (m := strSelf ⟨[.str (S a) t], []⟩) (wpAny_pure (a := (Value.str (S a) t, S a, [])) ?_)
  dsimp only
  refine wpAny_bind (wpAny_pure (a := [none]) ?_)
  dsimp only
  refine wpAny_bind (wpAny_pure (a := (8 : Int)) ?_)
  show wpAny _ _ (if (!(S a).cps.contains 9) = true then _ else _) _ _ _
  rw [hc]
  refine wpAny_bind (wpAny_rule ?_)
  exact wpAny_bind (wpAny_pure (a := Value.str (S a) t) (wpAny_pure ⟨_, rfl, q⟩))
end
end Mine
end

section
set_option maxRecDepth 100000
set_option linter.unusedVariables false
namespace Mine
open PySem PySem.W PySem.Calls PyProof.Rows PySem.Builtin PySem.Builtin.Str

def rstr (l : List Nat) : List Nat := l.take (l.length - (l.reverse.takeWhile Unicode.isSpace).length)
theorem rstrip_eq (l : List Nat) : Txt.rstrip (S l) = S (rstr l) := by
  unfold Txt.rstrip Txt.stripBy stripSame PySem.stripped stripLo stripHi
  simp only [Bool.false_eq_true, if_false, if_true, List.drop_zero, S_list, S_len]
  unfold strSub rstr
  split
  · rename_i h
    have e : l.length - (l.reverse.takeWhile Unicode.isSpace).length = l.length := by simpa using h
    rw [e, List.take_length]
  · rw [extract_S, S_list, List.drop_zero, Nat.sub_zero]
theorem rstr_word (a : List Nat) (c : Nat) (hc : Unicode.isSpace c = false) : rstr (a ++ [c] ++ [32]) = a ++ [c] := by
  unfold rstr
  have e : (a ++ [c] ++ [32]).reverse = 32 :: c :: a.reverse := by simp
  rw [e, List.takeWhile_cons, if_pos (by decide), List.takeWhile_cons, hc]
  have e2 : (a ++ [c] ++ [32]).length - (32 :: (if false = true then c :: a.reverse.takeWhile Unicode.isSpace else [])).length = (a ++ [c]).length := by simp
  rw [e2, List.take_left]

section
variable {prog : Program} {w : World} {A : Around} {E : Value → Shared → Prop} {s : Shared} {t u : Tok} {a b : List Nat} {Q : Value → Shared → Prop} {h₀ : Heap} {L : Addr} {bs : List (Str × Value)} {rs : Rs}
theorem rstrip_S (hsz : a.length ≤ 16777216) (q : ∀ t' tk, Q (.str (S (rstr a)) t') { s with toks := tk }) : wpAny (model prog w) A (call (.builtin "str.rstrip") [.str (S a) t]) Q E s :=
  SC.rstrip (fun t' k => by rw [rstrip_eq]; exact q _ _) (by rw [S_len, sizeLine_eq]; exact hsz)

theorem Cx.adopt {h h' : Heap} (C : Cx h₀ L bs rs h) (k : Kp h h') {l : Addr} {o : Obj} {P : Obj → Prop} (hn : h.get? l = none) (ho : h'.get? l = some o) (p : P o) : Cx h₀ L bs ((l, P) :: rs) h' := by
  have C' := C.keeps k
  refine ⟨C'.fr, fun r hr => ?_, fun r hr => ?_, ?_⟩
  · rcases List.mem_cons.mp hr with rfl | hr
    · exact ⟨o, ho, p⟩
    · exact C'.at_ r hr
  · rcases List.mem_cons.mp hr with rfl | hr
    · show h₀.get? l = none
      cases q : h₀.get? l with
      | none => rfl
      | some o' => rw [C.keep _ _ q] at hn; cases hn
    · exact C'.fresh r hr
  · have := List.nodup_cons.mp C.nd
    refine List.nodup_cons.mpr ⟨fun hm => ?_, List.nodup_cons.mpr ⟨fun hm => ?_, this.2⟩⟩
    · rcases List.mem_cons.mp hm with e | hm
      · obtain ⟨m, F, _⟩ := C.fr
        obtain ⟨oL, _, _, hL, _⟩ := F.ns
        have e' : L = l := e
        rw [← e', hL] at hn; cases hn
      · exact this.1 hm
    · obtain ⟨r, hr, e⟩ := List.mem_map.mp hm
      obtain ⟨o', h1, _⟩ := C.at_ r hr
      have e' : r.1 = l := e
      rw [e', hn] at h1; cases h1

theorem strValues_are : ∀ (l : List (Str × Tok)), StrsAre (strValues l) (l.map (·.1)) := fun l => strsAre_of_values l

/-- a text split by one sign: a new list -/
theorem split_C {c : Nat} {x : List Nat} {ls : List (List Nat)} (C : Cx h₀ L bs rs s.heap) (hx : x = jn [c] ls) (hne : ls ≠ []) (hf : ∀ l ∈ ls, c ∉ l) (hsz : x.length ≤ 1000000)
    (q : ∀ l vs h' tk, StrsAre vs (ls.map S) → Cx h₀ L bs ((l, PL vs) :: rs) h' → Q (.ref l) { s with heap := h', toks := tk }) :
    wpAny (model prog w) A (call (.builtin "str.split") [.str (S x) t, .str (S [c]) u]) Q E s := by
  subst hx
  have hs := split_S hne hf
  have fin : ∀ (l : List (Str × Tok)) (k : Nat), l.map (·.1) = Txt.split (S (jn [c] ls)) (S [c]) → Q (.ref s.heap.objs.size) { s with heap := s.heap.push { cls := .type "list", data := .seq (strValues l).toArray }, toks := k } := by
    intro l k e
    refine q _ (strValues l) _ _ ?_ (C.push _ ⟨_, rfl⟩ rfl)
    have := strValues_are l
    rw [e, hs] at this
    exact this
  have hsz1 : (S (jn [c] ls)).length ≤ sizeLine := by rw [S_len, sizeLine_eq]; omega
  have hsz2 : (partsBetween (S (jn [c] ls)) (occurrences (S (jn [c] ls)) (S [c]) 0 (S (jn [c] ls)).length ((S (jn [c] ls)).length + 1)) (S [c]).length).length ≤ sizeLine := by
    have e1 := StrLaws.occ_length_le (S (jn [c] ls)) (S [c]) 0 (S (jn [c] ls)).length ((S (jn [c] ls)).length + 1)
    rw [length_partsBetween, sizeLine_eq]; rw [S_len] at e1 ⊢; omega
  have hy : ((S [c]).length == 0) = false := rfl
  cases h1 : (decide ((S (jn [c] ls)).length < (S [c]).length) || decide (strKind (S (jn [c] ls)) < strKind (S [c])))
  · cases hf : (occurrences (S (jn [c] ls)) (S [c]) 0 (S (jn [c] ls)).length ((S (jn [c] ls)).length + 1)).isEmpty
    · refine call_meets F.slot_str_split (typeIs_str _ _ _) F.entry_str_split (F.args_str_split_2 _ _) (meets_str_split_sep _ _ t u h1 hy hf hsz1 hsz2) ?_
      show wants Q E _ { s with toks := _, heap := s.heap.push { cls := .type "list", data := .seq (strsFrom s.toks (partsBetween _ (occurrences _ _ 0 _ _) _)).toArray } }
      rw [strsFrom_eq]
      exact fin (numbered s.toks _) _ ((numbered_texts _ _).trans ((if_neg (ne_true_of_eq_false h1)).trans (if_neg (ne_true_of_eq_false hf))).symm)
    · exact call_meets F.slot_str_split (typeIs_str _ _ _) F.entry_str_split (F.args_str_split_2 _ _) (meets_str_split_not_found _ _ t u h1 hy hf)
        (fin [(_, t)] _ ((if_neg (ne_true_of_eq_false h1)).trans (if_pos hf)).symm)
  · exact call_meets F.slot_str_split (typeIs_str _ _ _) F.entry_str_split (F.args_str_split_2 _ _) (meets_str_split_cannot_occur _ _ t u h1)
      (fin [(_, t)] _ (if_pos h1).symm)
end
end Mine
end

section
set_option maxRecDepth 100000
set_option linter.unusedVariables false
namespace Mine
open PySem PySem.W PySem.Calls PyProof.Rows PySem.Builtin PySem.Builtin.Str

section
variable {h₀ h : Heap} {L : Addr} {bs : List (Str × Value)} {rs : Rs} {l : Addr} {vs : List Value}
theorem Cx.isL (C : Cx h₀ L bs rs h) (m : (l, PL vs) ∈ rs) : h.IsList l vs.toArray := by
  obtain ⟨o, ho, n, e⟩ := C.get m
  exact ⟨o, ho, by rw [e], n, by rw [e]⟩
theorem Cx.exL (C : Cx h₀ L bs rs h) (m : (l, PL vs) ∈ rs) : ∃ n, h.get? l = some { cls := .type "list", data := .seq vs.toArray n } := by
  obtain ⟨o, ho, n, e⟩ := C.get m
  exact ⟨n, by rw [ho, e]⟩
theorem Cx.tyL {s : Shared} (C : Cx h₀ L bs rs s.heap) (m : (l, PL vs) ∈ rs) : s.TypeIs (.ref l) "list" ∧ ∀ a, Value.ref l = .ref a → ∃ ob, s.heap.get? a = some ob ∧ ob.dict = none := by
  obtain ⟨o, ho, n, e⟩ := C.get m
  refine ⟨⟨o, ho, by rw [e]⟩, fun a e' => ?_⟩
  cases e'
  exact ⟨o, ho, by rw [e]⟩
/-- a list that stands (in the base) -/
def LAt (h : Heap) (l : Addr) (vs : List Value) : Prop := ∃ n, h.get? l = some { cls := .type "list", data := .seq vs.toArray n }
theorem LAt.keeps {h h' : Heap} (x : LAt h l vs) (k : Kp h h') : LAt h' l vs := let ⟨n, e⟩ := x; ⟨n, k _ _ e⟩
theorem LAt.isL (x : LAt h l vs) : h.IsList l vs.toArray := let ⟨n, e⟩ := x; ⟨_, e, rfl, n, rfl⟩
theorem LAt.ty {s : Shared} (x : LAt s.heap l vs) : s.TypeIs (.ref l) "list" ∧ ∀ a, Value.ref l = .ref a → ∃ ob, s.heap.get? a = some ob ∧ ob.dict = none := by
  obtain ⟨n, e⟩ := x
  exact ⟨⟨_, e, rfl⟩, fun a e' => by cases e'; exact ⟨_, e, rfl⟩⟩
theorem Cx.lat (C : Cx h₀ L bs rs h) (m : (l, PL vs) ∈ rs) : LAt h l vs := C.exL m
def TAt (h : Heap) (l : Addr) (vs : List Value) : Prop := ∃ n, h.get? l = some { cls := .type "tuple", data := .seq vs.toArray n }
theorem TAt.keeps {h h' : Heap} (x : TAt h l vs) (k : Kp h h') : TAt h' l vs := let ⟨n, e⟩ := x; ⟨n, k _ _ e⟩
theorem TAt.isTup (x : TAt h l vs) : IsTup h l vs.toArray := let ⟨n, e⟩ := x; ⟨_, e, rfl, n, rfl⟩
theorem Cx.tat (C : Cx h₀ L bs rs h) (m : (l, PT vs) ∈ rs) : TAt h l vs := by
  obtain ⟨o, ho, n, e⟩ := C.get m
  exact ⟨n, by rw [ho, e]⟩
end

section
variable {prog : Program} {w : World} {A : Around} {E : Value → Shared → Prop} {s : Shared} {t u : Tok} {Q : Value → Shared → Prop} {h₀ : Heap} {L : Addr} {bs : List (Str × Value)} {rs : Rs} {l : Addr} {vs : List Value}
theorem idx_L {value slice : PySem.Expr} {k : Nat} {v : Value} (x : LAt s.heap l vs) (hk : k < 1000000) (hv : vs[k]? = some v)
    (hs : subscripted slice false (.ref l) (.int k t) = operate [.ref l, .int k t] (getItem (.ref l) (.int k t))) (q : Q v s) : wpAny (model prog w) A (subscriptTail value slice (.ref l) (.int k t)) Q E s :=
  tail_any x.isL.typeIs slot_list_getitem.lookup (wpAny_getItem_list x.isL (by omega) (by omega) (by simpa using hv) q) hs
theorem idx_last {value slice : PySem.Expr} {v : Value} (x : LAt s.heap l (vs ++ [v]))
    (hs : subscripted slice false (.ref l) (.int (-1) t) = operate [.ref l, .int (-1) t] (getItem (.ref l) (.int (-1) t))) (q : Q v s) : wpAny (model prog w) A (subscriptTail value slice (.ref l) (.int (-1) t)) Q E s := by
  refine tail_any x.isL.typeIs slot_list_getitem.lookup (wpAny_getItem_list_neg x.isL (by omega) ?_ (by omega) ?_ q) hs
  · simp; omega
  · have e : (-1 + ((vs ++ [v]).toArray.size : Int)).toNat = vs.length := by simp; omega
    rw [e]; simp
theorem idx_T {value slice : PySem.Expr} {k : Int} {j : Nat} {v : Value} (x : TAt s.heap l vs) (hlo : -(2 ^ 63) ≤ k) (hhi : k < 2 ^ 63) (hj : seqIndex? k vs.length = some j) (hv : vs[j]? = some v)
    (hs : subscripted slice false (.ref l) (.int k t) = operate [.ref l, .int k t] (getItem (.ref l) (.int k t))) (q : Q v s) : wpAny (model prog w) A (subscriptTail value slice (.ref l) (.int k t)) Q E s :=
  item_tupleT x.isTup hlo hhi hj hv q hs
theorem len_L (x : LAt s.heap l vs) (hsz : vs.length ≤ 16777216) (q : ∀ t' tk, Q (.int vs.length t') { s with toks := tk }) : wpAny (model prog w) A (call (.builtin "len") [.ref l]) Q E s :=
  call_len_list x.isL (by simp; omega) (by simpa using q _ _)
theorem append_C {v : Value} (C : Cx h₀ L bs ((l, PL vs) :: rs) s.heap) (hsz : vs.length ≤ 1000000) (q : ∀ h', Cx h₀ L bs ((l, PL (vs ++ [v])) :: rs) h' → Q .none { s with heap := h' }) :
    wpAny (model prog w) A (call (.builtin "list.append") [.ref l, v]) Q E s := by
  obtain ⟨n, ho⟩ := C.exL (.head _)
  refine call_meets PySem.F.slot_list_append ⟨_, ho, rfl⟩ PySem.F.entry_list_append (PySem.F.args_list_append_2 _ _) (list_append l vs.toArray n v (by rw [sizeLine_eq]; simp; omega)) ⟨ho, q _ (C.upd (Heap.SameBut.update ..).extBut ⟨_, Heap.get?_update_self _ ho rfl, ?_⟩)⟩
  have e : vs.toArray.push v = (vs ++ [v]).toArray := by simp
  exact ⟨(if (vs.toArray.push v).size == vs.toArray.size then n else n + 1), by rw [← e]; rfl⟩
theorem extend_C {b : Addr} {us : List Value} (C : Cx h₀ L bs ((l, PL vs) :: rs) s.heap) (y : LAt s.heap b us) (hsz : vs.length + us.length ≤ 1000000) (q : ∀ h', Cx h₀ L bs ((l, PL (vs ++ us)) :: rs) h' → Q .none { s with heap := h' }) :
    wpAny (model prog w) A (call (.builtin "list.extend") [.ref l, .ref b]) Q E s := by
  obtain ⟨n, ho⟩ := C.exL (.head _)
  obtain ⟨n2, hb⟩ := y
  have hz : vs.toArray.size + us.toArray.size ≤ sizeLine := by rw [sizeLine_eq]; simp; omega
  refine call_meets PySem.F.slot_list_extend ⟨_, ho, rfl⟩ PySem.F.entry_list_extend (PySem.F.args_list_extend_2 _ _) (AutoSeq1.list_extend_list_list_0 l vs.toArray n b us.toArray n2 (extend_door hz) (Nat.le_trans (Nat.le_add_right _ _) hz) (Nat.le_succ_of_le hz)) ⟨ho, hb, q _ (C.upd (Heap.SameBut.update ..).extBut ⟨_, Heap.get?_update_self _ ho rfl, ?_⟩)⟩
  have e : vs.toArray ++ us.toArray = (vs ++ us).toArray := by simp
  exact ⟨(if (vs.toArray ++ us.toArray).size == vs.toArray.size then n else n + 1), by rw [← e]; rfl⟩
/-- xs[a:b] -/
theorem slice_C {value : PySem.Expr} {lower upper : Option PySem.Expr} {p pos : Pos} {env : Env} (ht : ∀ o r, letTemporaryGo value o r = pure ())
    (h : wpAny (model prog w) A (eval value env) (fun o s₁ => wpAny (model prog w) A (evalPart lower env) (fun vl s₂ => wpAny (model prog w) A (evalPart upper env) (fun vu s₃ =>
      ∃ l vs lo hi rs bs, o = .ref l ∧ LAt s₃.heap l vs ∧ vs.length ≤ 1000000 ∧ IsPart vl lo ∧ IsPart vu hi ∧ Cx h₀ L bs rs s₃.heap ∧
        ∀ l' h', Cx h₀ L bs ((l', PL (slicePick vs.toArray lo hi none).toList) :: rs) h' → Q (.ref l') { s₃ with heap := h' }) E s₂) E s₁) E s) :
    wpAny (model prog w) A (eval (.Subscript value (.Slice lower upper none p) pos) env) Q E s := by
  refine wpAny_Subscript_list_slice (wpAny_mono h (fun o s₁ h₁ => wpAny_mono h₁ (fun vl s₂ h₂ => wpAny_mono h₂ (fun vu s₃ h₃ => ?_) fun _ _ e => e) fun _ _ e => e) fun _ _ e => e) ht
  obtain ⟨l, vs, lo, hi, rs, bs, e, x, hsz, pl, pu, C, q⟩ := h₃
  refine ⟨l, vs.toArray, lo, hi, e, x.isL, by rw [sizeLine_eq]; simp; omega, pl, pu, ?_⟩
  have C' := ((C.push ({ cls := .type "slice", data := .fields #[vl, vu, .none] } : Obj) (P := fun _ => True) trivial rfl).drop rfl).push ({ cls := .type "list", data := .seq (slicePick vs.toArray lo hi none) } : Obj) (P := PL (slicePick vs.toArray lo hi none).toList) ⟨0, by rw [Array.toArray_toList]⟩ rfl
  rw [Heap.size_push] at C'
  exact q _ _ C'
/-- x[a:b], x[a:] of a text -/
inductive BndLo : Value → Nat → Prop
  | int (a : Nat) (t : Tok) : BndLo (.int a t) a
inductive BndHi (n : Nat) : Value → Nat → Prop
  | int (b : Nat) (t : Tok) (h : b ≤ n) : BndHi n (.int b t) b
  | none : BndHi n .none n
theorem picked_eq {x : List Nat} {a b : Nat} {t : Tok} {vu : Value} (hb : BndHi x.length vu b) (hab : a ≤ b) : ∃ hi, vu = partValue hi ∧ slicePicked (S x) (some ((a : Int), t)) hi none = (List.range (b - a)).map (a + ·) := by
  have hbn : b ≤ x.length := by cases hb <;> omega
  have main : ∀ hi' : Int, hi' = (b : Int) → sliceRange (max 0 (min (if (a : Int) < 0 then (a : Int) + (x.length : Int) else (a : Int)) (x.length : Int))) hi' 1 = (List.range (b - a)).map (a + ·) := by
    intro hi' e
    have e1 : max 0 (min (if (a : Int) < 0 then (a : Int) + (x.length : Int) else (a : Int)) (x.length : Int)) = (a : Int) := by
      rw [if_neg (by omega)]; omega
    rw [e1, e]
    exact sliceRange_one a b
  cases hb with
  | int b t' h =>
    refine ⟨some ((b : Int), t'), rfl, ?_⟩
    show strSliceIndices (some (a : Int)) (some (b : Int)) 1 (S x).length = _
    rw [S_len]
    refine main _ ?_
    show max 0 (min (if (b : Int) < 0 then (b : Int) + (x.length : Int) else (b : Int)) (x.length : Int)) = _
    rw [if_neg (by omega)]; omega
  | none =>
    refine ⟨none, rfl, ?_⟩
    show strSliceIndices (some (a : Int)) none 1 (S x).length = _
    rw [S_len]
    exact main _ rfl
theorem sliceS_C {value : PySem.Expr} {lower upper : Option PySem.Expr} {p pos : Pos} {env : Env} (ht : ∀ o r, letTemporaryGo value o r = pure ())
    (h : wpAny (model prog w) A (eval value env) (fun o s₁ => wpAny (model prog w) A (evalPart lower env) (fun vl s₂ => wpAny (model prog w) A (evalPart upper env) (fun vu s₃ =>
      ∃ x t a b, o = .str (S x) t ∧ BndLo vl a ∧ BndHi x.length vu b ∧ a ≤ b ∧ x.length ≤ 1000000 ∧
        ∀ t' h' tk, Kp s₃.heap h' → Q (.str (S ((x.drop a).take (b - a))) t') { s₃ with heap := h', toks := tk }) E s₂) E s₁) E s) :
    wpAny (model prog w) A (eval (.Subscript value (.Slice lower upper none p) pos) env) Q E s := by
  refine wpAny_Subscript_str_slice (wpAny_mono h (fun o s₁ h₁ => wpAny_mono h₁ (fun vl s₂ h₂ => wpAny_mono h₂ (fun vu s₃ h₃ => ?_) fun _ _ e => e) fun _ _ e => e) fun _ _ e => e) ht
  obtain ⟨x, t, a, b, e, hl, hh, hab, hsz, q⟩ := h₃
  have hbn : b ≤ x.length := by cases hh <;> omega
  cases hl with
  | int a u =>
  obtain ⟨hi, ehi, ep⟩ := picked_eq (t := u) hh hab
  refine ⟨S x, t, some ((a : Int), u), hi, e, rfl, ehi, ?_⟩
  have ef : ((List.range (b - a)).map (a + ·)).filterMap ((S x).cps[·]?) = (x.drop a).take (b - a) := by rw [pick_run, S_list]
  unfold sliceMade
  rw [ep]
  split
  · rename_i hc
    have hlen : b - a = x.length := by
      have : ((List.range (b - a)).map (a + ·)).length = (S x).length := by simpa using hc
      rwa [List.length_map, List.length_range, S_len] at this
    have ea : a = 0 := by omega
    have eb : b = x.length := by omega
    have := q t _ s₃.toks (Kp.push s₃.heap { cls := .type "slice", data := .fields #[.int a u, vu, .none] })
    rw [ea, eb, List.drop_zero, Nat.sub_zero, List.take_length] at this
    rw [ea]
    exact this
  · rw [ef]
    refine ⟨?_, q _ _ _ (Kp.push _ _)⟩
    show (S ((x.drop a).take (b - a))).length ≤ sizeLine
    rw [S_len, sizeLine_eq, List.length_take, List.length_drop]; omega
theorem eq_nil {b : Addr} (x : LAt s.heap l vs) (y : LAt s.heap b []) (hu : A.units < cLine) (q : Q (.bool vs.isEmpty) s) : wpAny (model prog w) A (compareOp .Eq (.ref l) (.ref b)) Q E s := by
  cases vs with
  | nil => exact SeqAt.eq_listAt (e := fun _ => true) x.isL y.isL rfl hu (fun j h1 _ => by simp at h1) q
  | cons a r => exact SeqAt.eq_list_lengthsAt x.isL y.isL (by simp) hu q
theorem ne_nil {b : Addr} (x : LAt s.heap l vs) (y : LAt s.heap b []) (hu : A.units < cLine) (q : Q (.bool (!vs.isEmpty)) s) : wpAny (model prog w) A (compareOp .NotEq (.ref l) (.ref b)) Q E s := by
  cases vs with
  | nil => exact SeqAt.RcNeAt.lists (e := fun _ => true) x.isL y.isL rfl hu (fun j h1 _ => by simp at h1) prog w E Q q
  | cons a r => exact SeqAt.RcNeAt.lists_lengths x.isL y.isL (by simp) hu prog w E Q q
theorem join_L {sep : List Nat} {ls : List (List Nat)} (x : LAt s.heap l vs) (hv : StrsAre vs (ls.map S)) (hsz : (ls.map (·.length)).sum + ls.length * sep.length ≤ 16777216)
    (q : ∀ t' tk, Q (.str (S (jn sep ls)) t') { s with toks := tk }) : wpAny (model prog w) A (call (.builtin "str.join") [.str (S sep) t, .ref l]) Q E s := by
  refine join_list x.isL (ys := ls.map S) (by simpa using hv) ?_ fun t' k => ?_
  · rw [List.map_map, List.length_map, S_len]
    have : ((ls.map ((·.length) ∘ S))).sum = (ls.map (·.length)).sum := by congr 1
    rw [this]; exact hsz
  · show Q (.str (glued (S sep) (ls.map S)) t') _
    rw [StrLaws.glued_eq_join, jn_S]; exact q _ _
end
end Mine
end

section
set_option maxRecDepth 100000
set_option linter.unusedVariables false
namespace Mine
open PySem PySem.W PySem.Calls PyProof.Rows

abbrev Bot : Value → Shared → Prop := fun _ _ => False
def Flw (I : Shared → Prop) (Q : Flow → Shared → Prop) : Flow → Shared → Prop
  | .next, s => I s
  | .cont, s => I s
  | .brk, _ => False
  | .ret v, s => Q (.ret v) s
theorem flw_next {I : Shared → Prop} {Q : Flow → Shared → Prop} {s : Shared} (h : I s) : Flw I Q .next s := h
theorem flw_cont {I : Shared → Prop} {Q : Flow → Shared → Prop} {s : Shared} (h : I s) : Flw I Q .cont s := h
theorem flw_ret {I : Shared → Prop} {Q : Flow → Shared → Prop} {s : Shared} {v : Value} (h : Q (.ret v) s) : Flw I Q (.ret v) s := h

section
variable {prog : Program} {w : World} {A : Around} {s : Shared} {env : Env} {Q : Flow → Shared → Prop}
theorem sWhile {test : PySem.Expr} {body rest : List Stmt} {pos : Pos} (I : Nat → Shared → Prop) (n : Nat) (h0 : I n s)
    (turn : ∀ n s, I n s → wpAny (model prog w) A (isTrue test env (eval test env)) (fun b s₁ => if b then wpAny (model prog w) A (execs body env) (Flw (fun s' => ∃ m, m < n ∧ I m s') Q) Bot s₁ else wpAny (model prog w) A (execs rest env) Q Bot s₁) Bot s) :
    wpAny (model prog w) A (execs (.While test body [] pos :: rest) env) Q Bot s := by
  refine sThen (wpAny_While (codeAny_whileLoop I (fun n s hI => wpAny_mono (turn n s hI) (fun b s₁ h => ?_) fun _ _ e => e.elim) n h0))
  cases b with
  | true =>
    refine wpAny_mono h (fun f s₃ h₃ => ?_) fun _ _ e => e.elim
    cases f <;> first | exact h₃ | exact h₃.elim
  | false => exact wpAny_execs_nil h

theorem letOwned_L {target : PySem.Expr} {I l : Addr} {i : Nat} {v : Value} {Q : Unit → Shared → Prop} {E : Value → Shared → Prop} (hit : s.heap.IsListIter I l i) (hQ : Q () s) :
    wpAny (model prog w) A (letOwnedTupleGo target (.ref I) v) Q E s := by
  obtain ⟨o, ho, hc, hd⟩ := hit
  unfold letOwnedTupleGo
  split
  · cases v with
    | ref a =>
      refine wpAny_bind (wpAny_load ho ?_)
      rw [hc, hd]
      exact wpAny_pure hQ
    | _ => exact wpAny_pure hQ
  · cases v with
    | ref a =>
      refine wpAny_bind (wpAny_load ho ?_)
      rw [hc, hd]
      exact wpAny_pure hQ
    | _ => exact wpAny_pure hQ
  · exact wpAny_pure hQ

variable {h₀ : Heap} {L : Addr}
/-- a for over a list: P says the locals, the resources and the generators ahead of turn i -/
def ForL (prog : Program) (w : World) (A : Around) (h₀ : Heap) (L : Addr) (env : Env) (target : PySem.Expr) (body rest : List Stmt) (Q : Flow → Shared → Prop) (v : Value) (s : Shared) : Prop :=
  ∃ (l : Addr) (vs : List Value) (P : Nat → List (Str × Value) → Rs → Array GenState → Prop) (bs : List (Str × Value)) (rs : Rs), v = .ref l ∧ Cx h₀ L bs rs s.heap ∧ P 0 bs rs s.gens ∧
    (∀ i bs rs g h, P i bs rs g → Cx h₀ L bs rs h → LAt h l vs) ∧
    (∀ i v bs rs g h tk I, vs[i]? = some v → P i bs rs g → Cx h₀ L bs ((I, LI l (i + 1)) :: rs) h →
      wpAny (model prog w) A (assign target env v) (fun _ s₂ => wpAny (model prog w) A (execs body env) (Flw (fun s₃ => ∃ bs' rs' h' tk' g', s₃ = { s with heap := h', toks := tk', gens := g' } ∧ P (i + 1) bs' rs' g' ∧ Cx h₀ L bs' ((I, LI l (i + 1)) :: rs') h') Q) Bot s₂) Bot { s with heap := h, toks := tk, gens := g }) ∧
    (∀ bs rs g h tk, P vs.length bs rs g → Cx h₀ L bs rs h → wpAny (model prog w) A (execs rest env) Q Bot { s with heap := h, toks := tk, gens := g })
theorem Cx.isLI {bs : List (Str × Value)} {rs : Rs} {h : Heap} {I l : Addr} {i : Nat} (C : Cx h₀ L bs rs h) (m : (I, LI l i) ∈ rs) : h.IsListIter I l i := by
  obtain ⟨o, ho, c, d⟩ := C.get m
  exact ⟨o, ho, c, d⟩
theorem sForL {target iter : PySem.Expr} {body rest : List Stmt} {pos : Pos} (hh : A.handled = none) (hs : ∀ x, foldedSetIterable iter env x = pure x)
    (h : wpAny (model prog w) A (eval iter env) (ForL prog w A h₀ L env target body rest Q) Bot s) : wpAny (model prog w) A (execs (.For target iter body [] pos :: rest) env) Q Bot s := by
  refine sThen (wpAny_For (wpAny_mono h (fun v s₁ h₁ => ?_) fun _ _ e => e) hs)
  obtain ⟨l, vs, P, bs, rs, rfl, C, hP, hl, turn, done⟩ := h₁
  refine wpAny_pyIter_list (hl _ _ _ _ _ hP C).isL ?_
  have C1 := C.push ({ cls := .type "list_iterator", data := .fields #[.ref l, .int 0 0] } : Obj) (P := LI l 0) ⟨rfl, rfl⟩ rfl
  generalize hI : s₁.heap.objs.size = I at C1 ⊢
  generalize hH : s₁.heap.push ({ cls := .type "list_iterator", data := .fields #[.ref l, .int 0 0] } : Obj) = H at C1 ⊢
  refine codeAny_forLoop_any (fun k s' => ∃ i bs rs h' tk g, s' = { s₁ with heap := h', toks := tk, gens := g } ∧ P i bs rs g ∧ Cx h₀ L bs ((I, LI l i) :: rs) h' ∧ i ≤ vs.length ∧ k = vs.length + 1 - i) ?_ (vs.length + 1) ⟨0, bs, rs, H, s₁.toks, s₁.gens, rfl, hP, C1, Nat.zero_le _, rfl⟩
  rintro k s' ⟨i, bs, rs, h', tk, g, rfl, hP, C, hi, rfl⟩
  have x := hl _ _ _ _ _ hP (C.drop rfl)
  by_cases hlt : i < vs.length
  · refine wpAny_pyNext_list_item (C.isLI (.head _)) x.isL (x := vs[i]) (by simp [hlt]) fun h₂ hit hsb => ?_
    have C2 := C.upd (P' := LI l (i + 1)) hsb.extBut (by obtain ⟨o, e1, e2, e3⟩ := hit; exact ⟨o, e1, e2, e3⟩)
    refine letOwned_L hit (wpAny_mono (turn i vs[i] bs rs g h₂ tk I (by simp [hlt]) hP C2) (fun _ s₂ h₃ => wpAny_mono h₃ (fun f s₃ h₄ => ?_) fun _ _ e => e.elim) fun _ _ e => e.elim)
    have fin : (∃ bs' rs' h' tk' g', s₃ = { s₁ with heap := h', toks := tk', gens := g' } ∧ P (i + 1) bs' rs' g' ∧ Cx h₀ L bs' ((I, LI l (i + 1)) :: rs') h') → ∃ m, m < vs.length + 1 - i ∧ ∃ i bs rs h' tk g, s₃ = { s₁ with heap := h', toks := tk, gens := g } ∧ P i bs rs g ∧ Cx h₀ L bs ((I, LI l i) :: rs) h' ∧ i ≤ vs.length ∧ m = vs.length + 1 - i := by
      rintro ⟨bs', rs', h', tk', g', e, p', c'⟩
      exact ⟨vs.length + 1 - (i + 1), by omega, i + 1, bs', rs', h', tk', g', e, p', c', hlt, rfl⟩
    cases f with
    | next => exact fin h₄
    | cont => exact fin h₄
    | brk => exact h₄.elim
    | ret v => exact h₄
  · have hin : i = vs.length := by omega
    subst hin
    refine wpAny_pyNext_list_end hh (C.isLI (.head _)) x.isL (by simp) fun h₂ hsb => ?_
    refine wpAny_execs_nil (done bs rs g h₂ tk hP ?_)
    have hnd := C.nd
    have C0 := C.drop rfl
    simp only [List.map_cons, List.nodup_cons, List.mem_cons, not_or] at hnd
    refine ⟨?_, fun r hr => ?_, C0.fresh, C0.nd⟩
    · obtain ⟨m, F, hm⟩ := C0.fr
      obtain ⟨oL, es, ep, hL, q⟩ := F.ns
      refine ⟨m, ⟨⟨oL, es, ep, hsb _ _ hnd.1.1 hL, q⟩, fun b o e => hsb b o (fun hb => ?_) (F.keep b o e), F.above⟩, hm⟩
      have := C.fresh _ (.head _)
      rw [← hb, e] at this; cases this
    · obtain ⟨o, e, p⟩ := C0.at_ r hr
      exact ⟨o, hsb _ _ (fun hb => hnd.2.1 (hb ▸ List.mem_map_of_mem hr)) e, p⟩

theorem Cx.lost {bs : List (Str × Value)} {rs : Rs} {h h' : Heap} {I : Addr} {P : Obj → Prop} (C : Cx h₀ L bs ((I, P) :: rs) h) (hsb : Heap.ExtBut I h h') : Cx h₀ L bs rs h' := by
  have hnd := C.nd
  have C0 := C.drop rfl
  simp only [List.map_cons, List.nodup_cons, List.mem_cons, not_or] at hnd
  refine ⟨?_, fun r hr => ?_, C0.fresh, C0.nd⟩
  · obtain ⟨m, F, hm⟩ := C0.fr
    obtain ⟨oL, es, ep, hL, q⟩ := F.ns
    refine ⟨m, ⟨⟨oL, es, ep, hsb _ _ hnd.1.1 hL, q⟩, fun b o e => hsb b o (fun hb => ?_) (F.keep b o e), F.above⟩, hm⟩
    have := C.fresh _ (.head _)
    rw [← hb, e] at this; cases this
  · obtain ⟨o, e, p⟩ := C0.at_ r hr
    exact ⟨o, hsb _ _ (fun hb => hnd.2.1 (hb ▸ List.mem_map_of_mem hr)) e, p⟩

def RI (x left : Int) : Obj → Prop := fun o => o = { cls := .type "range_iterator", dict := none, data := .fields #[rawInt x, rawInt left, rawInt 2], slots := #[] }
/-- a for over range(0, n, 2) -/
def ForR (prog : Program) (w : World) (A : Around) (h₀ : Heap) (L : Addr) (env : Env) (target : PySem.Expr) (body rest : List Stmt) (Q : Flow → Shared → Prop) (v : Value) (s : Shared) : Prop :=
  ∃ (r : Addr) (n : Nat) (P : Nat → List (Str × Value) → Rs → Array GenState → Prop) (bs : List (Str × Value)) (rs : Rs) (t u v' : Tok), v = .ref r ∧ n ≤ 1000000 ∧ IsRange s.heap r 0 n 2 t u v' ∧ Cx h₀ L bs rs s.heap ∧ P 0 bs rs s.gens ∧
    (∀ i bs rs g h tk I t', 2 * i < n → P i bs rs g → Cx h₀ L bs ((I, RI (2 * (i + 1) : Nat) (((n + 1) / 2 : Nat) - (i + 1 : Nat))) :: rs) h →
      wpAny (model prog w) A (assign target env (.int (2 * i : Nat) t')) (fun _ s₂ => wpAny (model prog w) A (execs body env) (Flw (fun s₃ => ∃ bs' rs' h' tk' g', s₃ = { s with heap := h', toks := tk', gens := g' } ∧ P (i + 1) bs' rs' g' ∧ Cx h₀ L bs' ((I, RI (2 * (i + 1) : Nat) (((n + 1) / 2 : Nat) - (i + 1 : Nat))) :: rs') h') Q) Bot s₂) Bot { s with heap := h, toks := tk, gens := g }) ∧
    (∀ bs rs g h tk, P ((n + 1) / 2) bs rs g → Cx h₀ L bs rs h → wpAny (model prog w) A (execs rest env) Q Bot { s with heap := h, toks := tk, gens := g })
theorem letOwned_R {target : PySem.Expr} {I : Addr} {x left : Int} {v : Value} {Q : Unit → Shared → Prop} {E : Value → Shared → Prop} (hit : IsRangeIter s.heap I x left 2) (hQ : Q () s) :
    wpAny (model prog w) A (letOwnedTupleGo target (.ref I) v) Q E s := by
  unfold letOwnedTupleGo
  split
  · cases v with
    | ref a => exact wpAny_bind (wpAny_load hit (wpAny_pure hQ))
    | _ => exact wpAny_pure hQ
  · cases v with
    | ref a => exact wpAny_bind (wpAny_load hit (wpAny_pure hQ))
    | _ => exact wpAny_pure hQ
  · exact wpAny_pure hQ
theorem range2_size (n : Nat) : Builtin.Range.rangeSize 0 n 2 = ((n + 1) / 2 : Nat) := by
  unfold Builtin.Range.rangeSize
  rw [if_pos (by omega)]
  split <;> omega
theorem range2_small (n : Nat) (h : n ≤ 1000000) : Builtin.Range.small 0 n 2 = true := by
  unfold Builtin.Range.small
  rw [range2_size]
  have f : ∀ i : Int, 0 ≤ i → i ≤ 2000000 → Builtin.Range.rangeFitsLong i = true := by
    intro i h1 h2
    unfold Builtin.Range.rangeFitsLong
    simp only [Bool.and_eq_true, decide_eq_true_eq]
    constructor <;> omega
  rw [f 0 (by omega) (by omega), f n (by omega) (by omega), f 2 (by omega) (by omega), f _ (by omega) (by omega), if_pos (by omega), f _ (by omega) (by omega)]
  simp
theorem sForR {target iter : PySem.Expr} {body rest : List Stmt} {pos : Pos} (hh : A.handled = none) (hs : ∀ x, foldedSetIterable iter env x = pure x)
    (h : wpAny (model prog w) A (eval iter env) (ForR prog w A h₀ L env target body rest Q) Bot s) : wpAny (model prog w) A (execs (.For target iter body [] pos :: rest) env) Q Bot s := by
  refine sThen (wpAny_For (wpAny_mono h (fun v s₁ h₁ => ?_) fun _ _ e => e) hs)
  obtain ⟨r, n, P, bs, rs, t, u, v', rfl, hn, hr, C, hP, turn, done⟩ := h₁
  refine wpAny_pyIter_range hr (range2_small n hn) ?_
  rw [range2_size]
  have C1 := C.push ({ cls := .type "range_iterator", data := .fields #[rawInt 0, rawInt ((n + 1) / 2 : Nat), rawInt 2] } : Obj) (P := RI (2 * 0 : Nat) (((n + 1) / 2 : Nat) - (0 : Nat))) (by show _ = _; simp) rfl
  generalize hI : s₁.heap.objs.size = I at C1 ⊢
  generalize hH : s₁.heap.push ({ cls := .type "range_iterator", data := .fields #[rawInt 0, rawInt ((n + 1) / 2 : Nat), rawInt 2] } : Obj) = H at C1 ⊢
  refine codeAny_forLoop_any (fun k s' => ∃ i bs rs h' tk g, s' = { s₁ with heap := h', toks := tk, gens := g } ∧ P i bs rs g ∧ Cx h₀ L bs ((I, RI (2 * i : Nat) (((n + 1) / 2 : Nat) - (i : Nat))) :: rs) h' ∧ i ≤ (n + 1) / 2 ∧ k = (n + 1) / 2 + 1 - i) ?_ ((n + 1) / 2 + 1) ⟨0, bs, rs, H, s₁.toks, s₁.gens, rfl, hP, C1, Nat.zero_le _, rfl⟩
  rintro k s' ⟨i, bs, rs, h', tk, g, rfl, hP, C, hi, rfl⟩
  obtain ⟨o, ho, he⟩ := C.get (.head _)
  have hit : IsRangeIter h' I (2 * i : Nat) (((n + 1) / 2 : Nat) - (i : Nat)) 2 := by rw [show o = _ from he] at ho; exact ho
  by_cases hlt : i < (n + 1) / 2
  · refine wpAny_pyNext_range_item hit (by omega) fun h₂ hit₂ hsb => ?_
    have e1 : ((2 * i : Nat) : Int) + 2 = (2 * (i + 1) : Nat) := by omega
    have e2 : (((n + 1) / 2 : Nat) : Int) - (i : Nat) - 1 = (((n + 1) / 2 : Nat) : Int) - (i + 1 : Nat) := by omega
    rw [e1, e2] at hit₂
    have C2 := C.upd (P' := RI (2 * (i + 1) : Nat) (((n + 1) / 2 : Nat) - (i + 1 : Nat))) hsb.extBut ⟨_, hit₂, rfl⟩
    refine letOwned_R hit₂ (wpAny_mono (turn i bs rs g h₂ _ I _ (by omega) hP C2) (fun _ s₂ h₃ => wpAny_mono h₃ (fun f s₃ h₄ => ?_) fun _ _ e => e.elim) fun _ _ e => e.elim)
    have fin : (∃ bs' rs' h' tk' g', s₃ = { s₁ with heap := h', toks := tk', gens := g' } ∧ P (i + 1) bs' rs' g' ∧ Cx h₀ L bs' ((I, RI (2 * (i + 1) : Nat) (((n + 1) / 2 : Nat) - (i + 1 : Nat))) :: rs') h') → ∃ m, m < (n + 1) / 2 + 1 - i ∧ ∃ i bs rs h' tk g, s₃ = { s₁ with heap := h', toks := tk, gens := g } ∧ P i bs rs g ∧ Cx h₀ L bs ((I, RI (2 * i : Nat) (((n + 1) / 2 : Nat) - (i : Nat))) :: rs) h' ∧ i ≤ (n + 1) / 2 ∧ m = (n + 1) / 2 + 1 - i := by
      rintro ⟨bs', rs', h', tk', g', e, p', c'⟩
      exact ⟨(n + 1) / 2 + 1 - (i + 1), by omega, i + 1, bs', rs', h', tk', g', e, p', c', hlt, rfl⟩
    cases f with
    | next => exact fin h₄
    | cont => exact fin h₄
    | brk => exact h₄.elim
    | ret v => exact h₄
  · have hin : i = (n + 1) / 2 := by omega
    subst hin
    refine wpAny_pyNext_range_end hh hit (by omega) fun h₂ hsb => ?_
    exact wpAny_execs_nil (done bs rs g h₂ tk hP (C.lost hsb))
end
end Mine
end

section
set_option maxRecDepth 100000
set_option linter.unusedVariables false
namespace Mine
open PySem

def GoodW (w : List Nat) : Prop := w ≠ [] ∧ ∀ c ∈ w, Unicode.isSpace c = false
def GoodR (ws : List (List Nat)) : Prop := ws ≠ [] ∧ ∀ w ∈ ws, GoodW w
/-- a page of rows of words behind a prefix -/
def pg (pre : List Nat) (rows : List (List (List Nat))) : List Nat := rows.flatMap fun ws => pre ++ jn [32] ws ++ [10]
def rowT (pre : List Nat) (ws : List (List Nat)) : List Nat := pre ++ jn [32] ws

theorem pg_jn (pre : List Nat) : ∀ rows : List (List (List Nat)), pg pre rows = jn [10] (rows.map (rowT pre) ++ [[]])
  | [] => rfl
  | ws :: r => by
    have ih := pg_jn pre r
    show (pre ++ jn [32] ws ++ [10]) ++ pg pre r = _
    rw [ih, List.map_cons, List.cons_append, jn_cons [10] _ (by simp)]
    rfl
theorem pg_append (pre : List Nat) (a b : List (List (List Nat))) : pg pre (a ++ b) = pg pre a ++ pg pre b := by simp [pg]
theorem jn_mem {c : Nat} {sep : List Nat} : ∀ {ws : List (List Nat)}, c ∈ jn sep ws → c ∈ sep ∨ ∃ w ∈ ws, c ∈ w
  | [], h => by cases h
  | [x], h => .inr ⟨x, .head _, h⟩
  | x :: y :: r, h => by
    have h' : c ∈ x ++ sep ++ jn sep (y :: r) := h
    rcases List.mem_append.mp h' with h' | h'
    · rcases List.mem_append.mp h' with h' | h'
      · exact .inr ⟨x, .head _, h'⟩
      · exact .inl h'
    · rcases jn_mem h' with h' | ⟨w, hw, hc⟩
      · exact .inl h'
      · exact .inr ⟨w, .tail _ hw, hc⟩
theorem goodR_mem {ws : List (List Nat)} (g : GoodR ws) {c : Nat} (h : c ∈ jn [32] ws) : c = 32 ∨ Unicode.isSpace c = false := by
  rcases jn_mem h with h | ⟨w, hw, hc⟩
  · exact .inl (by simpa using h)
  · exact .inr ((g.2 w hw).2 c hc)
theorem row_no {pre : List Nat} {ws : List (List Nat)} {k : Nat} (g : GoodR ws) (hp : k ∉ pre) (hk : k ≠ 32) (hs : Unicode.isSpace k = true) : k ∉ rowT pre ws := by
  intro h
  rcases List.mem_append.mp h with h | h
  · exact hp h
  · rcases goodR_mem g h with h | h
    · exact hk h
    · rw [hs] at h; cases h
theorem jn_head {ws : List (List Nat)} (g : GoodR ws) : ∃ c r, jn [32] ws = c :: r ∧ Unicode.isSpace c = false := by
  obtain ⟨hne, hw⟩ := g
  cases ws with
  | nil => exact absurd rfl hne
  | cons w r =>
    obtain ⟨h1, h2⟩ := hw w (.head _)
    cases w with
    | nil => exact absurd rfl h1
    | cons c w =>
      cases r with
      | nil => exact ⟨c, w, rfl, h2 c (.head _)⟩
      | cons y r => exact ⟨c, _, rfl, h2 c (.head _)⟩
theorem white_row {pre : List Nat} {ws : List (List Nat)} (g : GoodR ws) : allWhite (rowT pre ws) = false := by
  obtain ⟨c, r, e, h⟩ := jn_head g
  unfold allWhite rowT
  rw [e, List.all_append, List.all_cons, h]
  simp
theorem notBlank {c : Nat} (h : Unicode.isSpace c = false) : isBlank c = false := by
  unfold isBlank
  rw [Bool.or_eq_false_iff]
  constructor
  · rw [beq_eq_false_iff_ne]; rintro rfl; revert h; decide
  · rw [beq_eq_false_iff_ne]; rintro rfl; revert h; decide
theorem indent_row {pre : List Nat} {ws : List (List Nat)} (g : GoodR ws) (hp : pre.all isBlank = true) : (rowT pre ws).takeWhile isBlank = pre := by
  obtain ⟨c, r, e, h⟩ := jn_head g
  unfold rowT
  rw [e, List.takeWhile_append_of_pos (by simpa using hp), List.takeWhile_cons, notBlank h]
  simp

/-- words with one blank between -/
def weave : List (List Nat) → List (List Nat)
  | [] => []
  | [x] => [x]
  | x :: y :: r => x :: [32] :: weave (y :: r)
theorem weave_len : ∀ es : List (List Nat), es ≠ [] → (weave es).length + 1 = 2 * es.length
  | [], h => absurd rfl h
  | [x], _ => rfl
  | x :: y :: r, _ => by
    have := weave_len (y :: r) (by simp)
    simp only [weave, List.length_cons] at this ⊢
    omega
theorem weave_even : ∀ (es : List (List Nat)) (i : Nat), (weave es)[2 * i]? = es[i]?
  | [], i => by simp [weave]
  | [x], 0 => rfl
  | [x], i + 1 => by simp [weave]
  | x :: y :: r, 0 => rfl
  | x :: y :: r, i + 1 => by
    have := weave_even (y :: r) i
    rw [show 2 * (i + 1) = 2 * i + 1 + 1 by omega]
    simp only [weave, List.getElem?_cons_succ]
    exact this
theorem weave_odd : ∀ (es : List (List Nat)) (i : Nat), i + 1 < es.length → (weave es)[2 * i + 1]? = some [32]
  | [], i, h => by simp at h
  | [x], i, h => by simp at h
  | x :: y :: r, 0, _ => rfl
  | x :: y :: r, i + 1, h => by
    have := weave_odd (y :: r) i (by simpa using h)
    rw [show 2 * (i + 1) + 1 = 2 * i + 1 + 1 + 1 by omega]
    simp only [weave, List.getElem?_cons_succ]
    exact this
theorem nsp_good {w : List Nat} (g : ∀ c ∈ w, Unicode.isSpace c = false) : w.all nsp = true := by
  rw [List.all_eq_true]; intro c hc; simp [nsp, g c hc]
theorem splitW_word {w : List Nat} (g : ∀ c ∈ w, Unicode.isSpace c = false) : splitW w = [w] := by
  apply splitW_nil
  have := List.takeWhile_append_dropWhile (p := nsp) (l := w)
  rw [takeWhile_all (nsp_good g)] at this
  simpa using this
theorem splitW_step {w rest : List Nat} {c : Nat} (g : ∀ c ∈ w, Unicode.isSpace c = false) (hc : Unicode.isSpace c = false) : splitW (w ++ 32 :: c :: rest) = w :: [32] :: splitW (c :: rest) := by
  have e1 : (w ++ 32 :: c :: rest).dropWhile nsp = 32 :: c :: rest := by
    rw [List.dropWhile_append_of_pos (by simpa using nsp_good g)]
    rfl
  have e2 : (w ++ 32 :: c :: rest).takeWhile nsp = w := by
    rw [List.takeWhile_append_of_pos (by simpa using nsp_good g)]
    have : (32 :: c :: rest).takeWhile nsp = [] := rfl
    rw [this, List.append_nil]
  rw [splitW_cons (by rw [e1]; simp), e1, e2]
  have e3 : (32 :: c :: rest).takeWhile Unicode.isSpace = [32] := by
    rw [List.takeWhile_cons, if_pos (by decide), List.takeWhile_cons, hc]; simp
  have e4 : (32 :: c :: rest).dropWhile Unicode.isSpace = c :: rest := by
    rw [List.dropWhile_cons, if_pos (by decide), List.dropWhile_cons, hc]; simp
  rw [e3, e4]
theorem splitW_jn : ∀ {ws : List (List Nat)}, GoodR ws → splitW (jn [32] ws) = weave ws
  | [], g => absurd rfl g.1
  | [w], g => by exact splitW_word (g.2 w (.head _)).2
  | w :: y :: r, g => by
    have g' : GoodR (y :: r) := ⟨by simp, fun v hv => g.2 v (.tail _ hv)⟩
    obtain ⟨c, rest, e, hc⟩ := jn_head g'
    show splitW (w ++ [32] ++ jn [32] (y :: r)) = _
    rw [e, List.append_assoc]
    show splitW (w ++ 32 :: c :: rest) = _
    rw [splitW_step (g.2 w (.head _)).2 hc, ← e, splitW_jn g']
    rfl
/-- what stands at the even places -/
def evens (pre : List Nat) (ws : List (List Nat)) : List (List Nat) := if pre = [] then ws else [] :: ws
theorem splitW_row {pre : List Nat} {ws : List (List Nat)} (g : GoodR ws) (hp : pre = [] ∨ pre = [32]) : splitW (rowT pre ws) = weave (evens pre ws) := by
  rcases hp with rfl | rfl
  · exact splitW_jn g
  · obtain ⟨c, rest, e, hc⟩ := jn_head g
    show splitW ([32] ++ jn [32] ws) = weave ([] :: ws)
    rw [e]
    show splitW ([] ++ 32 :: c :: rest) = _
    rw [splitW_step (by simp) hc, ← e, splitW_jn g]
    cases ws with
    | nil => exact absurd rfl g.1
    | cons w r => rfl

/-- a row as it grows -/
def part (pre : List Nat) (cur : List (List Nat)) : List Nat := pre ++ cur.flatMap fun w => w ++ [32]
theorem part_snoc (pre : List Nat) (cur : List (List Nat)) (w : List Nat) : part pre (cur ++ [w]) = part pre cur ++ w ++ [32] := by simp [part]
theorem part_jn (pre : List Nat) : ∀ cur : List (List Nat), cur ≠ [] → part pre cur = pre ++ jn [32] cur ++ [32] := by
  have key : ∀ cur : List (List Nat), cur ≠ [] → (cur.flatMap fun w => w ++ [32]) = jn [32] cur ++ [32] := by
    intro cur
    induction cur with
    | nil => intro h; exact absurd rfl h
    | cons x r ih =>
      intro _
      cases r with
      | nil => simp [jn]
      | cons y r =>
        rw [List.flatMap_cons, ih (by simp), jn_cons [32] x (by simp)]
        simp
  intro cur h
  unfold part
  rw [key cur h, List.append_assoc]
theorem jn_last : ∀ {ws : List (List Nat)}, GoodR ws → ∃ a c, jn [32] ws = a ++ [c] ∧ Unicode.isSpace c = false
  | [], g => absurd rfl g.1
  | [w], g => by
    obtain ⟨h1, h2⟩ := g.2 w (.head _)
    refine ⟨w.dropLast, w.getLast h1, ?_, h2 _ (List.getLast_mem h1)⟩
    exact (List.dropLast_concat_getLast h1).symm
  | w :: y :: r, g => by
    have g' : GoodR (y :: r) := ⟨by simp, fun v hv => g.2 v (.tail _ hv)⟩
    obtain ⟨a, c, e, hc⟩ := jn_last g'
    refine ⟨w ++ [32] ++ a, c, ?_, hc⟩
    show w ++ [32] ++ jn [32] (y :: r) = _
    rw [e]; simp
theorem rstr_part {pre : List Nat} {cur : List (List Nat)} (g : GoodR cur) : rstr (part pre cur) = rowT pre cur := by
  rw [part_jn pre cur g.1]
  obtain ⟨a, c, e, hc⟩ := jn_last g
  rw [rowT, e, ← List.append_assoc]
  exact rstr_word (pre ++ a) c hc

abbrev Grp := List (List (List Nat)) × List (List Nat)
/-- one word more -/
def stepG (lim : Int) (pre : List Nat) (st : Grp) (w : List Nat) : Grp :=
  if st.2 ≠ [] ∧ lim < ((part pre st.2).length + w.length : Nat) then (st.1 ++ [st.2], [w]) else (st.1, st.2 ++ [w])
def foldG (lim : Int) (pre : List Nat) (st : Grp) (ws : List (List Nat)) : Grp := ws.foldl (stepG lim pre) st
def groups (lim : Int) (pre : List Nat) (ws : List (List Nat)) : List (List (List Nat)) := (foldG lim pre ([], []) ws).1 ++ [(foldG lim pre ([], []) ws).2]
theorem part_ne {pre : List Nat} {cur : List (List Nat)} : (part pre cur != pre) = !cur.isEmpty := by
  cases cur with
  | nil => simp [part]
  | cons w r =>
    have : part pre (w :: r) ≠ pre := by
      intro h
      have := congrArg List.length h
      simp [part] at this
    simpa using this
end Mine
end

section
set_option maxRecDepth 100000
set_option linter.unusedVariables false
namespace Mine
open PySem

def wsum (ws : List (List Nat)) : Nat := (ws.map fun w => w.length + 1).sum
theorem wsum_append (a b : List (List Nat)) : wsum (a ++ b) = wsum a + wsum b := by simp [wsum]
theorem part_len (pre : List Nat) (cur : List (List Nat)) : (part pre cur).length = pre.length + wsum cur := by
  unfold part wsum
  rw [List.length_append, List.length_flatMap]
  simp
theorem jn_len : ∀ {ws : List (List Nat)}, ws ≠ [] → (jn [32] ws).length + 1 = wsum ws
  | [], h => absurd rfl h
  | [w], _ => by simp [jn, wsum]
  | w :: y :: r, _ => by
    have := jn_len (ws := y :: r) (by simp)
    show (w ++ [32] ++ jn [32] (y :: r)).length + 1 = _
    simp only [List.length_append, List.length_cons, List.length_nil, wsum, List.map_cons, List.sum_cons] at this ⊢
    omega
theorem pg_len_ge (pre : List Nat) : ∀ {rows : List (List (List Nat))}, (∀ ws ∈ rows, GoodR ws) → wsum rows.flatten ≤ (pg pre rows).length
  | [], _ => by simp [wsum]
  | ws :: r, h => by
    have ih := pg_len_ge pre (rows := r) fun ws hw => h ws (.tail _ hw)
    have := jn_len (h ws (.head _)).1
    rw [List.flatten_cons, wsum_append]
    show _ ≤ ((pre ++ jn [32] ws ++ [10]) ++ pg pre r).length
    simp only [List.length_append, List.length_cons, List.length_nil]
    omega
theorem pg_row_le (pre : List Nat) {rows : List (List (List Nat))} {ws : List (List Nat)} (h : ws ∈ rows) : (rowT pre ws).length ≤ (pg pre rows).length := by
  induction rows with
  | nil => cases h
  | cons a r ih =>
    show _ ≤ ((pre ++ jn [32] a ++ [10]) ++ pg pre r).length
    rcases List.mem_cons.mp h with rfl | h
    · simp [rowT]
    · have := ih h
      simp only [List.length_append]; omega
theorem pg_count (pre : List Nat) (rows : List (List (List Nat))) : rows.length ≤ (pg pre rows).length := by
  induction rows with
  | nil => simp
  | cons a r ih =>
    show _ ≤ ((pre ++ jn [32] a ++ [10]) ++ pg pre r).length
    simp only [List.length_append, List.length_cons, List.length_nil]; omega

theorem foldG_snoc (lim : Int) (pre : List Nat) (st : Grp) (ws : List (List Nat)) (w : List Nat) : foldG lim pre st (ws ++ [w]) = stepG lim pre (foldG lim pre st ws) w := by simp [foldG]
theorem foldG_append (lim : Int) (pre : List Nat) (st : Grp) (a b : List (List Nat)) : foldG lim pre st (a ++ b) = foldG lim pre (foldG lim pre st a) b := by simp [foldG]
theorem stepG_flat (lim : Int) (pre : List Nat) (st : Grp) (w : List Nat) : (stepG lim pre st w).1.flatten ++ (stepG lim pre st w).2 = st.1.flatten ++ st.2 ++ [w] := by
  unfold stepG
  split <;> simp
theorem foldG_flat (lim : Int) (pre : List Nat) : ∀ (ws : List (List Nat)) (st : Grp), (foldG lim pre st ws).1.flatten ++ (foldG lim pre st ws).2 = st.1.flatten ++ st.2 ++ ws
  | [], st => by simp [foldG]
  | w :: r, st => by
    show (foldG lim pre (stepG lim pre st w) r).1.flatten ++ (foldG lim pre (stepG lim pre st w) r).2 = _
    rw [foldG_flat lim pre r, stepG_flat]; simp
/-- the groups made so far are good -/
def GoodG (st : Grp) : Prop := (∀ g ∈ st.1, GoodR g) ∧ ∀ w ∈ st.2, GoodW w
theorem stepG_good {lim : Int} {pre : List Nat} {st : Grp} {w : List Nat} (g : GoodG st) (gw : GoodW w) : GoodG (stepG lim pre st w) ∧ (stepG lim pre st w).2 ≠ [] := by
  unfold stepG
  split
  · rename_i h
    refine ⟨⟨fun x hx => ?_, fun v hv => ?_⟩, by simp⟩
    · rcases List.mem_append.mp hx with hx | hx
      · exact g.1 x hx
      · rw [List.mem_singleton.mp hx]; exact ⟨h.1, g.2⟩
    · rw [List.mem_singleton.mp hv]; exact gw
  · refine ⟨⟨g.1, fun v hv => ?_⟩, by simp⟩
    rcases List.mem_append.mp hv with hv | hv
    · exact g.2 v hv
    · rw [List.mem_singleton.mp hv]; exact gw
theorem foldG_good {lim : Int} {pre : List Nat} : ∀ {ws : List (List Nat)} {st : Grp}, GoodG st → (∀ w ∈ ws, GoodW w) → GoodG (foldG lim pre st ws) ∧ (ws ≠ [] ∨ st.2 ≠ [] → (foldG lim pre st ws).2 ≠ [])
  | [], st, g, _ => ⟨g, fun h => h.elim (fun h => absurd rfl h) id⟩
  | w :: r, st, g, h => by
    have s1 := stepG_good (lim := lim) (pre := pre) g (h w (.head _))
    have ih := foldG_good (lim := lim) (pre := pre) (ws := r) s1.1 fun v hv => h v (.tail _ hv)
    exact ⟨ih.1, fun _ => ih.2 (.inr s1.2)⟩
theorem goodG_nil : GoodG ([], []) := ⟨by simp, by simp⟩
theorem foldG_cur_len (lim : Int) (pre : List Nat) (ws : List (List Nat)) : wsum (foldG lim pre ([], []) ws).2 ≤ wsum ws := by
  have := congrArg wsum (foldG_flat lim pre ws ([], []))
  rw [wsum_append] at this
  simp at this
  omega
theorem foldG_out_len (lim : Int) (pre : List Nat) (ws : List (List Nat)) (g : ∀ w ∈ ws, GoodW w) : (foldG lim pre ([], []) ws).1.length ≤ wsum ws := by
  have h1 := congrArg wsum (foldG_flat lim pre ws ([], []))
  rw [wsum_append] at h1
  simp at h1
  have key : ∀ gs : List (List (List Nat)), (∀ x ∈ gs, GoodR x) → gs.length ≤ wsum gs.flatten := by
    intro gs
    induction gs with
    | nil => intro _; simp
    | cons a r ih =>
      intro h
      have := ih fun x hx => h x (.tail _ hx)
      rw [List.flatten_cons, wsum_append, List.length_cons]
      have ha := jn_len (h a (.head _)).1
      omega
  have := key _ (foldG_good (lim := lim) (pre := pre) goodG_nil g).1.1
  omega
/-- words of a row, one by one, the empty ones left out -/
theorem evens_filter {pre : List Nat} {ws : List (List Nat)} (g : GoodR ws) : (evens pre ws).filter (fun w => !w.isEmpty) = ws := by
  have key : ws.filter (fun w => !w.isEmpty) = ws := by
    rw [List.filter_eq_self]
    intro w hw
    have := (g.2 w hw).1
    cases w with
    | nil => exact absurd rfl this
    | cons a r => rfl
  unfold evens
  split
  · exact key
  · simpa using key
theorem evens_ne {pre : List Nat} {ws : List (List Nat)} (g : GoodR ws) : evens pre ws ≠ [] := by
  unfold evens
  split
  · exact g.1
  · simp
theorem evens_good {pre : List Nat} {ws : List (List Nat)} (g : GoodR ws) : ∀ w ∈ evens pre ws, w = [] ∨ GoodW w := by
  unfold evens
  split
  · intro w hw; exact .inr (g.2 w hw)
  · intro w hw
    rcases List.mem_cons.mp hw with rfl | hw
    · exact .inl rfl
    · exact .inr (g.2 w hw)
theorem pg_len (pre : List Nat) : ∀ {rows : List (List (List Nat))}, (∀ ws ∈ rows, ws ≠ []) → (pg pre rows).length = rows.length * pre.length + wsum rows.flatten
  | [], _ => by simp [wsum, pg]
  | ws :: r, h => by
    have ih := pg_len pre (rows := r) fun ws hw => h ws (.tail _ hw)
    have := jn_len (h ws (.head _))
    rw [List.flatten_cons, wsum_append]
    show ((pre ++ jn [32] ws ++ [10]) ++ pg pre r).length = _
    simp only [List.length_append, List.length_cons, List.length_nil, Nat.succ_mul] at ih ⊢
    omega
theorem pg_join (pre : List Nat) (rows : List (List (List Nat))) : ((rows.map (rowT pre) ++ [[]]).map fun x : List Nat => x.length).sum + (rows.map (rowT pre) ++ [[]]).length = (pg pre rows).length + 1 := by
  induction rows with
  | nil => simp [pg]
  | cons ws r ih =>
    show _ = ((pre ++ jn [32] ws ++ [10]) ++ pg pre r).length + 1
    simp only [List.map_cons, List.cons_append, List.sum_cons, List.length_cons, List.length_append, List.length_nil, rowT] at ih ⊢
    omega
theorem groups_flat (lim : Int) (pre : List Nat) (ws : List (List Nat)) : (groups lim pre ws).flatten = ws := by
  have := foldG_flat lim pre ws ([], [])
  unfold groups
  simpa using this
theorem groups_good {lim : Int} {pre : List Nat} {ws : List (List Nat)} (hne : ws ≠ []) (g : ∀ w ∈ ws, GoodW w) : ∀ x ∈ groups lim pre ws, GoodR x := by
  have h := foldG_good (lim := lim) (pre := pre) goodG_nil g
  intro x hx
  rcases List.mem_append.mp hx with hx | hx
  · exact h.1.1 x hx
  · rw [List.mem_singleton.mp hx]
    exact ⟨h.2 (.inl hne), h.1.2⟩
theorem groups_len (lim : Int) (pre : List Nat) (ws : List (List Nat)) (g : ∀ w ∈ ws, GoodW w) : (groups lim pre ws).length ≤ wsum ws + 1 := by
  have := foldG_out_len lim pre ws g
  unfold groups
  simp
  omega
theorem groups_pg (lim : Int) (pre : List Nat) (ws : List (List Nat)) (hne : ws ≠ []) (g : ∀ w ∈ ws, GoodW w) (hp : pre.length ≤ 1) : (pg pre (groups lim pre ws)).length ≤ 2 * wsum ws + 1 := by
  rw [pg_len pre fun x hx => (groups_good hne g x hx).1, groups_flat]
  have h1 := groups_len lim pre ws g
  have h2 : (groups lim pre ws).length * pre.length ≤ (groups lim pre ws).length * 1 := Nat.mul_le_mul_left _ hp
  omega
theorem evens_len (pre : List Nat) (ws : List (List Nat)) : (evens pre ws).length ≤ wsum ws + 1 := by
  have : ws.length ≤ wsum ws := by
    induction ws with
    | nil => simp
    | cons a r ih => simp only [wsum, List.map_cons, List.sum_cons, List.length_cons] at ih ⊢; omega
  unfold evens
  split
  · omega
  · simp; omega
theorem part_no9 {pre : List Nat} {cur : List (List Nat)} (hp : 9 ∉ pre) (g : ∀ w ∈ cur, GoodW w) : 9 ∉ part pre cur := by
  intro h
  rcases List.mem_append.mp h with h | h
  · exact hp h
  · obtain ⟨w, hw, hc⟩ := List.mem_flatMap.mp h
    rcases List.mem_append.mp hc with hc | hc
    · have := (g w hw).2 9 hc; revert this; decide
    · simp at hc
theorem good_no9 {w : List Nat} (g : GoodW w) : 9 ∉ w := fun h => by have := g.2 9 h; revert this; decide
end Mine
end

section
set_option maxRecDepth 100000
set_option linter.unusedVariables false
namespace Mine
open PySem PySem.W PySem.Calls PyProof.Rows

theorem strs_at {vs : List Value} {ls : List (List Nat)} (hv : StrsAre vs (ls.map S)) {i : Nat} {x : List Nat} (e : ls[i]? = some x) : ∃ t, vs[i]? = some (.str (S x) t) :=
  hv.get i (S x) (by rw [List.getElem?_map, e]; rfl)
noncomputable def fnBody (w : World) (a : Addr) : List Stmt := ((hd.heap_39 w.params).lookup a).elim [] fun o => match o.data with | .func fd => (match fd.body with | .stmts b => b | _ => []) | _ => []
noncomputable def fnScope (w : World) (a : Addr) : Scope := ((hd.heap_39 w.params).lookup a).elim { kind := .function, names := [], isGenerator := false, isCoroutine := false, more := [] } fun o => match o.data with | .func fd => fd.scope | _ => { kind := .function, names := [], isGenerator := false, isCoroutine := false, more := [] }

section
variable {prog : Program} {w : World} {A : Around} {s : Shared} {mg mb : Str → Option Value} {n : Nat} {Q : Flow → Shared → Prop}
set_option maxHeartbeats 4000000 in
theorem para_tail {h : Heap} {L : Addr} {tk : Nat} {body : List Stmt} {scope : Scope} {ind : List Nat} {rows : List (List (List Nat))} {lines : List (List Nat)} {lim : Int} {u t4 t5 t7 t15 t16 : Tok} {ll nl : Addr} {lvs : List Value}
    (hb : body = (fnBody w 58).drop 9) (hsc : scope = fnScope w 58)
    (G : Gl w mg mb s.heap) (R : Room A (n + 1)) (hi : ind = [] ∨ ind = [32]) (hg : ∀ ws ∈ rows, GoodR ws) (hsz : (pg ind rows).length ≤ 100000) (hpos : 0 < rows.length)
    (hlv : StrsAre lvs (lines.map S)) (hrow : ∀ i (h : i < rows.length), lines[i]? = some (rowT ind rows[i])) (hlast : lines[rows.length]? = some []) (hlen : lines.length = rows.length + 1)
    (C : Cx s.heap L [(Str.ofString "limit", .int lim u), (Str.ofString "lines", .ref ll), (Str.ofString "i", .int 0 t4), (Str.ofString "n", .int (rows.length + 1 : Nat) t5), (Str.ofString "indent1", .str (S ind) t7), (Str.ofString "indent2", .str (S ind) t15), (Str.ofString "new", .ref nl), (Str.ofString "partial", .str (S ind) t16)] [(nl, PL []), (ll, PL lvs)] h)
    (q : ∀ h' t' tk, Kp s.heap h' → Q (.ret (.str (S (pg ind (groups lim ind rows.flatten))) t')) { s with heap := h', toks := tk }) :
    wpAny (model prog w) A (execs body (envOf (Str.ofString "reformat_paragraph") scope L 58 (.ref 57))) Q Bot { s with heap := h, toks := tk } := by
  conv at hb => rhs; whnf
  conv at hsc => rhs; whnf
  subst hb hsc
  have hcnt : rows.length ≤ 100000 := Nat.le_trans (pg_count ind rows) hsz
  have hgi : ∀ i (h : i < rows.length), GoodR rows[i] := fun i h => hg _ (List.getElem_mem h)
  have hrl : ∀ i (h : i < rows.length), (rowT ind rows[i]).length ≤ 100000 := fun i h => Nat.le_trans (pg_row_le ind (List.getElem_mem h)) hsz
  have hgw : ∀ w ∈ rows.flatten, GoodW w := fun v hv => by
    obtain ⟨ws, hw, hv⟩ := List.mem_flatten.mp hv
    exact (hg ws hw).2 v hv
  have hws : wsum rows.flatten ≤ 100000 := Nat.le_trans (pg_len_ge ind hg) hsz
  refine sWhile (fun k s' => ∃ r h' tk' t t' nvs, k = rows.length - r ∧ r ≤ rows.length ∧ s' = { s with heap := h', toks := tk' } ∧ StrsAre nvs (((foldG lim ind ([], []) (rows.take r).flatten).1.map (rowT ind)).map S) ∧
      Cx s.heap L [(Str.ofString "limit", .int lim u), (Str.ofString "lines", .ref ll), (Str.ofString "i", .int r t), (Str.ofString "n", .int (rows.length + 1 : Nat) t5), (Str.ofString "indent1", .str (S ind) t7), (Str.ofString "indent2", .str (S ind) t15), (Str.ofString "new", .ref nl), (Str.ofString "partial", .str (S (part ind (foldG lim ind ([], []) (rows.take r).flatten).2)) t')] [(nl, PL nvs), (ll, PL lvs)] h') rows.length ⟨0, h, tk, t4, t16, [], rfl, Nat.zero_le _, rfl, .nil, by simpa [foldG, part] using C⟩ ?_
  rintro k s' ⟨r, h1, tk1, t1, t1', nvs, rfl, hr, rfl, hnv, C⟩
  refine isTrue_and (wpAny_isTrue_Compare1 (nmL C rfl rfl rfl rfl (nmL C rfl rfl rfl rfl (P.lt_int (wpAny_truthy_bool ?_)))))
  refine br (fun _ => ?_) (fun h => absurd h (by simp; omega))
  refine isTrue_and (isTrue_not (isTrue_plain ?_ rfl))
  refine callF1 (f := 72) (mg := mg) (mb := mb) rfl rfl rfl (nmG C G (v := .ref 72) rfl rfl rfl rfl ⟨rfl, ?_⟩)
  refine Subscript_ (nmL C rfl rfl rfl rfl (nmL C rfl rfl rfl rfl ?_))
  by_cases hlt : r < rows.length
  · obtain ⟨tB, hB⟩ := strs_at hlv (hrow r hlt)
    refine idx_L (C.lat (.tail _ (.head _))) (by omega) hB (by with_unfolding_all rfl) ?_
    refine ⟨G.keeps C.keep, white_call (G.keeps C.keep) R (white_row (hgi r hlt)) (Nat.le_trans (hrl r hlt) (by omega)) fun h2 tk2 k2 => ?_⟩
    replace C := C.keeps k2
    refine wpAny_truthy_bool (br (fun _ => isTrue_and_nil (br (fun _ => ?_) (fun h => nomatch h))) (fun h => nomatch h))
    -- words = split
    refine sAssign rfl (meth1 rfl rfl rfl plain_pat slot_pat_split type_pat_split ?_)
    refine nmG C G (v := .ref 41) rfl rfl rfl rfl ?_
    have P2 := G.pat2.keeps C.keep
    refine ⟨⟨P2.typeIs, P2.noDict⟩, ?_⟩
    refine Subscript_ (nmL C rfl rfl rfl rfl (nmL C rfl rfl rfl rfl (idx_L (C.lat (.tail _ (.head _))) (by omega) hB (by with_unfolding_all rfl) ?_)))
    refine call_split P2 (by rw [S_cps]; have := hrl r hlt; simp; omega) ?_
    intro wl wvs h3 tk3 hwl hwv k3 hwn
    rw [S_list, splitW_row (hgi r hlt) hi] at hwv
    replace C := C.adopt k3 hwn hwl (P := PL wvs) ⟨_, rfl⟩
    refine stL C rfl rfl fun h4 tk4 C => ?_
    replace C := (C.swap).re (bs' := [(Str.ofString "limit", .int lim u), (Str.ofString "lines", .ref ll), (Str.ofString "i", .int r t1), (Str.ofString "n", .int (rows.length + 1 : Nat) t5), (Str.ofString "indent1", .str (S ind) t7), (Str.ofString "indent2", .str (S ind) t15), (Str.ofString "new", .ref nl), (Str.ofString "partial", .str (S (part ind (foldG lim ind ([], []) (rows.take r).flatten).2)) t1'), (Str.ofString "words", .ref wl)]) ⟨rfl, rfl, rfl, rfl, rfl, rfl, rfl, rfl, rfl, trivial⟩
    generalize hst0 : foldG lim ind ([], []) (rows.take r).flatten = st0 at C hnv
    have hes := evens_ne (pre := ind) (hgi r hlt)
    have hef := evens_filter (pre := ind) (hgi r hlt)
    have heg := evens_good (pre := ind) (hgi r hlt)
    have hel : (evens ind rows[r]).length ≤ 100002 := by
      have e1 := evens_len ind rows[r]
      have e2 := jn_len (hgi r hlt).1
      have e3 := hrl r hlt
      rw [rowT, List.length_append] at e3
      omega
    generalize hE : evens ind rows[r] = es at hwv hes hef heg hel
    have hwlen : wvs.length + 1 = 2 * es.length := by rw [hwv.length, List.length_map]; exact weave_len es hes
    -- the words so far
    have hflat : ∀ i, i ≤ es.length → foldG lim ind st0 ((es.take i).filter fun w => !w.isEmpty) = foldG lim ind ([], []) ((rows.take r).flatten ++ (es.take i).filter fun w => !w.isEmpty) := by
      intro i _; rw [foldG_append, hst0]
    have hsub : ∀ i, wsum ((rows.take r).flatten ++ (es.take i).filter fun w => !w.isEmpty) ≤ 100000 := by
      intro i
      have e1 : rows.flatten = (rows.take r).flatten ++ (rows[r] ++ (rows.drop (r + 1)).flatten) := by
        conv => lhs; rw [← List.take_append_drop r rows, List.flatten_append, List.drop_eq_getElem_cons hlt, List.flatten_cons]
      have e2 : wsum rows[r] = wsum ((es.take i).filter fun w => !w.isEmpty) + wsum ((es.drop i).filter fun w => !w.isEmpty) := by
        rw [← wsum_append, ← List.filter_append, List.take_append_drop, hef]
      rw [e1, wsum_append, wsum_append, e2] at hws
      rw [wsum_append]; omega
    have hgood : ∀ i, ∀ v ∈ (rows.take r).flatten ++ (es.take i).filter (fun w => !w.isEmpty), GoodW v := by
      intro i v hv
      rcases List.mem_append.mp hv with hv | hv
      · obtain ⟨ws, hw, hv⟩ := List.mem_flatten.mp hv
        exact (hg ws (List.mem_of_mem_take hw)).2 v hv
      · obtain ⟨hv1, hv2⟩ := List.mem_filter.mp hv
        rcases heg v (List.mem_of_mem_take hv1) with rfl | h
        · simp at hv2
        · exact h
    refine sForR (h₀ := s.heap) (L := L) R.hh (by intro _; rfl) ?_
    refine callT3 (T := "range") rfl (nmB C G rfl rfl (by decide) rfl rfl rfl ⟨rfl, ?_⟩)
    refine constI fun ta tka => callB1 (id := "len") rfl (nmB C G rfl rfl (by decide) rfl rfl rfl ⟨rfl, ?_⟩)
    refine nmL C rfl rfl rfl rfl (len_L (C.lat (.tail _ (.head _))) (by omega) fun tb tkb => constI fun tc tkc => ?_)
    refine call_range_3 (by decide) ?_ (Or.inl (PyProof.noPylong_small (by omega)))
    refine ⟨_, wvs.length, fun i bs rs g => ∃ t' nvs', bs = [(Str.ofString "limit", .int lim u), (Str.ofString "lines", .ref ll), (Str.ofString "i", .int r t1), (Str.ofString "n", .int (rows.length + 1 : Nat) t5), (Str.ofString "indent1", .str (S ind) t7), (Str.ofString "indent2", .str (S ind) t15), (Str.ofString "new", .ref nl), (Str.ofString "partial", .str (S (part ind (foldG lim ind st0 ((es.take i).filter fun w => !w.isEmpty)).2)) t'), (Str.ofString "words", .ref wl)] ∧
      rs = [(nl, PL nvs'), (wl, PL wvs), (ll, PL lvs)] ∧ StrsAre nvs' (((foldG lim ind st0 ((es.take i).filter fun w => !w.isEmpty)).1.map (rowT ind)).map S) ∧ g = s.gens, _, _, ta, tb, tc, rfl, by omega, IsRange.new .., C.keeps (Kp.push _ _), ⟨t1', nvs, by simp [foldG], rfl, by simpa [foldG] using hnv, rfl⟩, ?_, ?_⟩
    · rintro i bs rs g h5 tk5 I tj hi2 ⟨tp, nvs', rfl, rfl, hnv', rfl⟩ C
      have hil : i < es.length := by omega
      have hei : es[i]? = some es[i] := List.getElem?_eq_getElem hil
      have htk : es.take (i + 1) = es.take i ++ [es[i]] := by rw [List.take_add_one, hei]; rfl
      obtain ⟨tw, hW⟩ := strs_at hwv (i := 2 * i) (x := es[i]) (by rw [weave_even]; exact hei)
      have hsti := hflat i (by omega)
      have hcl := foldG_cur_len lim ind ((rows.take r).flatten ++ (es.take i).filter fun w => !w.isEmpty)
      have hol := foldG_out_len lim ind _ (hgood i)
      have hfg := (foldG_good (lim := lim) (pre := ind) goodG_nil (hgood i)).1
      have hs1 := hsub i
      rw [← hsti] at hcl hol hfg
      have hnext : foldG lim ind st0 ((es.take (i + 1)).filter fun w => !w.isEmpty) = if es[i] = [] then foldG lim ind st0 ((es.take i).filter fun w => !w.isEmpty) else stepG lim ind (foldG lim ind st0 ((es.take i).filter fun w => !w.isEmpty)) es[i] := by
        rw [htk, List.filter_append]
        by_cases he : es[i] = []
        · rw [if_pos he, he]; simp
        · rw [if_neg he]
          have : [es[i]].filter (fun w => !w.isEmpty) = [es[i]] := by
            rw [List.filter_eq_self]
            intro a ha
            rw [List.mem_singleton.mp ha]
            simpa using he
          rw [this, foldG_snoc]
      have hlen1 : es[i].length ≤ 100000 := by
        by_cases he : es[i] = []
        · rw [he]; simp
        · have := hsub (i + 1)
          rw [htk, List.filter_append] at this
          have e1 : [es[i]].filter (fun w => !w.isEmpty) = [es[i]] := by
            rw [List.filter_eq_self]
            intro a ha
            rw [List.mem_singleton.mp ha]
            simpa using he
          rw [e1, ← List.append_assoc, wsum_append] at this
          simp [wsum] at this
          omega
      have hgw := heg es[i] (List.getElem_mem hil)
      generalize foldG lim ind st0 ((es.take i).filter fun w => !w.isEmpty) = st at C hnv' hcl hol hfg hnext
      generalize es[i] = e at hW hnext hlen1 hgw
      have hpl := part_len ind st.2
      have hil1 : ind.length ≤ 1 := by rcases hi with rfl | rfl <;> simp
      refine wpAny_assign_Name (stL C rfl rfl fun h6 tk6 C => ?_)
      refine sAssign rfl (Subscript_ (nmL C rfl rfl rfl rfl (nmL C rfl rfl rfl rfl (idx_L (C.lat (.tail _ (.tail _ (.head _)))) (by omega) hW (by with_unfolding_all rfl) (stL C rfl rfl fun h7 tk7 C => ?_)))))
      refine sIf (isTrue_not (isTrue_plain (nmL C rfl rfl rfl rfl (truthy_S (by omega) fun tk8 => ?_)) rfl))
      rcases hgw with he | hgw
      · subst he
        refine br (fun _ => sContinue (then_cont (flw_cont ?_))) (fun h => nomatch h)
        refine ⟨_, _, h7, _, s.gens, rfl, ⟨tp, nvs', rfl, rfl, ?_, rfl⟩, ?_⟩
        · rw [hnext, if_pos rfl]; exact hnv'
        · rw [hnext, if_pos rfl]
          exact C.re ⟨rfl, rfl, rfl, rfl, rfl, rfl, rfl, rfl, rfl, trivial⟩
      · have hene : e ≠ [] := hgw.1
        rw [if_neg hene] at hnext
        refine br (fun h => absurd h (by cases e with | nil => exact absurd rfl hene | cons a r => simp)) (fun _ => sNil (then_next ?_))
        have h9 : 9 ∉ part ind st.2 ++ e := fun h => (List.mem_append.mp h).elim (part_no9 (by rcases hi with rfl | rfl <;> simp) hfg.2) (good_no9 hgw)
        refine sIfJ (fun s' => ∃ h' tk' tq nv2 mid, s' = { s with heap := h', toks := tk' } ∧ mid = (if st.2 ≠ [] ∧ lim < ((part ind st.2).length + e.length : Nat) then (st.1 ++ [st.2], ([] : List (List Nat))) else st) ∧ StrsAre nv2 ((mid.1.map (rowT ind)).map S) ∧
          Cx s.heap L [(Str.ofString "limit", .int lim u), (Str.ofString "lines", .ref ll), (Str.ofString "i", .int r t1), (Str.ofString "n", .int (rows.length + 1 : Nat) t5), (Str.ofString "indent1", .str (S ind) t7), (Str.ofString "indent2", .str (S ind) t15), (Str.ofString "new", .ref nl), (Str.ofString "partial", .str (S (part ind mid.2)) tq), (Str.ofString "words", .ref wl), (Str.ofString "j", .int (2 * i : Nat) tj), (Str.ofString "word", .str (S e) tw)] [(I, RI (2 * (i + 1) : Nat) (((wvs.length + 1) / 2 : Nat) - (i + 1 : Nat))), (nl, PL nv2), (wl, PL wvs), (ll, PL lvs)] h') ?_ ?_
        · have keep : ¬ (st.2 ≠ [] ∧ lim < ((part ind st.2).length + e.length : Nat)) → ∀ tk', ∃ h' tk'' tq nv2 mid, ({ s with heap := h7, toks := tk' } : Shared) = { s with heap := h', toks := tk'' } ∧ mid = (if st.2 ≠ [] ∧ lim < ((part ind st.2).length + e.length : Nat) then (st.1 ++ [st.2], ([] : List (List Nat))) else st) ∧ StrsAre nv2 ((mid.1.map (rowT ind)).map S) ∧
              Cx s.heap L [(Str.ofString "limit", .int lim u), (Str.ofString "lines", .ref ll), (Str.ofString "i", .int r t1), (Str.ofString "n", .int (rows.length + 1 : Nat) t5), (Str.ofString "indent1", .str (S ind) t7), (Str.ofString "indent2", .str (S ind) t15), (Str.ofString "new", .ref nl), (Str.ofString "partial", .str (S (part ind mid.2)) tq), (Str.ofString "words", .ref wl), (Str.ofString "j", .int (2 * i : Nat) tj), (Str.ofString "word", .str (S e) tw)] [(I, RI (2 * (i + 1) : Nat) (((wvs.length + 1) / 2 : Nat) - (i + 1 : Nat))), (nl, PL nv2), (wl, PL wvs), (ll, PL lvs)] h' := by
            intro hc tk'
            exact ⟨h7, tk', tp, nvs', st, rfl, (if_neg hc).symm, hnv', C.re ⟨rfl, rfl, rfl, rfl, rfl, rfl, rfl, rfl, rfl, rfl, rfl, trivial⟩⟩
          refine isTrue_and (wpAny_isTrue_Compare1 (callB1 (id := "len") rfl (nmB C G rfl rfl (by decide) rfl rfl rfl ⟨rfl, ?_⟩)))
          refine meth0 base_binop rfl F.plainAttrs_str F.slot_str_expandtabs F.type_str_expandtabs ?_
          refine wpAny_BinOp (nmL C rfl rfl rfl rfl (nmL C rfl rfl rfl rfl (add_S (by omega) fun t10 tk10 => ⟨⟨typeIs_str _ _ _, fun a e => nomatch e⟩, ?_⟩)))
          refine expandtabs_S (by rw [List.length_append]; omega) h9 (len_S List.length_append (by omega) fun t11 tk11 => nmL C rfl rfl rfl rfl (P.gt_int (wpAny_truthy_bool ?_)))
          refine br (fun hgt => ?_) (fun hle => ?_)
          · refine isTrue_and (wpAny_isTrue_Compare1 (nmL C rfl rfl rfl rfl (nmL C rfl rfl rfl rfl (ne_S (wpAny_truthy_bool ?_)))))
            refine br (fun hcn => isTrue_and_nil (br (fun _ => ?_) (fun h => nomatch h))) (fun hcn => ?_)
            · rw [part_ne] at hcn
              have hcn' : st.2 ≠ [] := by
                intro h0; rw [h0] at hcn; simp at hcn
              have hcond : st.2 ≠ [] ∧ lim < ((part ind st.2).length + e.length : Nat) := ⟨hcn', by simpa using hgt⟩
              replace C := C.swap
              refine sExpr rfl rfl (meth1 base_name rfl rfl F.plainAttrs_list F.slot_list_append F.type_list_append (nmL C rfl rfl rfl rfl ⟨C.tyL (.head _), ?_⟩))
              refine meth0 base_name rfl F.plainAttrs_str F.slot_str_rstrip F.type_str_rstrip (nmL C rfl rfl rfl rfl ⟨⟨typeIs_str _ _ _, fun a e => nomatch e⟩, ?_⟩)
              have hnl : nvs'.length = st.1.length := by rw [hnv'.length]; simp
              refine rstrip_S (by omega) fun t12 tk12 => append_C C (by omega) fun h13 C => ⟨rfl, ?_⟩
              rw [rstr_part ⟨hcn', hfg.2⟩] at C
              refine sAssign rfl (nmL C rfl rfl rfl rfl (stL C rfl rfl fun h14 tk14 C => sNil (then_next ?_)))
              refine ⟨h14, tk14, t15, nvs' ++ [.str (S (rowT ind st.2)) t12], (st.1 ++ [st.2], []), rfl, (if_pos hcond).symm, ?_, ?_⟩
              · show StrsAre _ (((st.1 ++ [st.2]).map (rowT ind)).map S)
                rw [List.map_append, List.map_append]
                exact StrsAre.append' hnv' (.cons _ _ .nil)
              · have e0 : part ind [] = ind := by simp [part]
                show Cx s.heap L [_, _, _, _, _, _, _, (Str.ofString "partial", .str (S (part ind [])) t15), _, _, _] _ h14
                rw [e0]
                exact C.swap.re ⟨rfl, rfl, rfl, rfl, rfl, rfl, rfl, rfl, rfl, rfl, rfl, trivial⟩
            · refine br (fun h => nomatch h) (fun _ => sNil (then_next (keep ?_ _)))
              rintro ⟨hcn', _⟩
              rw [part_ne] at hcn
              cases hst : st.2 with
              | nil => exact hcn' hst
              | cons a b => rw [hst] at hcn; simp at hcn
          · refine br (fun h => nomatch h) (fun _ => sNil (then_next (keep ?_ _)))
            rintro ⟨_, hlt'⟩
            simp at hle
            omega
        · rintro _ ⟨h8, tk8, tq, nv2, mid, rfl, hmid, hnv2, C⟩
          have hstep : stepG lim ind st e = (mid.1, mid.2 ++ [e]) := by
            rw [hmid]; unfold stepG
            split <;> rfl
          have hml : wsum mid.2 ≤ 100000 := by
            rw [hmid]
            split
            · simp [wsum]
            · omega
          have hmp := part_len ind mid.2
          refine sAssign rfl (wpAny_BinOp (wpAny_BinOp (nmL C rfl rfl rfl rfl (nmL C rfl rfl rfl rfl (add_S (by omega) fun t9 tk9 => constS (l := [32]) rfl fun t10 tk10 => add_S (by rw [List.length_append]; simp; omega) fun t11 tk11 => ?_)))))
          rw [← part_snoc]
          refine stL C rfl rfl fun h12 tk12 C => ?_
          have fin : ∀ tk, Flw (fun s₃ => ∃ bs' rs' h' tk' g', s₃ = { s with heap := h', toks := tk', gens := g' } ∧ (∃ t' nvs', bs' = [(Str.ofString "limit", .int lim u), (Str.ofString "lines", .ref ll), (Str.ofString "i", .int r t1), (Str.ofString "n", .int (rows.length + 1 : Nat) t5), (Str.ofString "indent1", .str (S ind) t7), (Str.ofString "indent2", .str (S ind) t15), (Str.ofString "new", .ref nl), (Str.ofString "partial", .str (S (part ind (foldG lim ind st0 ((es.take (i + 1)).filter fun w => !w.isEmpty)).2)) t'), (Str.ofString "words", .ref wl)] ∧
              rs' = [(nl, PL nvs'), (wl, PL wvs), (ll, PL lvs)] ∧ StrsAre nvs' (((foldG lim ind st0 ((es.take (i + 1)).filter fun w => !w.isEmpty)).1.map (rowT ind)).map S) ∧ g' = s.gens) ∧ Cx s.heap L bs' ((I, RI (2 * (i + 1) : Nat) (((wvs.length + 1) / 2 : Nat) - (i + 1 : Nat))) :: rs') h') Q .next { s with heap := h12, toks := tk } := by
            intro tk
            rw [hnext, hstep]
            exact ⟨_, _, h12, tk, s.gens, rfl, ⟨t11, nv2, rfl, rfl, hnv2, rfl⟩, C.re ⟨rfl, rfl, rfl, rfl, rfl, rfl, rfl, rfl, rfl, trivial⟩⟩
          refine sIf (isTrue_and (wpAny_isTrue_Compare1 (wpAny_BinOp (nmL C rfl rfl rfl rfl (constI fun t13 tk13 => P.add_int (callB1 (id := "len") rfl (nmB C G rfl rfl (by decide) rfl rfl rfl ⟨rfl, ?_⟩)))))))
          refine nmL C rfl rfl rfl rfl (len_L (C.lat (.tail _ (.tail _ (.head _)))) (by omega) fun t14 tk14 => P.lt_int (wpAny_truthy_bool ?_))
          refine br (fun hlt2 => ?_) (fun _ => br (fun h => nomatch h) (fun _ => sNil (then_next (sNil (fin _)))))
          have hlt3 : i + 1 < es.length := by
            simp at hlt2; omega
          obtain ⟨to, hO⟩ := strs_at hwv (i := 2 * i + 1) (x := [32]) (weave_odd es i hlt3)
          refine isTrue_and (wpAny_isTrue_Compare1 (Subscript_ (nmL C rfl rfl rfl rfl (wpAny_BinOp (nmL C rfl rfl rfl rfl (constI fun t15' tk15 => P.add_int ?_))))))
          refine idx_L (k := 2 * i + 1) (C.lat (.tail _ (.tail _ (.head _)))) (by omega) hO (by with_unfolding_all rfl) (constS (l := [32]) rfl fun t16' tk16 => ne_S (wpAny_truthy_bool ?_))
          exact br (fun h => nomatch h) (fun _ => br (fun h => nomatch h) (fun _ => sNil (then_next (sNil (fin _)))))
    · rintro bs rs g h5 tk5 ⟨tp, nvs', rfl, rfl, hnv', rfl⟩ C
      have hn2 : (wvs.length + 1) / 2 = es.length := by omega
      rw [hn2, List.take_length, hef] at C hnv'
      have hrn : foldG lim ind st0 rows[r] = foldG lim ind ([], []) (rows.take (r + 1)).flatten := by
        rw [List.take_add_one, List.getElem?_eq_getElem hlt, List.flatten_append, foldG_append, hst0]
        simp
      rw [hrn] at C hnv'
      refine sAssign rfl (wpAny_BinOp (nmL C rfl rfl rfl rfl (constI fun t6 tk6 => addI (z := (r + 1 : Nat)) (by omega) fun t6' tk6' => stL C rfl rfl fun h7 tk7 C => ?_)))
      refine sNil (flw_next ⟨rows.length - (r + 1), by omega, r + 1, h7, tk7, t6', tp, nvs', rfl, hlt, rfl, hnv', ?_⟩)
      exact (C.re (bs' := [(Str.ofString "limit", .int lim u), (Str.ofString "lines", .ref ll), (Str.ofString "i", .int (r + 1 : Nat) t6'), (Str.ofString "n", .int (rows.length + 1 : Nat) t5), (Str.ofString "indent1", .str (S ind) t7), (Str.ofString "indent2", .str (S ind) t15), (Str.ofString "new", .ref nl), (Str.ofString "partial", .str (S (part ind (foldG lim ind ([], []) (rows.take (r + 1)).flatten).2)) tp)]) ⟨rfl, rfl, rfl, rfl, rfl, rfl, rfl, rfl, trivial⟩).sub (fun _ _ e => e) (fun p hp => by simp only [List.mem_cons, List.not_mem_nil, or_false] at hp ⊢; rcases hp with hp | hp; exact .inl hp; exact .inr (.inr hp)) (by
        have := (List.nodup_cons.mp C.nd).2
        simp only [List.map_cons, List.map_nil, List.nodup_cons, List.mem_cons, List.not_mem_nil, or_false, not_or, not_false_eq_true, List.nodup_nil, and_true] at this ⊢
        exact this.1.2)
  · have hre : r = rows.length := by omega
    subst hre
    obtain ⟨tB, hB⟩ := strs_at hlv hlast
    refine idx_L (C.lat (.tail _ (.head _))) (by omega) hB (by with_unfolding_all rfl) ?_
    refine ⟨G.keeps C.keep, white_call (G.keeps C.keep) R (bw := true) rfl (by simp) fun h2 tk2 k2 => ?_⟩
    replace C := C.keeps k2
    refine wpAny_truthy_bool (br (fun h => nomatch h) (fun _ => ?_))
    rw [List.take_length] at C hnv
    have hne : rows.flatten ≠ [] := by
      intro h0
      have h1 := (hgi 0 hpos).1
      have h2 : ∀ v ∈ rows[0], v ∈ rows.flatten := fun v hv => List.mem_flatten.mpr ⟨_, List.getElem_mem hpos, hv⟩
      rw [h0] at h2
      exact h1 (List.eq_nil_iff_forall_not_mem.mpr fun v hv => by cases h2 v hv)
    have hfg := foldG_good (lim := lim) (pre := ind) goodG_nil hgw
    have hcl := foldG_cur_len lim ind rows.flatten
    have hol := foldG_out_len lim ind rows.flatten hgw
    have hil : ind.length ≤ 1 := by rcases hi with rfl | rfl <;> simp
    have hgp := groups_pg lim ind rows.flatten hne hgw hil
    have hgd : groups lim ind rows.flatten = (foldG lim ind ([], []) rows.flatten).1 ++ [(foldG lim ind ([], []) rows.flatten).2] := rfl
    have hpl := part_len ind (foldG lim ind ([], []) rows.flatten).2
    have hrs := rstr_part (pre := ind) (cur := (foldG lim ind ([], []) rows.flatten).2) ⟨hfg.2 (.inl hne), hfg.1.2⟩
    generalize foldG lim ind ([], []) rows.flatten = st at C hnv hcl hol hgd hpl hrs
    have hnl : nvs.length = st.1.length := by rw [hnv.length]; simp
    have hll : lvs.length = rows.length + 1 := by rw [hlv.length, List.length_map, hlen]
    refine sExpr rfl rfl (meth1 rfl rfl rfl F.plainAttrs_list F.slot_list_append F.type_list_append (nmL C rfl rfl rfl rfl ⟨C.tyL (.head _), ?_⟩))
    refine meth0 rfl rfl F.plainAttrs_str F.slot_str_rstrip F.type_str_rstrip (nmL C rfl rfl rfl rfl ⟨⟨typeIs_str _ _ _, fun a e => nomatch e⟩, ?_⟩)
    refine rstrip_S (by omega) fun t3 tk3 => append_C C (by omega) fun h4 C => ⟨rfl, ?_⟩
    rw [hrs] at C
    refine sExpr rfl rfl (meth1 rfl rfl rfl F.plainAttrs_list F.slot_list_extend F.type_list_extend (nmL C rfl rfl rfl rfl ⟨C.tyL (.head _), ?_⟩))
    refine slice_C (h₀ := s.heap) (L := L) (by intro _ _; rfl) (nmL C rfl rfl rfl rfl (nmL C rfl rfl rfl rfl (wpAny_pure (a := Value.none) ?_)))
    refine ⟨ll, lvs, some (rows.length : Nat), none, _, _, rfl, C.lat (.tail _ (.head _)), by omega, .int _ _, .none, C, fun sl h5 C => ?_⟩
    rw [slicePick_from' lvs.toArray rows.length] at C
    replace C := C.swap
    refine extend_C C (C.lat (.tail _ (.head _))) (by simp; omega) fun h6 C => ⟨rfl, ?_⟩
    refine sReturn ?_
    with_reducible refine meth1 (T := "str") (id := "str.join") base_const ?a1 ?a2 F.plainAttrs_str F.slot_str_join F.type_str_join ?_
    case a1 => rfl
    case a2 => rfl
    refine constS (l := [10]) rfl fun t7 tk7 => ⟨⟨typeIs_str _ _ _, fun a e => nomatch e⟩, ?_⟩
    refine nmL C rfl rfl rfl rfl ?_
    have hfin : StrsAre (nvs ++ [Value.str (S (rowT ind st.2)) t3] ++ (lvs.toArray.toList.drop rows.length).toArray.toList) (((groups lim ind rows.flatten).map (rowT ind) ++ [[]]).map S) := by
      rw [hgd, List.map_append, List.map_append, List.map_append]
      refine StrsAre.append' (StrsAre.append' hnv (.cons _ _ .nil)) ?_
      have := hlv.drop' rows.length
      have e : (lines.map S).drop rows.length = [S []] := by
        rw [List.drop_eq_getElem_cons (by simp [hlen])]
        have : (lines.map S)[rows.length]'(by simp [hlen]) = S [] := by
          have h := hlast
          rw [List.getElem?_eq_getElem (by omega)] at h
          simp only [List.getElem_map, Option.some.inj h]
        rw [this, List.drop_of_length_le (by simp [hlen])]
      rw [e] at this
      simpa using this
    refine join_L (C.lat (.head _)) hfin ?_ fun t8 tk8 => ?_
    · have := pg_join ind (groups lim ind rows.flatten)
      simp only [List.length_cons, List.length_nil, Nat.mul_one] at this ⊢
      omega
    · rw [← pg_jn]
      exact q _ _ _ C.keep
end
end Mine
end

section
set_option maxRecDepth 100000
set_option linter.unusedVariables false
namespace Mine
open PySem PySem.W PySem.Calls PyProof.Rows

section
variable {prog : Program} {w : World} {A : Around} {E : Value → Shared → Prop} {s : Shared} {mg mb : Str → Option Value} {n : Nat} {Q : Value → Shared → Prop}
set_option maxHeartbeats 4000000 in
theorem para_call (G : Gl w mg mb s.heap) (R : Room A (n + 2)) {ind : List Nat} {rows : List (List (List Nat))} {lim : Int} {t u : Tok} (hi : ind = [] ∨ ind = [32]) (hne : rows ≠ []) (hg : ∀ ws ∈ rows, GoodR ws) (hsz : (pg ind rows).length ≤ 100000)
    (q : ∀ h' t' tk, Kp s.heap h' → Q (.str (S (pg ind (groups lim ind rows.flatten))) t') { s with heap := h', toks := tk }) : wpAny (model prog w) A (call (.ref 58) [.str (S (pg ind rows)) t, .int lim u]) Q E s := by
  refine enter G R rfl rfl (binds := [(Str.ofString "data", .str (S (pg ind rows)) t), (Str.ofString "limit", .int lim u)]) rfl rfl rfl rfl rfl rfl ?_
  intro L h₁ tk C R'
  have hjn := pg_jn ind rows
  generalize hlines : rows.map (rowT ind) ++ [[]] = lines at hjn
  have hlen : lines.length = rows.length + 1 := by rw [← hlines]; simp
  have hcnt : rows.length ≤ 100000 := Nat.le_trans (pg_count ind rows) hsz
  have hfree : ∀ l ∈ lines, 10 ∉ l := by
    intro l hl
    rw [← hlines] at hl
    rcases List.mem_append.mp hl with hl | hl
    · obtain ⟨ws, hw, rfl⟩ := List.mem_map.mp hl
      exact row_no (hg ws hw) (by rcases hi with rfl | rfl <;> simp) (by decide) (by decide)
    · rw [List.mem_singleton.mp hl]; simp
  have hrow : ∀ i (h : i < rows.length), lines[i]? = some (rowT ind rows[i]) := by
    intro i h
    rw [← hlines, List.getElem?_append_left (by simpa using h), List.getElem?_map, List.getElem?_eq_getElem h]; rfl
  have hlast : lines[rows.length]? = some [] := by
    rw [← hlines, List.getElem?_append_right (by simp)]; simp
  have hgi : ∀ i (h : i < rows.length), GoodR rows[i] := fun i h => hg _ (List.getElem_mem h)
  have hrl : ∀ i (h : i < rows.length), (rowT ind rows[i]).length ≤ 100000 := fun i h => Nat.le_trans (pg_row_le ind (List.getElem_mem h)) hsz
  have hpos : 0 < rows.length := List.length_pos_iff.mpr hne
  -- lines = data.split
  refine sAssign rfl (meth1 rfl rfl rfl F.plainAttrs_str F.slot_str_split F.type_str_split ?_)
  refine nmL C rfl rfl rfl rfl ⟨⟨typeIs_str _ _ _, fun a e => nomatch e⟩, ?_⟩
  refine constS (l := [10]) rfl fun t1 tk1 => ?_
  refine split_C C hjn (by rw [← hlines]; simp) hfree (by omega) ?_
  intro ll lvs h2 tk2 hlv C
  refine stL C rfl rfl fun h3 tk3 C => ?_
  -- i = 0
  refine sAssign rfl (constI fun t4 tk4 => stL C rfl rfl fun h4 tk4' C => ?_)
  -- n = len(lines)
  refine sAssign rfl (callB1 (id := "len") rfl ?_)
  refine nmB C G rfl rfl (by decide) rfl rfl rfl ⟨rfl, ?_⟩
  refine nmL C rfl rfl rfl rfl ?_
  have hlvl : lvs.length = rows.length + 1 := by rw [hlv.length, List.length_map, hlen]
  refine len_L (C.lat (.head _)) (by omega) fun t5 tk5 => stL C rfl rfl fun h5 tk5' C => ?_
  rw [hlvl] at C
  replace C := C.re (bs' := [(Str.ofString "limit", .int lim u), (Str.ofString "lines", .ref ll), (Str.ofString "i", .int 0 t4), (Str.ofString "n", .int (rows.length + 1 : Nat) t5)]) ⟨rfl, rfl, rfl, rfl, trivial⟩
  -- the first while: its test fails at once
  obtain ⟨tA, hA⟩ := strs_at hlv (hrow 0 hpos)
  refine sWhile (fun _ s' => s' = { s with heap := h5, toks := tk5' }) 0 rfl ?_
  rintro _ _ rfl
  refine isTrue_and (wpAny_isTrue_Compare1 (nmL C rfl rfl rfl rfl (nmL C rfl rfl rfl rfl (P.lt_int (wpAny_truthy_bool ?_)))))
  refine br (fun _ => ?_) (fun h => absurd h (by simp))
  refine isTrue_and (isTrue_plain ?_ rfl)
  refine callF1 (f := 72) (mg := mg) (mb := mb) rfl rfl rfl (nmG C G (v := .ref 72) rfl rfl rfl rfl ⟨rfl, ?_⟩)
  refine Subscript_ (nmL C rfl rfl rfl rfl (nmL C rfl rfl rfl rfl (idx_L (k := 0) (C.lat (.head _)) (by omega) hA (by with_unfolding_all rfl) ?_)))
  refine ⟨G.keeps C.keep, white_call (G.keeps C.keep) R' (white_row (hgi 0 hpos)) (Nat.le_trans (hrl 0 hpos) (by omega)) fun h6 tk6 k6 => ?_⟩
  replace C := C.keeps k6
  refine wpAny_truthy_bool (br (fun h => absurd h (by decide)) (fun _ => ?_))
  -- if i >= n
  refine sIf (wpAny_isTrue_Compare1 (nmL C rfl rfl rfl rfl (nmL C rfl rfl rfl rfl (P.ge_int (wpAny_truthy_bool ?_)))))
  refine br (fun h => absurd h (by simp)) (fun _ => sNil (then_next ?_))
  -- indent1
  have hbl : ind.all isBlank = true := by rcases hi with rfl | rfl <;> rfl
  refine sAssign rfl (callF1 (f := 79) (mg := mg) (mb := mb) rfl rfl rfl (nmG C G (v := .ref 79) rfl rfl rfl rfl ⟨rfl, ?_⟩))
  refine Subscript_ (nmL C rfl rfl rfl rfl (nmL C rfl rfl rfl rfl (idx_L (k := 0) (C.lat (.head _)) (by omega) hA (by with_unfolding_all rfl) ?_)))
  refine ⟨G.keeps C.keep, indent_call (G.keeps C.keep) R' (indent_row (hgi 0 hpos) hbl) (Nat.le_trans (hrl 0 hpos) (by omega)) fun h7 t7 tk7 k7 => ?_⟩
  replace C := C.keeps k7
  refine stL C rfl rfl fun h8 tk8 C => ?_
  -- indent2
  refine sIfJ (fun s' => ∃ h' tk' t', s' = { s with heap := h', toks := tk' } ∧ Cx s.heap L [(Str.ofString "limit", .int lim u), (Str.ofString "lines", .ref ll), (Str.ofString "i", .int 0 t4), (Str.ofString "n", .int (rows.length + 1 : Nat) t5), (Str.ofString "indent1", .str (S ind) t7), (Str.ofString "indent2", .str (S ind) t')] [(ll, PL lvs)] h') ?_ ?_
  · refine isTrue_and (wpAny_isTrue_Compare1 (wpAny_BinOp (nmL C rfl rfl rfl rfl (constI fun t9 tk9 => P.add_int (nmL C rfl rfl rfl rfl (P.lt_int (wpAny_truthy_bool ?_)))))))
    refine br (fun _ => ?_) (fun h => absurd h (by simp; omega))
    refine isTrue_and (isTrue_not (isTrue_plain ?_ rfl))
    refine callF1 (f := 72) (mg := mg) (mb := mb) rfl rfl rfl (nmG C G (v := .ref 72) rfl rfl rfl rfl ⟨rfl, ?_⟩)
    refine Subscript_ (nmL C rfl rfl rfl rfl (wpAny_BinOp (nmL C rfl rfl rfl rfl (constI fun t10 tk10 => P.add_int ?_))))
    by_cases h1 : 1 < rows.length
    · obtain ⟨tB, hB⟩ := strs_at hlv (hrow 1 h1)
      refine idx_L (k := 1) (C.lat (.head _)) (by omega) hB (by with_unfolding_all rfl) ?_
      refine ⟨G.keeps C.keep, white_call (G.keeps C.keep) R' (white_row (hgi 1 h1)) (Nat.le_trans (hrl 1 h1) (by omega)) fun h11 tk11 k11 => ?_⟩
      replace C := C.keeps k11
      refine wpAny_truthy_bool (br (fun _ => isTrue_and_nil (br (fun _ => ?_) (fun h => nomatch h))) (fun h => nomatch h))
      refine sAssign rfl (callF1 (f := 79) (mg := mg) (mb := mb) rfl rfl rfl (nmG C G (v := .ref 79) rfl rfl rfl rfl ⟨rfl, ?_⟩))
      refine Subscript_ (nmL C rfl rfl rfl rfl (wpAny_BinOp (nmL C rfl rfl rfl rfl (constI fun t12 tk12 => P.add_int ?_))))
      refine idx_L (k := 1) (C.lat (.head _)) (by omega) hB (by with_unfolding_all rfl) ?_
      refine ⟨G.keeps C.keep, indent_call (G.keeps C.keep) R' (indent_row (hgi 1 h1) hbl) (Nat.le_trans (hrl 1 h1) (by omega)) fun h13 t13 tk13 k13 => ?_⟩
      replace C := C.keeps k13
      refine stL C rfl rfl fun h14 tk14 C => sNil (then_next ⟨h14, tk14, t13, rfl, C.re ⟨rfl, rfl, rfl, rfl, rfl, rfl, trivial⟩⟩)
    · have hr1 : rows.length = 1 := by omega
      rw [hr1] at hlast
      obtain ⟨tB, hB⟩ := strs_at hlv hlast
      refine idx_L (k := 1) (C.lat (.head _)) (by omega) hB (by with_unfolding_all rfl) ?_
      refine ⟨G.keeps C.keep, white_call (G.keeps C.keep) R' (bw := true) rfl (by simp) fun h11 tk11 k11 => ?_⟩
      replace C := C.keeps k11
      refine wpAny_truthy_bool (br (fun h => nomatch h) (fun _ => br (fun h => nomatch h) (fun _ => ?_)))
      refine sAssign rfl (nmL C rfl rfl rfl rfl ?_)
      exact stL C rfl rfl fun h14 tk14 C => sNil (then_next ⟨h14, tk14, t7, rfl, C.re ⟨rfl, rfl, rfl, rfl, rfl, rfl, trivial⟩⟩)
  rintro _ ⟨h15, tk15, t15, rfl, C⟩
  -- new = lines[:i]
  refine sAssign rfl (slice_C (h₀ := s.heap) (L := L) (by intro _ _; rfl) ?_)
  refine nmL C rfl rfl rfl rfl (wpAny_pure (a := Value.none) (nmL C rfl rfl rfl rfl ?_))
  refine ⟨ll, lvs, none, some 0, _, _, rfl, C.lat (.head _), by omega, .none, .int 0 _, C, fun nl h16 C => ?_⟩
  rw [show slicePick lvs.toArray none (some 0) none = #[] from (slicePick_upto' lvs.toArray 0).trans (by simp)] at C
  refine stL C rfl rfl fun h17 tk17 C => ?_
  -- partial = indent1
  refine sAssign rfl (nmL C rfl rfl rfl rfl (stL C rfl rfl fun h18 tk18 C => ?_))
  replace C := C.re (bs' := [(Str.ofString "limit", .int lim u), (Str.ofString "lines", .ref ll), (Str.ofString "i", .int 0 t4), (Str.ofString "n", .int (rows.length + 1 : Nat) t5), (Str.ofString "indent1", .str (S ind) t7), (Str.ofString "indent2", .str (S ind) t15), (Str.ofString "new", .ref nl), (Str.ofString "partial", .str (S ind) t7)]) ⟨rfl, rfl, rfl, rfl, rfl, rfl, rfl, rfl, trivial⟩
  exact para_tail (w := w) (n := n) (s := s) (h := h18) (tk := tk18) rfl rfl G R' hi hg hsz hpos hlv hrow hlast hlen C (fun h' t' tk k => q h' t' tk k)
end
end Mine
end

section
set_option maxRecDepth 100000
set_option linter.unusedVariables false
namespace Mine
open PySem PySem.W PySem.Calls PyProof.Rows PySem.Builtin PySem.Builtin.Str

/-- the table of code objects of reformat_comment -/
def Tab : Obj → Prop := fun o => ∃ ps, o = tabObj ps ∧ TriplesOk ps.toList
def CE (v : Option Value) : Obj → Prop := fun o => o.data = .cell v
/-- what the genexps need of the base -/
structure Gm (mg : Str → Option Value) (h : Heap) : Prop where
  bm : ∃ bm ob, BMod h mainGlobals mg bm ob
  cd : CodeHd h 64 60
theorem Gm.keeps {mg : Str → Option Value} {h h' : Heap} (x : Gm mg h) (k : Kp h h') : Gm mg h' :=
  ⟨let ⟨bm, ob, b⟩ := x.bm; ⟨bm, ob, b.keeps k⟩, x.cd.keeps k⟩
/-- all but the table stands as it stood, the table is a table -/
def Kq (h h' : Heap) : Prop := Heap.ExtBut 60 h h' ∧ ∃ o, h'.get? 60 = some o ∧ Tab o
theorem Kq.of {h h' : Heap} (k : Kp h h') (t : ∃ o, h.get? 60 = some o ∧ Tab o) : Kq h h' := ⟨fun b o _ e => k b o e, let ⟨o, e, p⟩ := t; ⟨o, k _ _ e, p⟩⟩
theorem Cx.kq {h₀ h h' : Heap} {L : Addr} {bs : List (Str × Value)} {rs : Rs} (C : Cx h₀ L bs ((60, Tab) :: rs) h) (k : Kq h h') : Cx h₀ L bs ((60, Tab) :: rs) h' := C.upd k.1 k.2

section
variable {prog : Program} {w : World} {M : Model} {A : Around} {E : Value → Shared → Prop} {s : Shared} {h₀ : Heap} {L : Addr} {bs : List (Str × Value)} {rs : Rs} {mg mb : Str → Option Value}
theorem Cx.code {h : Heap} (C : Cx h₀ L bs ((60, Tab) :: rs) h) (hc : CodeHd h₀ 64 60) : ∃ ps, h.IsCode 64 60 ps ∧ h.TableAt 64 60 ps := by
  obtain ⟨o, ho, ps, e, ht⟩ := C.get (.head _)
  subst e
  have hc' := hc.keeps C.keep
  exact ⟨ps, hc'.code ho ht, hc'.tab ho⟩
theorem genCode {env : Env} {pos : Pos} {qn : Str} {scope : Scope} {Q : Value → Shared → Prop} (C : Cx h₀ L bs ((60, Tab) :: rs) s.heap) (hc : CodeHd h₀ 64 60) (hcode : env.code = .ref 64)
    (q : ∀ c' h' tk, Heap.ExtBut 60 s.heap h' → s.heap.objs.size ≤ h'.objs.size → Cx h₀ L bs ((60, Tab) :: rs) h' → Q c' { s with heap := h', toks := tk }) : wpAny M A (genexprCode env pos qn scope) Q E s := by
  obtain ⟨ps, ic, ta⟩ := C.code hc
  cases hf : codeAmong pos ps.toList with
  | some c' => exact wpAny_genexprCode_hit hcode ic hf (q c' s.heap s.toks (fun _ _ _ e => e) (Nat.le_refl _) C)
  | none =>
    refine wpAny_genexprCodeX hcode ic ta hf fun c' h' tk hx hge hlt hcode' _ htab' _ => q _ h' tk hx (Nat.le_trans hge (Nat.le_of_lt hlt)) (C.upd hx ⟨_, htab'.2, _, rfl, ?_⟩)
    obtain ⟨_, _, _, _, _, _, _, _, _, op, _, _, _, _, _, _, _, _, hpd, htr, _⟩ := hcode'
    exact htr

theorem passing_all (n : Nat) : passing (fun _ => true) n 0 = List.range n := by simp [passing]
theorem strs_item {vs : List Value} {ls : List (List Nat)} (hv : StrsAre vs (ls.map S)) {i : Nat} {v : Value} (e : vs[i]? = some v) : ∃ x t, ls[i]? = some x ∧ v = .str (S x) t := by
  have hlt : i < ls.length := by
    have := (List.getElem?_eq_some_iff.mp e).1
    rwa [hv.length, List.length_map] at this
  obtain ⟨t, ht⟩ := strs_at hv (List.getElem?_eq_getElem hlt)
  rw [e] at ht
  exact ⟨_, t, List.getElem?_eq_getElem hlt, Option.some.inj ht⟩

set_option maxHeartbeats 1000000 in
/-- sep.join(elt for line in iter) -/
theorem join_gen_C {env : Env} {elt iter : PySem.Expr} {x : Str} {px : Pos} {scope : Scope} {cl : List (Str × Addr)} {pos : Pos} {sep : List Nat} {t : Tok} {Q : Value → Shared → Prop}
    (Mm : Gm mg h₀) (Gg : Gl w mg mb h₀) (hcode : env.code = .ref 64) (hgl : env.globals = mainGlobals) (hh : A.handled = none) (hco : scope.isCoroutine = false) (hclos : closureFor scope env = pure cl)
    (hcell : (scope.names.all fun y => decide (y.2 ≠ .cell)) = true) (h0 : scope.names.lookup (".0" : Str) = some NameKind.local) (hx : scope.names.lookup x = some .local) (hkind : scope.kind = .function) (hroom : A.depth < 1000)
    (hs : ∀ x, genFold iter env x = pure x)
    (h : wpAny (model prog w) A (eval iter env) (fun xv s₁ => ∃ (l : Addr) (vs : List Value) (ls : List (List Nat)) (f : List Nat → List Nat) (bs : List (Str × Value)) (rs : Rs) (r : List Nat), xv = .ref l ∧ LAt s₁.heap l vs ∧ StrsAre vs (ls.map S) ∧ Cx h₀ L bs ((60, Tab) :: rs) s₁.heap ∧ AllBare s₁.gens ∧ ls.length ≤ 1000000 ∧ jn sep (ls.map f) = r ∧
      ((ls.map f).map (·.length)).sum + ls.length * sep.length ≤ 16777216 ∧
      (∀ (Cl : Addr) (code : Value) (A' : Around) E' y t (s₂ : Shared) m₂, y ∈ ls → s₂.heap.Ns Cl m₂ → m₂ x = some (.str (S y) t) → (∀ b o, b ≠ 60 → s₁.heap.get? b = some o → s₂.heap.get? b = some o) →
        wpAny (model prog w) A' (eval elt (genEnv scope cl Cl code builtinsNs env)) (fun v s₃ => (∃ t', v = .str (S (f y)) t') ∧ Keeps s₂ s₃) E' s₂) ∧
      (∀ h' tk g t', Cx h₀ L bs ((60, Tab) :: rs) h' → AllBare g → Q (.str (S r) t') { s₁ with heap := h', toks := tk, gens := g })) E s) :
    wpAny (model prog w) A (eval (.GeneratorExp elt [⟨.Name x px, iter, [], 0⟩] scope pos) env) (fun v s₂ => wpAny (model prog w) A (call (.builtin "str.join") [.str (S sep) t, v]) Q E s₂) E s := by
  refine wpAny_GeneratorExp_walksQ hh hco hclos (fun y hy => of_decide_eq_true (List.all_eq_true.mp hcell y hy)) h0 hx hkind hroom (wpAny_mono h (fun xv s₁ h₁ => ?_) fun _ _ e => e) hs
  obtain ⟨l, vs, ls, f, bs, rs, r, rfl, hl, hv, C, G, hn, rfl, hsz, he, hq⟩ := h₁
  refine wpAny_pyIter_list hl.isL ⟨(Gg.nolimit.keeps C.keep).push _, ?_⟩
  have kI := Kp.push s₁.heap ({ cls := .type "list_iterator", data := .fields #[.ref l, .int 0 0] } : Obj)
  have hlt : l < s₁.heap.objs.size := let ⟨_, e⟩ := hl; Heap.lt_size e
  have eI : (s₁.heap.push ({ cls := .type "list_iterator", data := .fields #[.ref l, .int 0 0] } : Obj)).get? s₁.heap.objs.size = some { cls := .type "list_iterator", data := .fields #[.ref l, .int 0 0] } := Heap.get?_push_size _ rfl
  have szI : (s₁.heap.push ({ cls := .type "list_iterator", data := .fields #[.ref l, .int 0 0] } : Obj)).objs.size = s₁.heap.objs.size + 1 := Heap.size_push ..
  generalize s₁.heap.push ({ cls := .type "list_iterator", data := .fields #[.ref l, .int 0 0] } : Obj) = hI at kI eI szI ⊢
  have C1 := C.keeps kI
  refine genCode C1 Mm.cd hcode fun code h₃ tk₃ hx₃ hsz₃ C3 => ?_
  obtain ⟨bm, ob, B⟩ := Mm.bm
  have B3 := B.keeps C3.keep
  rw [hgl]
  refine wpAny_builtinsFor B3.ns B3.name B3.ne B3.obj B3.cls B3.dict B3.data ?_
  have hsz₃' : s₁.heap.objs.size + 1 ≤ h₃.objs.size := by rw [← szI]; exact hsz₃
  have old : ∀ b o, b ≠ 60 → s₁.heap.get? b = some o → h₃.get? b = some o := fun b o hb e => hx₃ b o hb (kI b o e)
  have h60 : 60 < s₁.heap.objs.size := let ⟨_, e, _⟩ := C.get (.head _); Heap.lt_size e
  have hlP : l ≠ 60 := fun e => by
    obtain ⟨o, ho, ps, e2, _⟩ := C.get (.head _)
    obtain ⟨n, hl⟩ := hl
    rw [e, ho, e2] at hl
    cases hl
  refine ⟨s₁.heap.objs.size, [s₁.heap.objs.size, l], [s₁.heap.objs.size], vs.toArray.size, _, _, (fun _ => true), (fun i y => ∃ x t, ls[i]? = some x ∧ y = .str (S (f x)) t), rfl,
    (fun A' hA => Walks.list hA _ _ (Nat.ne_of_lt hlt) vs.toArray), ⟨⟨_, hx₃ _ _ (Nat.ne_of_gt h60) eI, rfl, rfl⟩, (hl.isL.at fun o e => old l o hlP e)⟩, ?_, Gg.nolimit.keeps C3.keep, ?_, ?_, ?_⟩
  · intro b hb
    show b < h₃.objs.size
    simp only [List.mem_cons, List.not_mem_nil, or_false] at hb
    rcases hb with rfl | rfl
    · exact hsz₃'
    · exact Nat.lt_of_lt_of_le hlt (Nat.le_of_succ_le hsz₃')
  · intro hm
    rw [List.mem_singleton] at hm
    have e1 : cStatics = s₁.heap.objs.size := hm
    obtain ⟨_, hns, _⟩ := Gg.nolimit.keeps C.keep
    exact Nat.lt_irrefl _ (e1 ▸ hns.lt)
  · intro href hhref
    refine ⟨fun A' E' i v s₂ m₂ _ hP hn hm hk => wpAny_pure ⟨rfl, _, _, rfl, fun _ _ e => e⟩, fun A' E' i v s₂ m₂ _ hP _ hn hm hk => ?_⟩
    have hP' : vs[i]? = some v := by simpa using hP
    obtain ⟨y, t', ey, rfl⟩ := strs_item hv hP'
    refine wpAny_mono (he _ code A' E' y t' s₂ m₂ (List.mem_of_getElem? ey) hn hm fun b o hb e => ?_) (fun v s₃ h₃ => ⟨?_, h₃.2⟩) fun _ _ e => e
    · have hb' := Heap.lt_size e
      refine hk b (List.mem_range.mpr ?_) ?_ o (hhref b o (old b o hb e))
      · exact Nat.lt_of_lt_of_le hb' (Nat.le_of_succ_le hsz₃')
      · simp only [List.mem_singleton]; exact Nat.ne_of_lt hb'
    · obtain ⟨⟨t'', e⟩, _⟩ := h₃
      exact ⟨y, t'', ey, e⟩
  · intro a h₅ tk gs hgb hag hsz₅ hk₅ W hat
    have hvl : vs.toArray.size = ls.length := by simp [hv.length]
    have hpl : (passing (fun _ => true) vs.toArray.size 0).length = ls.length := by rw [passing_all, List.length_range, hvl]
    refine SC.joinGen W.in4_2 (fun i s' st => st.1.typeIs) hat ?_ List.mem_cons_self (fun j v hv => ?_) (fun s' lt hm hacc => ?_) (by rw [hpl, sizeLine_eq]; omega)
    · intro b hb
      show b < h₅.objs.size
      rw [hsz₅]
      have hag' : h₃.objs.size < a := hag
      rcases List.mem_cons.mp hb with rfl | hb
      · exact Nat.lt_succ_self _
      · rcases List.mem_cons.mp hb with rfl | hb
        · exact Nat.lt_succ_of_lt hag'
        · have : b < h₃.objs.size := List.mem_range.mp hb
          exact Nat.lt_succ_of_lt (Nat.lt_trans this hag')
    · obtain ⟨i, _, x, u, _, e⟩ := hv
      exact ⟨_, u, e⟩
    · have hl : lt.map (·.1) = (ls.map f).map S := by
        apply List.ext_getElem?
        intro j
        have hsz : lt.length = ls.length := by rw [← hpl]; simpa [strValues] using hacc.1
        by_cases hj : j < ls.length
        · have hj' : j < lt.length := hsz ▸ hj
          obtain ⟨i, hi, y, u, ey, e⟩ := hacc.2 j (.str lt[j].1 lt[j].2) (by simp [strValues, List.getElem?_eq_getElem hj'])
          rw [passing_all, List.getElem?_range (by omega)] at hi
          cases hi
          injection e with e1 _
          rw [List.getElem?_map, List.getElem?_eq_getElem hj', List.getElem?_map, List.getElem?_map, ey]
          simp [e1]
        · rw [List.getElem?_eq_none (by simpa [hsz] using Nat.le_of_not_lt hj), List.getElem?_eq_none (by simpa using Nat.le_of_not_lt hj)]
      rw [hl]
      refine ⟨joinOk_of ?_, fun t' k => ?_⟩
      · rw [List.map_map, List.length_map, List.length_map, S_len]
        have : (((ls.map f).map ((·.length) ∘ S))).sum = ((ls.map f).map (·.length)).sum := by congr 1
        rw [this]; exact hsz
      · show Q (.str (glued (S sep) ((ls.map f).map S)) t') _
        rw [StrLaws.glued_eq_join, jn_S]
        have hh : ∀ b o, h₃.get? b = some o → b ≠ s₁.heap.objs.size → b ≠ h₃.objs.size → s'.heap.get? b = some o := fun b o e h1 h2 => hm.heap b o (by
          show b ∉ h₃.objs.size :: [s₁.heap.objs.size]
          simp only [List.mem_cons, List.not_mem_nil, or_false, not_or]; exact ⟨h2, h1⟩) (hk₅ b o e)
        have C' : Cx h₀ L bs ((60, Tab) :: rs) s'.heap := by
          refine C.upd (fun b o hb e => ?_) ?_
          · have := Heap.lt_size e
            exact hh b o (old b o hb e) (Nat.ne_of_lt this) (Nat.ne_of_lt (Nat.lt_of_lt_of_le this (Nat.le_of_succ_le hsz₃')))
          · obtain ⟨o, ho, p⟩ := C3.get (.head _)
            have : (60 : Nat) < h₃.objs.size := Heap.lt_size ho
            exact ⟨o, hh 60 o ho (Nat.ne_of_lt h60) (Nat.ne_of_lt this), p⟩
        have := hq s'.heap k s'.gens t' C' ((G.push hgb).movedS hm)
        have e1 : ({ s' with toks := k } : Shared) = { s₁ with heap := s'.heap, toks := k, gens := s'.gens } := by
          have a1 := hm.drawn
          have a2 := hm.os
          cases s'
          simp only at a1 a2 ⊢
          subst a1 a2
          rfl
        rw [e1]
        exact this
end
end Mine
end

section
set_option maxRecDepth 100000
set_option linter.unusedVariables false
namespace Mine
open PySem PySem.W PySem.Calls PyProof.Rows PySem.Builtin PySem.Builtin.Str

section
variable {M : Model} {A : Around} {E : Value → Shared → Prop} {s : Shared} {name : Str} {scope : Scope} {L a : Addr} {cd : Value} {h₀ : Heap} {bs : List (Str × Value)} {rs : Rs} {w : World} {mg mb : Str → Option Value}
theorem nmLC {x : Str} {pos : Pos} {v : Value} {Q : Value → Shared → Prop} (C : Cx h₀ L bs rs s.heap) (e : bs.lookup x = some v) (hl : scope.names.lookup x = some .local) (hk : scope.kind = .function) (hd : (x == ("__debug__" : Str)) = false) (q : Q v s) :
    wpAny M A (eval (.Name x pos) (envOfC name scope L a cd)) Q E s :=
  let ⟨_, F, hm⟩ := C.fr; ldLoc F (hm _ _ e) q hk hl hd
theorem stLC {x : Str} {v : Value} {Q : Unit → Shared → Prop} (C : Cx h₀ L bs rs s.heap) (hl : scope.names.lookup x = some .local) (hk : scope.kind = .function)
    (q : ∀ h' tk, Cx h₀ L (put x v bs) rs h' → Q () { s with heap := h', toks := tk }) : wpAny M A (storeName (envOfC name scope L a cd) x v) Q E s := by
  obtain ⟨m, F, hm⟩ := id C.fr
  exact wpAny_storeName_local hl F.ns (fun h' hn hs => q h' _ (C.set (fun m' hm' => by
      obtain ⟨o, es, ep, e1, e2, e3⟩ := F.ns
      obtain ⟨o', es', ep', f1, f2, f3⟩ := hm'
      rw [e1] at f1; cases f1
      rw [e2] at f2; cases f2
      have : m' = m := funext fun n => by rw [← e3.2 n, ← f3.2 n]
      subst this
      exact hn) hs))
    (by show (scope.kind == .class || (scope.kind == .module && L != mainGlobals)) = false; rw [hk]; rfl)
theorem nmCC {x : Str} {pos : Pos} {c : Addr} {v : Value} {Q : Value → Shared → Prop} (C : Cx h₀ L bs rs s.heap) (hm : (c, CE (some v)) ∈ rs) (hc : (cellsFrom (L + 1) scope.names []).lookup x = some c) (hl : scope.names.lookup x = some .cell) (hk : scope.kind = .function) (hd : (x == ("__debug__" : Str)) = false) (q : Q v s) :
    wpAny M A (eval (.Name x pos) (envOfC name scope L a cd)) Q E s := by
  obtain ⟨o, ho, e⟩ := C.get hm
  exact wpAny_Name (wpAny_loadName_cell hk hl hc ⟨o, ho, e⟩ q) hd
theorem stCC {x : Str} {c : Addr} {v : Value} {v₀ : Option Value} {Q : Unit → Shared → Prop} (C : Cx h₀ L bs ((c, CE v₀) :: rs) s.heap) (hc : (cellsFrom (L + 1) scope.names []).lookup x = some c) (hl : scope.names.lookup x = some .cell) (hk : scope.kind = .function)
    (q : ∀ h', Cx h₀ L bs ((c, CE (some v)) :: rs) h' → Q () { s with heap := h' }) : wpAny M A (storeName (envOfC name scope L a cd) x v) Q E s := by
  obtain ⟨o, ho, e⟩ := C.get (.head _)
  exact wpAny_storeName_cell hk hl hc ⟨o, ho, e⟩ fun h' hv hs => q h' (C.upd hs.extBut hv)
theorem nmGC {x : Str} {pos : Pos} {v : Value} {Q : Value → Shared → Prop} (C : Cx h₀ L bs rs s.heap) (G : Gl w mg mb h₀) (e : nsIn (hd.heap_39 w.params) mainGlobals x = some (some v)) (hl : scope.names.lookup x = some .globalImplicit) (hk : scope.kind = .function)
    (hd : (x == ("__debug__" : Str)) = false) (q : Q v s) : wpAny M A (eval (.Name x pos) (envOfC name scope L a cd)) Q E s :=
  Calls.Name_function_global hk hl (Calls.loadGlobal_global (env := envOfC name scope L a cd) (G.g.keeps C.keep) (mg_of G.X G.g e) q) hd
theorem nmBC {x : Str} {pos : Pos} {v : Value} {Q : Value → Shared → Prop} (C : Cx h₀ L bs rs s.heap) (G : Gl w mg mb h₀) (e : nsIn (hd.heap_39 w.params) mainGlobals x = some none) (hv : bootBuiltins x = some v) (hn : x ≠ "__name__") (hl : scope.names.lookup x = some .globalImplicit) (hk : scope.kind = .function)
    (hd : (x == ("__debug__" : Str)) = false) (q : Q v s) : wpAny M A (eval (.Name x pos) (envOfC name scope L a cd)) Q E s :=
  Calls.Name_function_global hk hl (Calls.loadGlobal_builtin (env := envOfC name scope L a cd) (G.g.keeps C.keep) (mg_none_of G.X G.g e) (G.b.keeps C.keep) ((G.builtins x hn).trans hv) q) hd
end

section
variable {prog : Program} {w : World} {A : Around} {E : Value → Shared → Prop} {s : Shared} {mg mb : Str → Option Value} {Q : Value → Shared → Prop}
/-- x[k:] of a text -/
theorem dropS_C {value lower : PySem.Expr} {p pos : Pos} {env : Env} (ht : ∀ o r, letTemporaryGo value o r = pure ())
    (h : wpAny (model prog w) A (eval value env) (fun o s₁ => wpAny (model prog w) A (eval lower env) (fun vl s₂ =>
      ∃ (x : List Nat) (t : Tok) (k : Nat) (u : Tok), o = .str (S x) t ∧ vl = .int k u ∧ x.length ≤ 1000000 ∧
        ∀ t' h' tk, Kp s₂.heap h' → Q (.str (S (x.drop k)) t') { s₂ with heap := h', toks := tk }) E s₁) E s) :
    wpAny (model prog w) A (eval (.Subscript value (.Slice (some lower) none none p) pos) env) Q E s := by
  refine wpAny_Subscript_str_slice (wpAny_mono h (fun o s₁ h₁ => ?_) fun _ _ e => e) ht
  refine wpAny_mono h₁ (fun vl s₂ h₂ => ?_) fun _ _ e => e
  obtain ⟨x, t, k, u, e, rfl, hsz, q⟩ := h₂
  refine wpAny_pure (a := Value.none) ⟨S x, t, some ((k : Int), u), none, e, rfl, rfl, ?_⟩
  have ep : slicePicked (S x) (some ((k : Int), u)) none none = (List.range (x.length - min k x.length)).map (min k x.length + ·) := by
    show strSliceIndices (some (k : Int)) none 1 (S x).length = _
    rw [S_len]
    show sliceRange (max 0 (min (if (k : Int) < 0 then (k : Int) + (x.length : Int) else (k : Int)) (x.length : Int))) (x.length : Int) 1 = _
    have e1 : max 0 (min (if (k : Int) < 0 then (k : Int) + (x.length : Int) else (k : Int)) (x.length : Int)) = ((min k x.length : Nat) : Int) := by
      rw [if_neg (by omega)]; omega
    rw [e1]
    exact sliceRange_one _ _
  have ed : (x.drop (min k x.length)).take (x.length - min k x.length) = x.drop k := by
    rw [List.take_of_length_le (by simp)]
    by_cases hk : k ≤ x.length
    · rw [Nat.min_eq_left hk]
    · rw [Nat.min_eq_right (by omega), List.drop_length, List.drop_of_length_le (by omega)]
  have ef : ((List.range (x.length - min k x.length)).map (min k x.length + ·)).filterMap ((S x).cps[·]?) = x.drop k := by rw [pick_run, S_list, ed]
  unfold sliceMade
  rw [ep]
  split
  · rename_i hc
    have hlen : x.length - min k x.length = x.length := by
      have : ((List.range (x.length - min k x.length)).map (min k x.length + ·)).length = (S x).length := by simpa using hc
      rwa [List.length_map, List.length_range, S_len] at this
    have ee : x.drop k = x := by
      by_cases hx : x = []
      · subst hx; simp
      · have : 0 < x.length := List.length_pos_iff.mpr hx
        have : k = 0 := by omega
        rw [this]; rfl
    have := q t _ s₂.toks (Kp.push s₂.heap { cls := .type "slice", data := .fields #[.int k u, .none, .none] })
    rw [ee] at this
    exact this
  · rw [ef]
    refine ⟨?_, q _ _ _ (Kp.push _ _)⟩
    show (S (x.drop k)).length ≤ sizeLine
    rw [S_len, sizeLine_eq, List.length_drop]; omega

/-- the heap with the table out of sight -/
noncomputable def hid (h : Heap) : Heap := hideAll h [60]
theorem hid_keeps {hb h : Heap} (k : Kp hb h) (hn : hb.get? 60 = none) : Kp hb (hid h) := fun b o e =>
  hideAll_get _ (k b o e) (by simp only [List.mem_singleton]; intro q; subst q; rw [hn] at e; cases e)
theorem hid_none (h : Heap) : (hid h).get? 60 = none := hideAll_none _ (List.mem_singleton.mpr rfl)
theorem hid_back {h h' : Heap} (k : Kp (hid h) h') : Heap.ExtBut 60 h h' := fun b o hb e => k b o (hideAll_get _ e (by simpa using hb))
theorem Kq.trans {h h' h'' : Heap} (k : Kq h h') (k' : Kq h' h'') : Kq h h'' := ⟨fun b o hb e => k'.1 b o hb (k.1 b o hb e), k'.2⟩

/-- what a caller of the second kind knows: a base without the table, kept; the table; the generators bare -/
structure Ck (w : World) (mg mb : Str → Option Value) (s : Shared) : Prop where
  base : ∃ hb, Gl w mg mb hb ∧ Gm mg hb ∧ hb.get? 60 = none ∧ Kp hb s.heap
  tab : ∃ o, s.heap.get? 60 = some o ∧ Tab o
  bare : AllBare s.gens
theorem Ck.of {h₀ : Heap} {L : Addr} {bs : List (Str × Value)} {rs : Rs} (G : Gl w mg mb h₀) (m : Gm mg h₀) (C : Cx h₀ L bs ((60, Tab) :: rs) s.heap) (g : AllBare s.gens) : Ck w mg mb s :=
  ⟨⟨h₀, G, m, C.fresh _ (.head _), C.keep⟩, C.get (.head _), g⟩
theorem Ck.gl (k : Ck w mg mb s) : Gl w mg mb (hid s.heap) := let ⟨hb, G, m, hn, kp⟩ := k.base; G.keeps (hid_keeps kp hn)
theorem Ck.gm (k : Ck w mg mb s) : Gm mg (hid s.heap) := let ⟨hb, G, m, hn, kp⟩ := k.base; m.keeps (hid_keeps kp hn)
theorem Ck.gl' (k : Ck w mg mb s) : Gl w mg mb s.heap := let ⟨hb, G, m, hn, kp⟩ := k.base; G.keeps kp
theorem Cx.back {L : Addr} {bs : List (Str × Value)} {rs : Rs} {h h' : Heap} (C : Cx (hid h) L bs ((60, Tab) :: rs) h') : Kq h h' := ⟨hid_back C.keep, C.get (.head _)⟩

/-- entering a def of the second kind: the table is a resource -/
theorem enter2 {f : Addr} {oc dV kV doc pm cdv ct : Value} {od an : Option Addr} {osl : Array (Option Value)} {nm qual : Str} {params : Arguments} {body : List Stmt} {scope : Scope} {args : List Value} {binds : List (Str × Value)} {n : Nat}
    (K : Ck w mg mb s) (R : Room A (n + 1)) (ho : (hd.heap_39 w.params).lookup f = some ⟨oc, od, .func (fnOf nm qual params body scope dV kV doc pm an cdv ct), osl⟩)
    (hcd : codeIn (hd.heap_39 w.params) cdv qual = true) (hbind : bindArgs (fnOf nm qual params body scope dV kV doc pm an cdv ct) ⟨args, []⟩ = pure binds)
    (hloc : (binds.all fun x => decide (scope.names.lookup x.1 = some .local)) = true)
    (hco : scope.isCoroutine = false) (hgen : scope.isGenerator = false) (hk : scope.kind = .function) (hcell : (scope.names.all fun x => decide (x.2 ≠ .cell)) = true)
    (h : ∀ L h₁ tk, Gl w mg mb (hid s.heap) → Gm mg (hid s.heap) → Cx (hid s.heap) L binds.reverse [(60, Tab)] h₁ → Room (A.deeper (envOf qual scope L f cdv)) n →
      wpAny (model prog w) (A.deeper (envOf qual scope L f cdv)) (execs body (envOf qual scope L f cdv)) (fun fl s' => Q (match fl with | .ret v => v | _ => .none) s') (fun _ _ => False) { s with heap := h₁, toks := tk }) :
    wpAny (model prog w) A (call (.ref f) args) Q E s := by
  refine enter K.gl' R ho hcd hbind hloc hco hgen hk hcell fun L h₁ tk C R' => h L h₁ tk K.gl K.gm ?_ R'
  obtain ⟨m, F, hm⟩ := C.fr
  obtain ⟨o, e, p⟩ := K.tab
  have h60 : (60 : Nat) < L := Nat.lt_of_lt_of_le (Heap.lt_size e) F.above
  refine ⟨⟨m, ⟨F.ns, fun b o e => F.keep b o (of_hideAll _ e), by rw [show (hid s.heap).objs.size = _ from hideAll_size _ _]; exact F.above⟩, hm⟩, ?_, ?_, ?_⟩
  · intro r hr
    rw [List.mem_singleton.mp hr]
    exact ⟨o, F.keep _ _ e, p⟩
  · intro r hr
    rw [List.mem_singleton.mp hr]
    exact hid_none _
  · simp only [List.map_cons, List.map_nil, List.nodup_cons, List.mem_singleton, List.not_mem_nil, not_false_eq_true, List.nodup_nil, and_true]
    exact Nat.ne_of_gt h60
end
end Mine
end

section
set_option maxRecDepth 100000
set_option linter.unusedVariables false
namespace Mine
open PySem PySem.W PySem.Calls PyProof.Rows PySem.Builtin PySem.Builtin.Str
section
variable {prog : Program} {w : World} {A : Around} {E : Value → Shared → Prop} {s : Shared} {mg mb : Str → Option Value} {Q : Value → Shared → Prop}
abbrev nmCom : Str := Str.ofString "reformat_comment"
/-- entering reformat_comment -/
theorem enter65 {n : Nat} {vd vl vh : Value} {body : List Stmt} {scope : Scope} (hb : body = fnBody w 65) (hsc : scope = fnScope w 65)
    (K : Ck w mg mb s) (R : Room A (n + 1))
    (h : ∀ L h₁ tk, Gl w mg mb (hid s.heap) → Gm mg (hid s.heap) → Cx (hid s.heap) L [(Str.ofString "data", vd), (Str.ofString "limit", vl)] [(60, Tab), (L + 2, CE none), (L + 1, CE (some vh))] h₁ → Room (A.deeper (envOfC nmCom scope L 65 (.ref 64))) n →
      wpAny (model prog w) (A.deeper (envOfC nmCom scope L 65 (.ref 64))) (execs body (envOfC nmCom scope L 65 (.ref 64))) (fun fl s' => Q (match fl with | .ret v => v | _ => .none) s') (fun _ _ => False) { s with heap := h₁, toks := tk }) :
    wpAny (model prog w) A (call (.ref 65) [vd, vl, vh]) Q E s := by
  conv at hb => rhs; whnf
  conv at hsc => rhs; whnf
  subst hb hsc
  have G := K.gl'
  refine wpAny_call (codeAny_call_cells (binds := [(Str.ofString "data", vd), (Str.ofString "limit", vl), (Str.ofString "comment_header", vh)]) (by have := R.d; show A.depth < 1000; omega) (G.X 65 _ rfl) rfl G.nolimit (codeRec_of G.X rfl) rfl rfl rfl ?_ (fun s₁ X => ?_) rfl rfl rfl)
  · intro x hx
    simp only [List.mem_cons, List.not_mem_nil, or_false] at hx
    rcases hx with rfl | rfl | rfl
    · exact .inl rfl
    · exact .inl rfl
    · exact .inr ⟨rfl, rfl⟩
  · obtain ⟨h₁, tk, rfl, _⟩ := X.done
    have hns := X.toInCall.ns
    have hkp := X.toInCall.keep
    have hfr := X.toInCall.fresh
    have c1 := X.cell (Str.ofString "comment_header") (s.heap.objs.size + 1) rfl
    have c2 := X.cell (Str.ofString "lc") (s.heap.objs.size + 2) rfl
    obtain ⟨o, e, p⟩ := K.tab
    have h60 : (60 : Nat) < s.heap.objs.size := Heap.lt_size e
    refine wpAny_mono (h s.heap.objs.size h₁ tk K.gl K.gm ⟨⟨_, ⟨hns, fun b o e => hkp b o (of_hideAll _ e), by rw [show (hid s.heap).objs.size = _ from hideAll_size _ _]; exact hfr⟩, ?_⟩, ?_, ?_, ?_⟩ (R.deeper _)) (fun _ _ q => q) fun _ _ e => e.elim
    · intro x v e
      have := mem_of_lookup e
      simp only [List.mem_cons, List.not_mem_nil, or_false, Prod.mk.injEq] at this
      rcases this with ⟨rfl, rfl⟩ | ⟨rfl, rfl⟩
      · rfl
      · rfl
    · intro r hr
      simp only [List.mem_cons, List.not_mem_nil, or_false] at hr
      rcases hr with rfl | rfl | rfl
      · exact ⟨o, hkp _ _ e, p⟩
      · exact c2
      · exact c1
    · intro r hr
      simp only [List.mem_cons, List.not_mem_nil, or_false] at hr
      have nn : ∀ k, s.heap.objs.size ≤ k → (hid s.heap).get? k = none := fun k hk => Heap.get?_none_of_le (by rw [show (hid s.heap).objs.size = _ from hideAll_size _ _]; exact hk)
      rcases hr with rfl | rfl | rfl
      · exact hid_none _
      · exact nn _ (Nat.le_add_right _ _)
      · exact nn _ (Nat.le_add_right _ _)
    · show ([s.heap.objs.size, 60, s.heap.objs.size + 2, s.heap.objs.size + 1] : List Nat).Nodup
      generalize (s.heap.objs.size : Nat) = k at h60
      simp only [List.nodup_cons, List.mem_cons, List.not_mem_nil, or_false, not_or, not_false_eq_true, List.nodup_nil, and_true]
      omega
end
end Mine
end

section
set_option maxRecDepth 100000
set_option linter.unusedVariables false
namespace Mine
open PySem PySem.W PySem.Calls PyProof.Rows PySem.Builtin PySem.Builtin.Str

theorem pg_jn' (pre : List Nat) : ∀ {rows : List (List (List Nat))}, rows ≠ [] → pg pre rows = jn [10] (rows.map (rowT pre)) ++ [10]
  | [r], _ => by simp [pg, rowT, jn]
  | r :: r' :: rest, _ => by
    have ih := pg_jn' pre (rows := r' :: rest) (by simp)
    rw [show pg pre (r :: r' :: rest) = (pre ++ jn [32] r ++ [10]) ++ pg pre (r' :: rest) from rfl, ih]
    show _ = jn [10] (rowT pre r :: (r' :: rest).map (rowT pre)) ++ [10]
    rw [jn_cons _ _ (by simp)]
    simp [rowT]
theorem rows_sum (pre : List Nat) (rows : List (List (List Nat))) : ((rows.map (rowT pre)).map fun x : List Nat => x.length).sum + rows.length = (pg pre rows).length := by
  induction rows with
  | nil => rfl
  | cons r rest ih => simp [pg, rowT] at ih ⊢; omega
theorem strs_snoc {vs : List Value} {ls : List (List Nat)} {x : List Nat} (hv : StrsAre vs ((ls ++ [x]).map S)) : ∃ us t, vs = us ++ [.str (S x) t] ∧ StrsAre us (ls.map S) := by
  induction ls generalizing vs with
  | nil =>
    cases hv with
    | cons _ t h => cases h; exact ⟨[], t, rfl, .nil⟩
  | cons y r ih =>
    cases hv with
    | cons _ t h =>
      obtain ⟨us, t', e, h'⟩ := ih h
      exact ⟨.str (S y) t :: us, t', by rw [e]; rfl, .cons _ _ h'⟩

theorem Cx.latE {h₀ h : Heap} {L l : Addr} {bs : List (Str × Value)} {rs : Rs} {vs us : List Value} (C : Cx h₀ L bs rs h) (e : vs = us) (m : (l, PL vs) ∈ rs) : LAt h l us := e ▸ C.lat m
section
variable {prog : Program} {w : World} {A : Around} {E : Value → Shared → Prop} {s : Shared} {mg mb : Str → Option Value} {n : Nat} {Q : Value → Shared → Prop}
theorem add_SE {a b c : List Nat} {t u : Tok} (e : a ++ b = c) (hsz : c.length ≤ 16777216) (q : ∀ t' tk, Q (.str (S c) t') { s with toks := tk }) : wpAny (model prog w) A (binaryOp .Add (.str (S a) t) (.str (S b) u)) Q E s := by
  subst e
  exact add_S (by simpa using hsz) q
theorem para_call' (G : Gl w mg mb s.heap) (R : Room A (n + 2)) {ind : List Nat} {rows gs : List (List (List Nat))} {lim : Int} {t u : Tok} (hi : ind = [] ∨ ind = [32]) (hne : rows ≠ []) (hg : ∀ ws ∈ rows, GoodR ws) (hsz : (pg ind rows).length ≤ 100000)
    (hgs : groups lim ind rows.flatten = gs) (q : ∀ h' t' tk, Kp s.heap h' → Q (.str (S (pg ind gs)) t') { s with heap := h', toks := tk }) : wpAny (model prog w) A (call (.ref 58) [.str (S (pg ind rows)) t, .int lim u]) Q E s := by
  subst hgs
  exact para_call G R hi hne hg hsz q
set_option maxHeartbeats 400000 in
theorem comment_call (K : Ck w mg mb s) (R : Room A (n + 3)) {H ind : List Nat} {rows gs : List (List (List Nat))} {lim : Int} {t u v : Tok} (hi : ind = [] ∨ ind = [32]) (hH : H.length ≤ 5) (hH10 : 10 ∉ H)
    (hne : rows ≠ []) (hg : ∀ ws ∈ rows, GoodR ws) (hsz : (pg (H ++ ind) rows).length ≤ 100000)
    (hgs : groups (max (lim - H.length) 20) ind rows.flatten = gs) (q : ∀ h' t' tk g, Kq s.heap h' → AllBare g → Q (.str (S (pg (H ++ ind) gs)) t') { s with heap := h', toks := tk, gens := g }) :
    wpAny (model prog w) A (call (.ref 65) [.str (S (pg (H ++ ind) rows)) t, .int lim u, .str (S H) v]) Q E s := by
  obtain ⟨body, hb⟩ : ∃ b, b = fnBody w 65 := ⟨_, rfl⟩
  obtain ⟨scope, hsc⟩ : ∃ b, b = fnScope w 65 := ⟨_, rfl⟩
  refine enter65 hb hsc K R ?_
  conv at hb => rhs; whnf
  conv at hsc => rhs; whnf
  subst hb hsc
  intro L h₁ tk G Mm C R'
  have hbare := K.bare
  have hcnt : rows.length ≤ 100000 := Nat.le_trans (pg_count _ rows) hsz
  have hgw : ∀ w ∈ rows.flatten, GoodW w := fun v hv => by
    obtain ⟨ws, hw, hv⟩ := List.mem_flatten.mp hv
    exact (hg ws hw).2 v hv
  have hne' : rows.flatten ≠ [] := by
    obtain ⟨r, rest, rfl⟩ := List.exists_cons_of_ne_nil hne
    obtain ⟨w, ws, e⟩ := List.exists_cons_of_ne_nil (hg r (.head _)).1
    simp [e]
  have hws : wsum rows.flatten ≤ 100000 := Nat.le_trans (pg_len_ge _ hg) hsz
  have hil : ind.length ≤ 1 := by rcases hi with rfl | rfl <;> simp
  have hi10 : 10 ∉ ind := by rcases hi with rfl | rfl <;> simp
  -- lc = len(comment_header)
  refine sAssign rfl (callB1 (id := "len") rfl (nmBC C G rfl rfl (by decide) rfl rfl rfl ⟨rfl, ?_⟩))
  refine nmCC C (.tail _ (.tail _ (.head _))) rfl rfl rfl rfl (len_S rfl (by omega) fun t1 tk1 => ?_)
  refine stCC (c := L + 2) C.swap rfl rfl rfl fun h2 C => ?_
  replace C := C.swap
  -- data = join
  refine sAssign rfl ?_
  with_reducible refine meth1 (T := "str") (id := "str.join") base_const ?a1 ?a2 F.plainAttrs_str F.slot_str_join F.type_str_join ?_
  case a1 => rfl
  case a2 => rfl
  refine constS (l := [10]) rfl fun t3 tk3 => ⟨⟨typeIs_str _ _ _, fun a e => nomatch e⟩, ?_⟩
  refine join_gen_C (h₀ := hid s.heap) (L := L) (cl := [(Str.ofString "lc", L + 2)]) Mm G rfl rfl R'.hh rfl rfl rfl rfl rfl rfl (by have := R'.d; omega) (fun x => rfl) ?_
  refine meth1 rfl rfl rfl F.plainAttrs_str F.slot_str_split F.type_str_split ?_
  refine nmLC C rfl rfl rfl rfl ⟨⟨typeIs_str _ _ _, fun a e => nomatch e⟩, ?_⟩
  refine constS (l := [10]) rfl fun t4 tk4 => ?_
  refine split_C C (pg_jn (H ++ ind) rows) (by simp) ?_ (by omega) ?_
  · intro l hl
    rcases List.mem_append.mp hl with hl | hl
    · obtain ⟨ws, hw, rfl⟩ := List.mem_map.mp hl
      exact row_no (hg ws hw) (by simp [hH10, hi10]) (by decide) (by decide)
    · rw [List.mem_singleton.mp hl]; simp
  intro ll lvs h5 tk5 hlv C
  have hfm : (rows.map (rowT (H ++ ind)) ++ [[]]).map (fun x : List Nat => x.drop H.length) = rows.map (rowT ind) ++ [[]] := by
    rw [List.map_append, List.map_map]
    congr 1
    · apply List.map_congr_left
      intro r _
      simp [rowT]
    · simp
  refine ⟨ll, lvs, _, (fun x : List Nat => x.drop H.length), [(Str.ofString "data", .str (S (pg (H ++ ind) rows)) t), (Str.ofString "limit", .int lim u)], [(ll, PL lvs), (L + 2, CE (some (.int H.length t1))), (L + 1, CE (some (.str (S H) v)))], pg ind rows, rfl, C.lat (.head _), hlv, C.swap, hbare, by simp; omega, by rw [hfm, ← pg_jn], ?_, ?_, ?_⟩
  · rw [hfm]
    have := pg_join ind rows
    have h1 := pg_len ind (rows := rows) fun ws hw => (hg ws hw).1
    have h2 : rows.length * ind.length ≤ 100000 := Nat.le_trans (Nat.mul_le_mul hcnt hil) (by omega)
    simp only [List.length_append, List.length_map, List.length_cons, List.length_nil, Nat.mul_one] at this ⊢
    omega
  · intro Cl code A' E' y t' s₂ m₂ hy hns hm hkeep
    obtain ⟨oc, hoc, ec⟩ := C.get (.tail _ (.tail _ (.head _)))
    have h60 : L + 2 ≠ 60 := by
      have := C.nd
      simp only [List.map_cons, List.map_nil, List.nodup_cons, List.mem_cons, List.not_mem_nil, or_false, not_or] at this
      exact fun e => this.2.2.1.1 e.symm
    have hyl : y.length ≤ 100000 := by
      rcases List.mem_append.mp hy with hy | hy
      · obtain ⟨r, hr, rfl⟩ := List.mem_map.mp hy
        exact Nat.le_trans (pg_row_le _ hr) hsz
      · rw [List.mem_singleton.mp hy]; simp
    refine dropS_C (fun _ _ => rfl) ?_
    refine ldG hns hm ?_ rfl rfl rfl
    refine wpAny_Name (wpAny_loadName_free (c := L + 2) (v := .int H.length t1) rfl rfl rfl ⟨oc, hkeep _ _ h60 hoc, ec⟩ ?_) rfl
    exact ⟨y, t', H.length, t1, rfl, rfl, by omega, fun t'' h' tk k => ⟨⟨t'', rfl⟩, h', tk, rfl, k⟩⟩
  intro h6 tk6 g6 t6 C hbare
  refine stLC C rfl rfl fun h7 tk7 C => ?_
  -- format_width
  refine sAssign rfl (callB2 (id := "max") rfl (nmBC C G rfl rfl (by decide) rfl rfl rfl ⟨rfl, ?_⟩))
  refine wpAny_BinOp (nmLC C rfl rfl rfl rfl ?_)
  refine callB1 (id := "len") rfl (nmBC C G rfl rfl (by decide) rfl rfl rfl ⟨rfl, ?_⟩)
  refine nmCC C (.tail _ (.tail _ (.tail _ (.head _)))) rfl rfl rfl rfl (len_S rfl (by omega) fun t8 tk8 => ?_)
  refine subI rfl fun t9 tk9 => constI fun t10 tk10 => ?_
  refine max_two_ints R'.hh fun h11 tk11 k11 => ?_
  replace C := C.keeps k11
  have hmax : ∃ t', (if (20 : Int) > lim - H.length then Value.int 20 t10 else .int (lim - H.length) t9) = .int (max (lim - H.length) 20) t' := by
    split
    · exact ⟨t10, by congr 1; omega⟩
    · exact ⟨t9, by congr 1; omega⟩
  obtain ⟨t11, e11⟩ := hmax
  rw [e11]
  refine stLC C rfl rfl fun h12 tk12 C => ?_
  replace C := C.re (bs' := [(Str.ofString "data", .str (S (pg ind rows)) t6), (Str.ofString "format_width", .int (max (lim - H.length) 20) t11)]) ⟨rfl, rfl, trivial⟩
  -- newdata = reformat_paragraph(data, format_width)
  refine sAssign rfl (callF2 (f := 58) (mg := mg) (mb := mb) rfl rfl rfl (nmGC C G (v := .ref 58) rfl rfl rfl rfl ⟨rfl, ?_⟩))
  refine nmLC C rfl rfl rfl rfl (nmLC C rfl rfl rfl rfl ⟨G.keeps C.keep, ?_⟩)
  have hpgl : (pg ind rows).length ≤ 100000 := by
    have h1 := pg_len ind (rows := rows) fun ws hw => (hg ws hw).1
    have h2 := pg_len (H ++ ind) (rows := rows) fun ws hw => (hg ws hw).1
    have h3 : rows.length * ind.length ≤ rows.length * (H ++ ind).length := Nat.mul_le_mul_left _ (by simp)
    omega
  refine para_call' (G.keeps C.keep) R' hi hne hg hpgl hgs fun h13 t13 tk13 k13 => ?_
  replace C := C.keeps k13
  refine stLC C rfl rfl fun h14 tk14 C => ?_
  have hgg : ∀ x ∈ gs, GoodR x := hgs ▸ groups_good hne' hgw
  have hgn : gs ≠ [] := by rw [← hgs]; unfold groups; simp
  have hgl : gs.length ≤ 100001 := by rw [← hgs]; exact Nat.le_trans (groups_len _ _ _ hgw) (by omega)
  have hgf : gs.flatten = rows.flatten := hgs ▸ groups_flat _ _ _
  -- newdata = newdata.split
  refine sAssign rfl (meth1 rfl rfl rfl F.plainAttrs_str F.slot_str_split F.type_str_split ?_)
  refine nmLC C rfl rfl rfl rfl ⟨⟨typeIs_str _ _ _, fun a e => nomatch e⟩, ?_⟩
  refine constS (l := [10]) rfl fun t15 tk15 => ?_
  have hgpl : (pg ind gs).length ≤ 300000 := by
    have h1 := pg_len ind (rows := gs) fun ws hw => (hgg ws hw).1
    have h2 : gs.length * ind.length ≤ 100001 := Nat.le_trans (Nat.mul_le_mul hgl hil) (by omega)
    rw [hgf] at h1
    omega
  refine split_C C (pg_jn ind gs) (by simp) ?_ (by omega) ?_
  · intro l hl
    rcases List.mem_append.mp hl with hl | hl
    · obtain ⟨ws, hw, rfl⟩ := List.mem_map.mp hl
      exact row_no (hgg ws hw) hi10 (by decide) (by decide)
    · rw [List.mem_singleton.mp hl]; simp
  intro nl nvs h16 tk16 hnv C
  refine stLC C rfl rfl fun h17 tk17 C => ?_
  have hsn := strs_snoc (ls := gs.map (rowT ind)) (x := []) hnv
  -- here1
  obtain ⟨us, hsn⟩ := hsn
  -- here2
  obtain ⟨tu, hue, hus⟩ := hsn
  -- block_suffix = ''
  refine sAssign rfl (constS (l := []) rfl fun t18 tk18 => stLC C rfl rfl fun h18 tk18' C => ?_)
  -- if not newdata[-1]
  refine sIf (isTrue_not (isTrue_plain ?_ rfl))
  refine Subscript_ (nmLC C rfl rfl rfl rfl (wpAny_UnaryOp (constI fun t19 tk19 => P.neg_int ?_)))
  refine idx_last (C.latE hue (.head _)) (by with_unfolding_all rfl) ?_
  refine truthy_S (by simp) fun tk20 => ?_
  -- here3
  with_reducible refine br ?_ ?_
  -- here5
  rotate_left
  · intro h
    exact absurd h (by decide)
  intro _
  -- here4
  refine sAssign rfl (constS (l := [10]) rfl fun t21 tk21 => stLC C rfl rfl fun h21 tk21' C => ?_)
  replace C := C.re (bs' := [(Str.ofString "newdata", .ref nl), (Str.ofString "block_suffix", .str (S [10]) t21)]) ⟨rfl, rfl, trivial⟩
  -- newdata = newdata[:-1]
  refine sAssign rfl (slice_C (h₀ := hid s.heap) (L := L) (by intro _ _; rfl) ?_)
  refine nmLC C rfl rfl rfl rfl (wpAny_pure (a := Value.none) (wpAny_UnaryOp (constI fun t22 tk22 => P.neg_int ?_)))
  have husl : us.length = gs.length := by rw [hus.length, List.length_map, List.length_map]
  refine ⟨nl, _, none, some (-1), _, _, rfl, C.latE hue (.head _), by simp; omega, .none, .int (-1) _, C, fun ml h23 C => ?_⟩
  have hsl : (slicePick (us ++ [Value.str (S []) tu]).toArray none (some (-1)) none).toList = us := by
    have := slicePick_butLast (us ++ [Value.str (S []) tu]).toArray 1 (Nat.le_refl _)
    rw [show (some (-(1 : Nat) : Int)) = some (-1) from rfl] at this
    rw [this]
    simp
  rw [hsl] at C
  refine stLC C rfl rfl fun h24 tk24 C => sNil (then_next ?_)
  replace C := C.re (bs' := [(Str.ofString "newdata", .ref ml), (Str.ofString "block_suffix", .str (S [10]) t21)]) ⟨rfl, rfl, trivial⟩
  -- the end
  refine sReturn (wpAny_BinOp ?_)
  with_reducible refine meth1 (T := "str") (id := "str.join") base_const ?b1 ?b2 F.plainAttrs_str F.slot_str_join F.type_str_join ?_
  case b1 => rfl
  case b2 => rfl
  refine constS (l := [10]) rfl fun t25 tk25 => ⟨⟨typeIs_str _ _ _, fun a e => nomatch e⟩, ?_⟩
  refine join_gen_C (h₀ := hid s.heap) (L := L) (cl := [(Str.ofString "comment_header", L + 1)]) Mm G rfl rfl R'.hh rfl rfl rfl rfl rfl rfl (by have := R'.d; omega) (fun x => rfl) ?_
  refine nmLC C rfl rfl rfl rfl ?_
  have C2 : Cx (hid s.heap) L [(Str.ofString "newdata", .ref ml), (Str.ofString "block_suffix", .str (S [10]) t21)] [(60, Tab), (ml, PL us), (L + 1, CE (some (.str (S H) v)))] h24 := by
    refine C.sub (fun _ _ e => e) (fun r hr => ?_) ?_
    · simp only [List.mem_cons, List.not_mem_nil, or_false] at hr ⊢
      rcases hr with rfl | rfl | rfl <;> simp
    · have := C.nd
      simp only [List.map_cons, List.map_nil, List.nodup_cons, List.mem_cons, List.not_mem_nil, or_false, not_or, not_false_eq_true, List.nodup_nil, and_true] at this ⊢
      obtain ⟨_, ⟨_, x1, _, _, x2⟩, _, ⟨_, x3⟩, _⟩ := this
      exact ⟨⟨fun e => x1 e.symm, by grind⟩, by grind⟩
  have hfm2 : (gs.map (rowT ind)).map (fun x : List Nat => H ++ x) = gs.map (rowT (H ++ ind)) := by
    rw [List.map_map]
    apply List.map_congr_left
    intro r _
    simp [rowT]
  have hgH : (pg (H ++ ind) gs).length ≤ 1000000 := by
    have h1 := pg_len (H ++ ind) (rows := gs) fun ws hw => (hgg ws hw).1
    have h2 : gs.length * (H ++ ind).length ≤ 100001 * 6 := Nat.mul_le_mul hgl (by simp; omega)
    rw [hgf] at h1
    omega
  refine ⟨ml, us, _, (fun x : List Nat => H ++ x), _, _, jn [10] (gs.map (rowT (H ++ ind))), rfl, C.lat (.head _), hus, C2, hbare, by simp; omega, by rw [hfm2], ?_, ?_, ?_⟩
  · rw [hfm2]
    have := rows_sum (H ++ ind) gs
    simp only [List.length_map, List.length_cons, List.length_nil, Nat.zero_add, Nat.mul_one]
    omega
  · intro Cl code A' E' y t' s₂ m₂ hy hns hm hkeep
    obtain ⟨oc, hoc, ec⟩ := C2.get (.tail _ (.tail _ (.head _)))
    have h60 : L + 1 ≠ 60 := by
      have := C2.nd
      simp only [List.map_cons, List.map_nil, List.nodup_cons, List.mem_cons, List.not_mem_nil, or_false, not_or] at this
      exact fun e => this.2.1.2 e.symm
    have hyl : y.length ≤ 300000 := by
      obtain ⟨r, hr, rfl⟩ := List.mem_map.mp hy
      exact Nat.le_trans (pg_row_le _ hr) hgpl
    refine wpAny_BinOp (wpAny_Name (wpAny_loadName_free (c := L + 1) (v := .str (S H) v) rfl rfl rfl ⟨oc, hkeep _ _ h60 hoc, ec⟩ ?_) rfl)
    refine ldG hns hm ?_ rfl rfl rfl
    exact add_S (by omega) fun t'' tk => ⟨⟨t'', rfl⟩, s₂.heap, tk, rfl, fun _ _ e => e⟩
  intro h26 tk26 g26 t26 C hbare
  refine nmLC C rfl rfl rfl rfl ?_
  -- here6
  refine add_SE (pg_jn' (H ++ ind) hgn).symm (by omega) fun t27 tk27 => ?_
  exact q h26 t27 tk27 g26 C.back hbare
end
end Mine
end

section
set_option maxRecDepth 100000
set_option linter.unusedVariables false
namespace Mine
open PySem PySem.W PySem.Calls PyProof.Rows PySem.Builtin PySem.Builtin.Str

def indOf (H : List Nat) : List Nat := if 35 ∈ H then [32] else []
def limOf (H : List Nat) (lim : Int) : Int := if H = [] then lim else max (lim - H.length) 20
/-- a block as it is filled -/
def fillT (lim : Int) (H : List Nat) (cur : List (List (List Nat))) : List Nat := if cur = [] then [] else pg (H ++ indOf H) (groups (limOf H lim) (indOf H) cur.flatten)
theorem indOf_or (H : List Nat) : indOf H = [] ∨ indOf H = [32] := by unfold indOf; split <;> simp
theorem pg_ne {pre : List Nat} {rows : List (List (List Nat))} (h : rows ≠ []) : pg pre rows ≠ [] := by
  obtain ⟨r, rest, rfl⟩ := List.exists_cons_of_ne_nil h
  simp [pg]

section
variable {prog : Program} {w : World} {A : Around} {E : Value → Shared → Prop} {s : Shared} {mg mb : Str → Option Value} {n : Nat} {Q : Value → Shared → Prop}
set_option maxHeartbeats 1000000 in
theorem filled_call (K : Ck w mg mb s) (R : Room A (n + 4)) {H x y : List Nat} {cur : List (List (List Nat))} {lim : Int} {t u v : Tok} (hx : pg (H ++ indOf H) cur = x) (hy : fillT lim H cur = y) (hH : cur ≠ [] → H.length ≤ 5 ∧ 10 ∉ H)
    (hg : ∀ ws ∈ cur, GoodR ws) (hsz : x.length ≤ 100000)
    (q : ∀ h' t' tk g, Kq s.heap h' → AllBare g → Q (.str (S y) t') { s with heap := h', toks := tk, gens := g }) :
    wpAny (model prog w) A (call (.ref 112) [.str (S x) t, .str (S H) v, .int lim u]) Q E s := by
  refine enter2 K R rfl rfl (binds := [(Str.ofString "block", .str (S x) t), (Str.ofString "header", .str (S H) v), (Str.ofString "limit", .int lim u)]) rfl rfl rfl rfl rfl rfl ?_
  intro L h₁ tk G Mm C R'
  have hbare := K.bare
  -- if block == ''
  refine sIf (wpAny_isTrue_Compare1 (nmL C rfl rfl rfl rfl (constS (l := []) rfl fun t1 tk1 => eq_S (wpAny_truthy_bool ?_))))
  with_reducible refine br ?_ ?_
  · intro hb
    refine sReturn (constS (l := []) rfl fun t2 tk2 => ?_)
    have hx0 : x = [] := by simpa using hb
    have hc : cur = [] := by
      by_cases h : cur = []
      · exact h
      · exact absurd (hx.trans hx0) (pg_ne h)
    have hy0 : y = [] := by rw [← hy, hc]; rfl
    subst hy0
    exact q h₁ t2 tk2 s.gens C.back hbare
  · intro hb
    have hc : cur ≠ [] := by
      intro h
      rw [h] at hx
      subst hx
      exact absurd hb (by simp [pg])
    obtain ⟨hl, h10⟩ := hH hc
    refine sNil (then_next ?_)
    refine sIf (wpAny_isTrue_Compare1 (nmL C rfl rfl rfl rfl (constS (l := []) rfl fun t2 tk2 => eq_S (wpAny_truthy_bool ?_))))
    with_reducible refine br ?_ ?_
    · intro he
      have hH0 : H = [] := by simpa using he
      subst hH0
      refine sReturn (callF2 (f := 58) (mg := mg) (mb := mb) rfl rfl rfl (nmG C G (v := .ref 58) rfl rfl rfl rfl ⟨rfl, ?_⟩))
      refine nmL C rfl rfl rfl rfl (nmL C rfl rfl rfl rfl ⟨G.keeps C.keep, ?_⟩)
      have hy' : pg [] (groups lim [] cur.flatten) = y := by rw [← hy]; unfold fillT; rw [if_neg hc]; rfl
      subst hx
      subst hy'
      exact para_call' (n := n + 1) (ind := []) (G.keeps C.keep) R' (.inl rfl) hc hg hsz rfl fun h3 t3 tk3 k3 => q h3 t3 tk3 s.gens (C.keeps k3).back hbare
    · intro he
      have hH0 : H ≠ [] := by simpa using he
      refine sNil (then_next ?_)
      refine sReturn (callF3 (f := 65) (mg := mg) (mb := mb) rfl rfl rfl (nmG C G (v := .ref 65) rfl rfl rfl rfl ⟨rfl, ?_⟩))
      refine nmL C rfl rfl rfl rfl (nmL C rfl rfl rfl rfl (nmL C rfl rfl rfl rfl ⟨G.keeps C.keep, ?_⟩))
      have hy' : pg (H ++ indOf H) (groups (max (lim - H.length) 20) (indOf H) cur.flatten) = y := by rw [← hy]; unfold fillT limOf; rw [if_neg hc, if_neg hH0]
      subst hx
      subst hy'
      exact comment_call (by exact Ck.of G Mm C hbare) R' (indOf_or H) hl h10 hc hg hsz rfl (fun h3 t3 tk3 g3 k3 b3 => q h3 t3 tk3 g3 (C.kq k3).back b3)
end
end Mine
end

section
set_option maxRecDepth 100000
set_option linter.unusedVariables false
namespace Mine
open PySem

/-- a line of a page: its header and its words; a line between blocks has none -/
abbrev Ln := List Nat × List (List Nat)
def txt (x : Ln) : List Nat := if x.2 = [] then x.1 else rowT (x.1 ++ indOf x.1) x.2
def heads : List (List Nat) := [[35], [], [32, 32, 32, 32, 35], [35, 35], [32, 32, 32, 32]]
def HeadW (ws : List (List Nat)) : Prop := ∀ w ∈ ws, w.head? ≠ some 35
def SepOk (l : List Nat) : Prop := allWhite (l.drop (hdr l).length) = true ∧ 10 ∉ l ∧ l.length ≤ 10
def GoodLn (x : Ln) : Prop := (x.2 = [] ∧ SepOk x.1) ∨ (x.1 ∈ heads ∧ GoodR x.2 ∧ HeadW x.2)
abbrev Rst := List Nat × List Nat × List (List (List Nat))
def stepR (lim : Int) (st : Rst) (x : Ln) : Rst :=
  if x.2 = [] then (st.1 ++ fillT lim st.2.1 st.2.2 ++ (x.1 ++ [10]), hdr x.1, [])
  else if x.1 = st.2.1 then (st.1, st.2.1, st.2.2 ++ [x.2]) else (st.1 ++ fillT lim st.2.1 st.2.2, x.1, [x.2])
def runS (lim : Int) (ls : List Ln) : Rst := ls.foldl (stepR lim) ([], [], [])
def runT (lim : Int) (ls : List Ln) : List Nat := (runS lim ls).1 ++ fillT lim (runS lim ls).2.1 (runS lim ls).2.2
theorem runS_snoc (lim : Int) (ls : List Ln) (x : Ln) : runS lim (ls ++ [x]) = stepR lim (runS lim ls) x := by simp [runS]
def weight (ls : List Ln) : Nat := (ls.map fun x => (txt x).length + 1).sum
theorem weight_append (a b : List Ln) : weight (a ++ b) = weight a + weight b := by simp [weight]
theorem weight_one (x : Ln) : weight [x] = (txt x).length + 1 := by simp [weight]

theorem head_len {H : List Nat} (h : H ∈ heads) : H.length ≤ 5 ∧ 10 ∉ H := by
  simp only [heads, List.mem_cons, List.not_mem_nil, or_false] at h
  rcases h with rfl | rfl | rfl | rfl | rfl <;> decide
theorem hash_first {ws : List (List Nat)} (g : GoodR ws) (hw : HeadW ws) : ∃ c r, jn [32] ws = c :: r ∧ Unicode.isSpace c = false ∧ c ≠ 35 := by
  obtain ⟨c, r, e, hs⟩ := jn_head g
  refine ⟨c, r, e, hs, fun h => ?_⟩
  subst h
  cases ws with
  | nil => exact g.1 rfl
  | cons w rest =>
    have hne := (g.2 w (.head _)).1
    obtain ⟨a, b, rfl⟩ := List.exists_cons_of_ne_nil hne
    have h2 := hw _ (.head _)
    cases rest with
    | nil =>
      simp only [jn] at e
      cases e
      exact h2 rfl
    | cons w' r' =>
      rw [jn_cons _ _ (by simp)] at e
      simp only [List.cons_append] at e
      cases e
      exact h2 rfl
theorem hdLen_row {H : List Nat} (h : H ∈ heads) {c : Nat} {r : List Nat} (hs : Unicode.isSpace c = false) (hc : c ≠ 35) : hdLen (H ++ indOf H ++ c :: r) = H.length := by
  have hb : isBlank c = false := notBlank hs
  have hh : isHash c = false := by simp [isHash, hc]
  simp only [heads, List.mem_cons, List.not_mem_nil, or_false] at h
  have b32 : isBlank 32 = true := rfl
  have b35 : isBlank 35 = false := rfl
  have h35 : isHash 35 = true := rfl
  have h32 : isHash 32 = false := rfl
  rcases h with rfl | rfl | rfl | rfl | rfl <;>
  simp [hdLen, indOf, List.takeWhile_cons, List.dropWhile_cons, hb, hh, b32, b35, h35, h32]
theorem row_hdr {x : Ln} (h : x.1 ∈ heads) (g : GoodR x.2) (hw : HeadW x.2) : hdr (txt x) = x.1 := by
  obtain ⟨c, r, e, hs, hc⟩ := hash_first g hw
  unfold txt hdr
  rw [if_neg g.1, rowT, e, hdLen_row h hs hc, List.append_assoc, List.take_left']
  rfl
theorem row_white {x : Ln} (h : x.1 ∈ heads) (g : GoodR x.2) (hw : HeadW x.2) : allWhite ((txt x).drop x.1.length) = false := by
  unfold txt
  rw [if_neg g.1, rowT, List.append_assoc, List.drop_left']
  · exact white_row (pre := indOf x.1) g
  · rfl
/-- header and whiteness of a line -/
def hdL (x : Ln) : List Nat := if x.2 = [] then hdr x.1 else x.1
theorem line_hdr {x : Ln} (g : GoodLn x) : hdr (txt x) = hdL x := by
  rcases g with ⟨e, _⟩ | ⟨h, g, hw⟩
  · simp [txt, hdL, e]
  · rw [row_hdr h g hw]; simp [hdL, g.1]
theorem line_white {x : Ln} (g : GoodLn x) : allWhite ((txt x).drop (hdL x).length) = x.2.isEmpty := by
  rcases g with ⟨e, h⟩ | ⟨h, g, hw⟩
  · simp [txt, hdL, e]; exact h.1
  · have e : hdL x = x.1 := by simp [hdL, g.1]
    rw [e, row_white h g hw]
    have := g.1
    cases hx : x.2 with
    | nil => exact absurd hx this
    | cons _ _ => rfl
theorem line_no10 {x : Ln} (g : GoodLn x) : 10 ∉ txt x := by
  rcases g with ⟨e, h⟩ | ⟨h, g, hw⟩
  · simp only [txt, e, if_true]; exact h.2.1
  · simp only [txt, g.1, if_false]
    refine row_no g ?_ (by decide) (by decide)
    have := (head_len h).2
    rcases indOf_or x.1 with e | e <;> simp [e, this]
theorem line_len {x : Ln} {ls : List Ln} (h : x ∈ ls) : (txt x).length + 1 ≤ weight ls := by
  induction ls with
  | nil => cases h
  | cons a r ih =>
    simp only [weight, List.map_cons, List.sum_cons] at ih ⊢
    rcases List.mem_cons.mp h with rfl | h
    · omega
    · have := ih h; omega
theorem fillT_len {lim : Int} {H : List Nat} {cur : List (List (List Nat))} (hH : cur ≠ [] → H.length ≤ 5) (hg : ∀ ws ∈ cur, GoodR ws) : (fillT lim H cur).length ≤ 13 * (pg (H ++ indOf H) cur).length := by
  unfold fillT
  split
  · simp
  · rename_i hc
    have hgw : ∀ w ∈ cur.flatten, GoodW w := fun v hv => by
      obtain ⟨ws, hw, hv⟩ := List.mem_flatten.mp hv
      exact (hg ws hw).2 v hv
    have hne' : cur.flatten ≠ [] := by
      obtain ⟨r, rest, rfl⟩ := List.exists_cons_of_ne_nil hc
      obtain ⟨w, ws, e⟩ := List.exists_cons_of_ne_nil (hg r (.head _)).1
      simp [e]
    have h1 := pg_len (H ++ indOf H) (rows := groups (limOf H lim) (indOf H) cur.flatten) fun ws hw => (groups_good hne' hgw ws hw).1
    rw [groups_flat] at h1
    have h2 := groups_len (limOf H lim) (indOf H) cur.flatten hgw
    have h3 := pg_len_ge (H ++ indOf H) hg
    have h4 : (H ++ indOf H).length ≤ 6 := by
      have := hH hc
      rcases indOf_or H with e | e <;> simp [e] <;> omega
    have h5 : 1 ≤ wsum cur.flatten := by
      obtain ⟨w, ws, e⟩ := List.exists_cons_of_ne_nil hne'
      rw [e]; simp [wsum]; omega
    have h6 := Nat.mul_le_mul h2 h4
    omega
/-- what stays true along a run -/
structure RunOk (ls : List Ln) (st : Rst) : Prop where
  hH : st.2.2 ≠ [] → st.2.1 ∈ heads
  hg : ∀ ws ∈ st.2.2, GoodR ws
  wt : st.1.length + 13 * (pg (st.2.1 ++ indOf st.2.1) st.2.2).length ≤ 13 * weight ls
theorem stepOk {lim : Int} {r : List Ln} {st : Rst} {x : Ln} (o : RunOk r st) (gx : GoodLn x) : RunOk (r ++ [x]) (stepR lim st x) := by
    have fl := fillT_len (lim := lim) (fun hc => (head_len (o.hH hc)).1) o.hg
    have w := o.wt
    have wx : weight (r ++ [x]) = weight r + ((txt x).length + 1) := by rw [weight_append, weight_one]
    unfold stepR
    split
    · rename_i e
      refine ⟨fun h => absurd rfl h, (fun _ h => nomatch h), ?_⟩
      rw [wx]
      have ex : txt x = x.1 := by simp [txt, e]
      simp only [List.length_append, List.length_cons, List.length_nil, ex, pg, List.flatMap_nil] at *
      omega
    · rename_i e
      have gx' : x.1 ∈ heads ∧ GoodR x.2 ∧ HeadW x.2 := by
        rcases gx with ⟨e', _⟩ | g
        · exact absurd e' e
        · exact g
      have ex : txt x = rowT (x.1 ++ indOf x.1) x.2 := by simp [txt, e]
      have exl : (txt x).length = (x.1 ++ indOf x.1 ++ jn [32] x.2).length := by rw [ex]; rfl
      split
      · rename_i e2
        refine ⟨fun _ => e2 ▸ gx'.1, fun ws hw => ?_, ?_⟩
        · rcases List.mem_append.mp hw with hw | hw
          · exact o.hg ws hw
          · rw [List.mem_singleton.mp hw]; exact gx'.2.1
        · rw [wx, pg_append, ← e2]
          rw [← e2] at w
          simp only [List.length_append, pg, List.flatMap_cons, List.flatMap_nil, List.append_nil, List.length_cons, List.length_nil] at *
          omega
      · refine ⟨fun _ => gx'.1, fun ws hw => ?_, ?_⟩
        · rw [List.mem_singleton.mp hw]; exact gx'.2.1
        · rw [wx]
          simp only [List.length_append, pg, List.flatMap_cons, List.flatMap_nil, List.append_nil, List.length_cons, List.length_nil] at *
          omega
theorem foldOk {lim : Int} : ∀ (ls r : List Ln) (st : Rst), RunOk r st → (∀ x ∈ ls, GoodLn x) → RunOk (r ++ ls) (ls.foldl (stepR lim) st)
  | [], r, st, o, _ => by simpa using o
  | x :: ls, r, st, o, g => by
    have := foldOk (lim := lim) ls (r ++ [x]) (stepR lim st x) (stepOk o (g x (.head _))) fun y hy => g y (.tail _ hy)
    simpa using this
theorem runOk {lim : Int} {ls : List Ln} (g : ∀ x ∈ ls, GoodLn x) : RunOk ls (runS lim ls) :=
  foldOk ls [] ([], [], []) ⟨fun h => absurd rfl h, (fun _ h => nomatch h), by simp [pg]⟩ g
end Mine
end

section
set_option maxRecDepth 100000
set_option linter.unusedVariables false
namespace Mine
open PySem PySem.W PySem.Calls PyProof.Rows PySem.Builtin PySem.Builtin.Str
section
variable {prog : Program} {w : World} {A : Around} {E : Value → Shared → Prop} {s : Shared} {env : Env} {Q : Value → Shared → Prop} {h₀ : Heap} {L : Addr}
theorem slice_any {value : PySem.Expr} {lower upper : Option PySem.Expr} {p pos : Pos} {T id : String}
    (hl : typeLookup (.type T) "__getitem__" = pure (some (.builtin id)))
    (h : wpAny (model prog w) A (eval value env) (fun o s₁ => wpAny (model prog w) A (eval (.Slice lower upper none p) env) (fun i s₂ => s₂.TypeIs o T ∧ wpAny (model prog w) A (getItem o i) Q E s₂) E s₁) E s) :
    wpAny (model prog w) A (eval (.Subscript value (.Slice lower upper none p) pos) env) Q E s := by
  rw [eval_Subscript]
  refine wpAny_bind (wpAny_mono h (fun o s₁ h₁ => wpAny_bind (wpAny_holding (wpAny_mono h₁ (fun i s₂ h₂ => wpAny_bind (wpAny_standAt ?_)) fun _ _ x => x)))
    fun _ _ x => x)
  have fin : wpAny (model prog w) A (operate [i, o] (getItem o i)) (fun r s₃ => wpAny (model prog w) A (letTemporaryGo value o r >>= fun _ => pure r) Q E s₃) E s₂ :=
    wpAny_operating (wpAny_mono h₂.2 (fun r s₃ h₃ => wpAny_bind (wpAny_letTemporaryGo (wpAny_pure h₃))) fun _ _ x => x)
  refine wpAny_bind ?_
  rw [getitemInPython_of_ne h₂.1.not_modules]
  refine wpAny_bind (wpAny_specialOf h₂.1 hl ?_)
  first
    | exact wpAny_pure (wpAny_bind fin)
    | exact wpAny_bind (wpAny_pure (wpAny_bind fin))
    | exact wpAny_bind fin
/-- xs[a:b], any base -/
theorem slice_A {value : PySem.Expr} {lower upper : Option PySem.Expr} {p pos : Pos}
    (h : wpAny (model prog w) A (eval value env) (fun o s₁ => wpAny (model prog w) A (evalPart lower env) (fun vl s₂ => wpAny (model prog w) A (evalPart upper env) (fun vu s₃ =>
      ∃ (l : Addr) (vs : List Value) (lo hi : Option Int) (rs : Rs) (bs : List (Str × Value)) (us : List Value), o = .ref l ∧ LAt s₃.heap l vs ∧ vs.length ≤ 1000000 ∧ IsPart vl lo ∧ IsPart vu hi ∧ (slicePick vs.toArray lo hi none).toList = us ∧ Cx h₀ L bs rs s₃.heap ∧
        ∀ l' h', Cx h₀ L bs ((l', PL us) :: rs) h' → Q (.ref l') { s₃ with heap := h' }) E s₂) E s₁) E s) :
    wpAny (model prog w) A (eval (.Subscript value (.Slice lower upper none p) pos) env) Q E s := by
  refine slice_any (T := "list") list_getitem_lookup (wpAny_mono h (fun o s₁ h₁ => wpAny_Slice (wpAny_mono h₁ (fun vl s₂ h₂ => wpAny_mono h₂ (fun vu s₃ h₃ => ?_) fun _ _ e => e) fun _ _ e => e)) fun _ _ e => e)
  obtain ⟨l, vs, lo, hi, rs, bs, us, rfl, x, hsz, pl, pu, rfl, C, q⟩ := h₃
  rw [evalPart_none]
  have hl := x.isL
  refine wpAny_pure ⟨(hl.push _).typeIs, wpAny_getItem_list_slice (hl.push _) (Heap.IsSliceOf.new ..) pl pu .none (by simp) ?_ (by rw [sizeLine_eq]; simp; omega)⟩
  have C' := ((C.push ({ cls := .type "slice", data := .fields #[vl, vu, .none] } : Obj) (P := fun _ => True) trivial rfl).drop rfl).push ({ cls := .type "list", data := .seq (slicePick vs.toArray lo hi none) } : Obj) (P := PL (slicePick vs.toArray lo hi none).toList) ⟨0, by rw [Array.toArray_toList]⟩ rfl
  exact q _ _ C'
/-- x[a:b] of a text, any base -/
theorem sliceS_A {value : PySem.Expr} {lower upper : Option PySem.Expr} {p pos : Pos}
    (h : wpAny (model prog w) A (eval value env) (fun o s₁ => wpAny (model prog w) A (evalPart lower env) (fun vl s₂ => wpAny (model prog w) A (evalPart upper env) (fun vu s₃ =>
      ∃ (x : List Nat) (t : Tok) (a b : Nat) (y : List Nat), o = .str (S x) t ∧ BndLo vl a ∧ BndHi x.length vu b ∧ a ≤ b ∧ x.length ≤ 1000000 ∧ (x.drop a).take (b - a) = y ∧
        ∀ t' h' tk, Kp s₃.heap h' → Q (.str (S y) t') { s₃ with heap := h', toks := tk }) E s₂) E s₁) E s) :
    wpAny (model prog w) A (eval (.Subscript value (.Slice lower upper none p) pos) env) Q E s := by
  refine slice_any (T := "str") F.slot_str_getitem.lookup (wpAny_mono h (fun o s₁ h₁ => wpAny_Slice (wpAny_mono h₁ (fun vl s₂ h₂ => wpAny_mono h₂ (fun vu s₃ h₃ => ?_) fun _ _ e => e) fun _ _ e => e)) fun _ _ e => e)
  obtain ⟨x, t, a, b, y, rfl, hl, hh, hab, hsz, rfl, q⟩ := h₃
  have hbn : b ≤ x.length := by cases hh <;> omega
  cases hl with
  | int a u =>
  obtain ⟨hi, rfl, ep⟩ := picked_eq (t := u) hh hab
  rw [evalPart_none]
  refine wpAny_pure ⟨typeIs_str _ (S x) t, wpAny_getItem_str_slice (l := some ((a : Int), u)) (u := hi) (st := none) ⟨_, Heap.get?_push_size _ rfl, rfl, rfl⟩ rfl ?_⟩
  have ef : ((List.range (b - a)).map (a + ·)).filterMap ((S x).cps[·]?) = (x.drop a).take (b - a) := by rw [pick_run, S_list]
  unfold sliceMade
  rw [ep]
  split
  · rename_i hc
    have hlen : b - a = x.length := by
      have : ((List.range (b - a)).map (a + ·)).length = (S x).length := by simpa using hc
      rwa [List.length_map, List.length_range, S_len] at this
    have ea : a = 0 := by omega
    have eb : b = x.length := by omega
    have := q t _ s₃.toks (Kp.push s₃.heap { cls := .type "slice", data := .fields #[.int a u, partValue hi, .none] })
    rw [ea, eb, List.drop_zero, Nat.sub_zero, List.take_length] at this
    rw [ea]
    exact this
  · rw [ef]
    refine ⟨?_, q _ _ _ (Kp.push _ _)⟩
    show (S ((x.drop a).take (b - a))).length ≤ sizeLine
    rw [S_len, sizeLine_eq, List.length_take, List.length_drop]; omega
/-- xs[i], any base: the tail as for a name -/
theorem sub_A {value slice : PySem.Expr} {o i : Value} (h : wpAny (model prog w) A (subscriptTail (.Name (Str.ofString "_") ⟨0, 0, 0, 0⟩) slice o i) Q E s) : wpAny (model prog w) A (subscriptTail value slice o i) Q E s :=
  kba_turn (fun _ => rfl) h
theorem butLast {us : List Value} {v : Value} : (slicePick (us ++ [v]).toArray none (some (-1)) none).toList = us := by
  have := slicePick_butLast (us ++ [v]).toArray 1 (Nat.le_refl _)
  rw [show (some (-(1 : Nat) : Int)) = some (-1) from rfl] at this
  rw [this]
  simp
end
end Mine
end

section
set_option maxRecDepth 100000
set_option linter.unusedVariables false
namespace Mine
open PySem PySem.W PySem.Calls PyProof.Rows PySem.Builtin PySem.Builtin.Str

def obs (st : Rst) : List Nat × List Nat × List Nat := (st.1, pg (st.2.1 ++ indOf st.2.1) st.2.2, st.2.1)
def mid (lim : Int) (st : Rst) (x : Ln) : List Nat × List Nat × List Nat :=
  if (x.2.isEmpty || hdL x != st.2.1) = true then (st.1 ++ fillT lim st.2.1 st.2.2, [], hdL x) else obs st
theorem obs_white {lim : Int} {st : Rst} {x : Ln} (h : x.2.isEmpty = true) : obs (stepR lim st x) = ((mid lim st x).1 ++ (txt x ++ [10]), (mid lim st x).2.1, (mid lim st x).2.2) := by
  have e : x.2 = [] := by simpa using h
  simp [obs, stepR, mid, e, txt, hdL, pg]
theorem obs_row {lim : Int} {st : Rst} {x : Ln} (h : x.2.isEmpty = false) : obs (stepR lim st x) = ((mid lim st x).1, (mid lim st x).2.1 ++ (txt x ++ [10]), (mid lim st x).2.2) := by
  have e : x.2 ≠ [] := by intro q; rw [q] at h; cases h
  have ex : txt x = x.1 ++ indOf x.1 ++ jn [32] x.2 := by simp [txt, e, rowT]
  have eh : hdL x = x.1 := by simp [hdL, e]
  by_cases hx : x.1 = st.2.1
  · have hm : (x.2.isEmpty || hdL x != st.2.1) = false := by simp [h, eh, hx]
    simp only [obs, stepR, mid, e, if_false, hx, if_true, hm, Bool.false_eq_true]
    rw [pg_append, ex, hx]
    simp [pg]
  · have hm : (x.2.isEmpty || hdL x != st.2.1) = true := by simp [h, eh, hx]
    simp only [obs, stepR, mid, e, if_false, hx, hm, if_true]
    rw [ex]
    simp [pg, eh]
theorem mid_len {lim : Int} {ls : List Ln} {st : Rst} {x : Ln} (o : RunOk ls st) : (mid lim st x).1.length ≤ 13 * weight ls ∧ (mid lim st x).2.1.length ≤ weight ls := by
  have fl := fillT_len (lim := lim) (fun hc => (head_len (o.hH hc)).1) o.hg
  have w := o.wt
  unfold mid obs
  split <;> constructor <;> simp <;> omega
def forBody (sts : List Stmt) (k : Nat) : List Stmt := match sts.drop k with | .For _ _ b _ _ :: _ => b | _ => []

section
variable {prog : Program} {w : World} {A : Around} {s : Shared} {mg mb : Str → Option Value} {n : Nat}
theorem iadd_SE {E : Value → Shared → Prop} {Q : Value → Shared → Prop} {a b c : List Nat} {t u : Tok} (e : a ++ b = c) (hsz : c.length ≤ 16777216) (q : ∀ t' tk, Q (.str (S c) t') { s with toks := tk }) : wpAny (model prog w) A (inplaceOp .Add (.str (S a) t) (.str (S b) u)) Q E s := by
  subst e
  exact iadd_S (by simpa using hsz) q

set_option maxHeartbeats 4000000 in
/-- one turn of the run -/
theorem run_turn {Q : Flow → Shared → Prop} {h₀ h : Heap} {L : Addr} {tk : Nat} {g : Array GenState} {body : List Stmt} {scope : Scope} {lim : Int} {u ta tb tc tx : Tok} {D B Hh : List Nat} {st : Rst} {pre : List Ln} {xl : Ln} {rI : Addr × (Obj → Prop)} {rs : Rs}
    (hb : body = forBody (fnBody w 119) 3) (hsc : scope = fnScope w 119) (G : Gl w mg mb h₀) (Mm : Gm mg h₀) (R : Room A (n + 4)) (hobs : obs st = (D, B, Hh)) (ok : RunOk pre st) (hwi : weight pre ≤ 100000) (gx : GoodLn xl) (hxlen : (txt xl).length ≤ 100000) (hbare : AllBare g)
    (C : Cx h₀ L [(Str.ofString "limit", .int lim u), (Str.ofString "done", .str (S D) ta), (Str.ofString "block", .str (S B) tb), (Str.ofString "held", .str (S Hh) tc), (Str.ofString "line", .str (S (txt xl)) tx)] (rI :: (60, Tab) :: rs) h)
    (q : ∀ h' tk' g' D' B' H' ta tb tc, AllBare g' → obs (stepR lim st xl) = (D', B', H') → Cx h₀ L [(Str.ofString "limit", .int lim u), (Str.ofString "done", .str (S D') ta), (Str.ofString "block", .str (S B') tb), (Str.ofString "held", .str (S H') tc)] (rI :: (60, Tab) :: rs) h' →
      Q .next { s with heap := h', toks := tk', gens := g' }) :
    wpAny (model prog w) A (execs body (envOf (Str.ofString "_law_run") scope L 119 (.ref 118))) Q Bot { s with heap := h, toks := tk, gens := g } := by
  have hml := mid_len (lim := lim) (ls := pre) (st := st) (x := xl) ok
  have ml1 := hml.1
  have ml2 := hml.2
  have e1 : st.1 = D := congrArg (·.1) hobs
  have e2 : pg (st.2.1 ++ indOf st.2.1) st.2.2 = B := congrArg (·.2.1) hobs
  have e3 : st.2.1 = Hh := congrArg (·.2.2) hobs
  subst e3
  have hBl : B.length ≤ 100000 := by have := ok.wt; rw [e2] at this; omega
  have hDl : D.length ≤ 1300000 := by have := ok.wt; rw [e1] at this; omega
  have hfl := fillT_len (lim := lim) (fun hc => (head_len (ok.hH hc)).1) ok.hg
  rw [e2] at hfl
  have hHc : st.2.2 ≠ [] → st.2.1.length ≤ 5 ∧ 10 ∉ st.2.1 := fun hc => head_len (ok.hH hc)
  have hhl : (hdL xl).length ≤ 100000 := by
    rw [← line_hdr gx]; unfold hdr; rw [List.length_take]; omega
  conv at hb => rhs; whnf
  conv at hsc => rhs; whnf
  subst hb hsc
  -- header
  refine sAssign rfl (callF1 (f := 86) (mg := mg) (mb := mb) rfl rfl rfl (nmG C G (v := .ref 86) rfl rfl rfl rfl ⟨rfl, ?_⟩))
  refine nmL C rfl rfl rfl rfl ⟨G.keeps C.keep, header_call (G.keeps C.keep) R (line_hdr gx) (by omega) fun h12 t12 tk12 k12 => ?_⟩
  replace C := C.keeps k12
  refine stL C rfl rfl fun h13 tk13 C => ?_
  -- white
  refine sAssign rfl (callF1 (f := 72) (mg := mg) (mb := mb) rfl rfl rfl (nmG C G (v := .ref 72) rfl rfl rfl rfl ⟨rfl, ?_⟩))
  refine dropS_C (fun _ _ => rfl) (nmL C rfl rfl rfl rfl ?_)
  refine callB1 (id := "len") rfl (nmB C G rfl rfl (by decide) rfl rfl rfl ⟨rfl, nmL C rfl rfl rfl rfl (len_S rfl (by omega) fun t14 tk14 => ?_)⟩)
  refine ⟨txt xl, tx, (hdL xl).length, t14, rfl, rfl, by omega, fun t15 h15 tk15 k15 => ?_⟩
  replace C := C.keeps k15
  refine ⟨G.keeps C.keep, white_call (G.keeps C.keep) R (line_white gx) (by rw [List.length_drop]; omega) fun h16 tk16 k16 => ?_⟩
  replace C := C.keeps k16
  refine stL C rfl rfl fun h17 tk17 C => ?_
  replace C := C.re (bs' := [(Str.ofString "limit", .int lim u), (Str.ofString "done", .str (S D) ta), (Str.ofString "block", .str (S B) tb), (Str.ofString "held", .str (S st.2.1) tc), (Str.ofString "line", .str (S (txt xl)) tx), (Str.ofString "header", .str (S (hdL xl)) t12), (Str.ofString "white", .bool xl.2.isEmpty)]) ⟨rfl, rfl, rfl, rfl, rfl, rfl, rfl, trivial⟩
  -- here2
  refine sIfJ (fun s' => ∃ h' tk' g' D' B' H' ta tb tc, s' = { s with heap := h', toks := tk', gens := g' } ∧ AllBare g' ∧ mid lim st xl = (D', B', H') ∧
    Cx h₀ L [(Str.ofString "limit", .int lim u), (Str.ofString "done", .str (S D') ta), (Str.ofString "block", .str (S B') tb), (Str.ofString "held", .str (S H') tc), (Str.ofString "line", .str (S (txt xl)) tx), (Str.ofString "white", .bool xl.2.isEmpty)] (rI :: (60, Tab) :: rs) h') ?_ ?_
  · refine wpAny_mono (Q := fun b s₁ => b = (xl.2.isEmpty || hdL xl != st.2.1) ∧ s₁ = { s with heap := h17, toks := tk17, gens := g }) ?_ ?_ fun _ _ e => e
    · refine isTrue_or (isTrue_plain (nmL C rfl rfl rfl rfl (wpAny_truthy_bool ?_)) rfl)
      with_reducible refine br ?_ ?_
      · intro hw
        exact ⟨by rw [hw]; rfl, rfl⟩
      · intro hw
        refine isTrue_or (wpAny_isTrue_Compare1 (nmL C rfl rfl rfl rfl (nmL C rfl rfl rfl rfl (ne_S (wpAny_truthy_bool ?_)))))
        with_reducible refine br ?_ ?_
        · intro hn
          exact ⟨by rw [hn, hw]; rfl, rfl⟩
        · intro hn
          exact isTrue_or_nil ⟨by rw [hn, hw]; rfl, rfl⟩
    · -- here3
      intro b s₁ hbs
      have hbe := hbs.1
      have hse := hbs.2
      subst hse
      with_reducible refine br ?_ ?_
      · intro hbt
        rw [hbe] at hbt
        refine sAug (ldL C rfl rfl rfl ?_)
        refine callF3 (f := 112) (mg := mg) (mb := mb) rfl rfl rfl (nmG C G (v := .ref 112) rfl rfl rfl rfl ⟨rfl, ?_⟩)
        refine nmL C rfl rfl rfl rfl (nmL C rfl rfl rfl rfl (nmL C rfl rfl rfl rfl ⟨G.keeps C.keep, ?_⟩))
        refine filled_call (cur := st.2.2) (by exact Ck.of G Mm C.swap hbare) R e2 rfl hHc ok.hg hBl fun h18 t18 tk18 g18 k18 b18 => ?_
        replace C := (C.swap.kq k18).swap
        refine iadd_SE (c := D ++ fillT lim st.2.1 st.2.2) rfl (by rw [List.length_append]; omega) fun t19 tk19 => stL C rfl rfl fun h20 tk20 C => ?_
        refine sAssign rfl (constS (l := []) rfl fun t21 tk21 => stL C rfl rfl fun h22 tk22 C => ?_)
        refine sAssign rfl (nmL C rfl rfl rfl rfl (stL C rfl rfl fun h23 tk23 C => sNil (then_next ?_)))
        refine ⟨h23, tk23, g18, D ++ fillT lim st.2.1 st.2.2, [], hdL xl, t19, t21, t12, rfl, b18, ?_, C.re ⟨rfl, rfl, rfl, rfl, rfl, rfl, trivial⟩⟩
        unfold mid; rw [if_pos hbt, e1]
      · intro hbt
        rw [hbe] at hbt
        refine sNil (then_next ⟨h17, tk17, g, D, B, st.2.1, ta, tb, tc, rfl, hbare, ?_, C.re ⟨rfl, rfl, rfl, rfl, rfl, rfl, trivial⟩⟩)
        unfold mid; rw [if_neg (by rw [hbt]; decide), hobs]
  -- here4
  intro s' hs'
  obtain ⟨h24, tk24, g24, hs'⟩ := hs'
  obtain ⟨D', B', H', ta', tb', tc', hse, b24, hmid, C⟩ := hs'
  subst hse
  have ml1 : D'.length ≤ 13 * weight pre := by rw [hmid] at ml1; exact ml1
  have ml2 : B'.length ≤ weight pre := by rw [hmid] at ml2; exact ml2
  refine sIf (isTrue_plain (nmL C rfl rfl rfl rfl (wpAny_truthy_bool ?_)) rfl)
  with_reducible refine br ?_ ?_
  · intro hw
    have ho := obs_white (lim := lim) (st := st) hw
    rw [hmid] at ho
    refine sAug (ldL C rfl rfl rfl ?_)
    refine wpAny_BinOp (nmL C rfl rfl rfl rfl (constS (l := [10]) rfl fun t25 tk25 => add_SE (c := txt xl ++ [10]) rfl (by simp; omega) fun t26 tk26 => ?_))
    refine iadd_SE (c := D' ++ (txt xl ++ [10])) rfl (by simp only [List.length_append, List.length_cons, List.length_nil]; omega) fun t27 tk27 => stL C rfl rfl fun h28 tk28 C => sNil (then_next (sNil ?_))
    exact q h28 tk28 g24 _ _ _ t27 tb' tc' b24 ho (C.re ⟨rfl, rfl, rfl, rfl, trivial⟩)
  · intro hw
    have ho := obs_row (lim := lim) (st := st) hw
    rw [hmid] at ho
    refine sAug (ldL C rfl rfl rfl ?_)
    refine wpAny_BinOp (nmL C rfl rfl rfl rfl (constS (l := [10]) rfl fun t25 tk25 => add_SE (c := txt xl ++ [10]) rfl (by simp; omega) fun t26 tk26 => ?_))
    refine iadd_SE (c := B' ++ (txt xl ++ [10])) rfl (by simp only [List.length_append, List.length_cons, List.length_nil]; omega) fun t27 tk27 => stL C rfl rfl fun h28 tk28 C => sNil (then_next (sNil ?_))
    exact q h28 tk28 g24 _ _ _ ta' t27 tc' b24 ho (C.re ⟨rfl, rfl, rfl, rfl, trivial⟩)
end
end Mine
end

section
set_option maxRecDepth 100000
set_option linter.unusedVariables false
namespace Mine
open PySem PySem.W PySem.Calls PyProof.Rows PySem.Builtin PySem.Builtin.Str

theorem len_weight (l : List Ln) : l.length ≤ weight l := by
  induction l with
  | nil => simp [weight]
  | cons a r ih => simp only [weight, List.map_cons, List.sum_cons, List.length_cons] at ih ⊢; omega
theorem take_weight (ls : List Ln) (i : Nat) : weight (ls.take i) ≤ weight ls := by
  have : weight (ls.take i ++ ls.drop i) = weight ls := by rw [List.take_append_drop]
  rw [weight_append] at this
  omega

section
variable {prog : Program} {w : World} {A : Around} {E : Value → Shared → Prop} {s : Shared} {mg mb : Str → Option Value} {n : Nat} {Q : Value → Shared → Prop}
set_option maxHeartbeats 4000000 in
theorem run_call (K : Ck w mg mb s) (R : Room A (n + 5)) {ls : List Ln} {x y : List Nat} {lim : Int} {t u : Tok} (hg : ∀ x ∈ ls, GoodLn x) (hx : x = jn [10] (ls.map txt ++ [[]])) (hxl : x.length ≤ 100000) (hw : weight ls ≤ 100000) (hy : runT lim ls = y)
    (q : ∀ h' t' tk g, Kq s.heap h' → AllBare g → Q (.str (S y) t') { s with heap := h', toks := tk, gens := g }) :
    wpAny (model prog w) A (call (.ref 119) [.str (S x) t, .int lim u]) Q E s := by
  have hll : ls.length ≤ 100000 := Nat.le_trans (len_weight ls) hw
  have hno : ∀ l ∈ ls.map txt ++ [[]], 10 ∉ l := by
    intro l hl
    rcases List.mem_append.mp hl with hl | hl
    · obtain ⟨a, ha, rfl⟩ := List.mem_map.mp hl
      exact line_no10 (hg a ha)
    · rw [List.mem_singleton.mp hl]; simp
  have okT : ∀ i, RunOk (ls.take i) (runS lim (ls.take i)) := fun i => runOk fun y hy => hg y (List.mem_of_mem_take hy)
  have hok := runOk (lim := lim) hg
  have hfl := fillT_len (lim := lim) (fun hc => (head_len (hok.hH hc)).1) hok.hg
  have hwt := hok.wt
  have hHc : (runS lim ls).2.2 ≠ [] → (runS lim ls).2.1.length ≤ 5 ∧ 10 ∉ (runS lim ls).2.1 := fun hc => head_len (hok.hH hc)
  have hbare := K.bare
  refine enter2 K R rfl rfl (binds := [(Str.ofString "page", .str (S x) t), (Str.ofString "limit", .int lim u)]) rfl rfl rfl rfl rfl rfl ?_
  intro L h₁ tk G Mm C R'
  refine sAssign rfl (constS (l := []) rfl fun t1 tk1 => stL C rfl rfl fun h2 tk2 C => ?_)
  refine sAssign rfl (constS (l := []) rfl fun t3 tk3 => stL C rfl rfl fun h4 tk4 C => ?_)
  refine sAssign rfl (constS (l := []) rfl fun t5 tk5 => stL C rfl rfl fun h6 tk6 C => ?_)
  replace C := C.re (bs' := [(Str.ofString "limit", .int lim u), (Str.ofString "done", .str (S []) t1), (Str.ofString "block", .str (S []) t3), (Str.ofString "held", .str (S []) t5), (Str.ofString "page", .str (S x) t)]) ⟨rfl, rfl, rfl, rfl, rfl, trivial⟩
  refine sForL (h₀ := hid s.heap) (L := L) R'.hh (by intro _; rfl) ?_
  refine slice_A (h₀ := hid s.heap) (L := L) ?_
  refine meth1 rfl rfl rfl F.plainAttrs_str F.slot_str_split F.type_str_split ?_
  refine nmL C rfl rfl rfl rfl ⟨⟨typeIs_str _ _ _, fun a e => nomatch e⟩, ?_⟩
  refine constS (l := [10]) rfl fun t7 tk7 => ?_
  refine split_C C hx (by simp) hno (by omega) ?_
  intro pl pvs h8 tk8 hpv C
  have hsn := strs_snoc (ls := ls.map txt) (x := []) hpv
  obtain ⟨us, hsn⟩ := hsn
  obtain ⟨tu, hue, hus⟩ := hsn
  refine wpAny_pure (a := Value.none) (wpAny_UnaryOp (constI fun t9 tk9 => P.neg_int ?_))
  have hul : us.length = ls.length := by rw [hus.length, List.length_map, List.length_map]
  refine ⟨pl, _, none, some (-1), _, _, us, rfl, C.latE hue (.head _), by simp; omega, .none, .int (-1) _, butLast, C, fun ml h10 C => ?_⟩
  have C0 : Cx (hid s.heap) L [(Str.ofString "limit", .int lim u), (Str.ofString "done", .str (S []) t1), (Str.ofString "block", .str (S []) t3), (Str.ofString "held", .str (S []) t5)] [(60, Tab), (ml, PL us)] h10 := by
    refine (C.re (bs' := [(Str.ofString "limit", .int lim u), (Str.ofString "done", .str (S []) t1), (Str.ofString "block", .str (S []) t3), (Str.ofString "held", .str (S []) t5)]) ⟨rfl, rfl, rfl, rfl, trivial⟩).sub (fun _ _ e => e) (fun r hr => ?_) ?_
    · simp only [List.mem_cons, List.not_mem_nil, or_false] at hr ⊢
      rcases hr with rfl | rfl <;> simp
    · have := C.nd
      simp only [List.map_cons, List.map_nil, List.nodup_cons, List.mem_cons, List.not_mem_nil, or_false, not_or, not_false_eq_true, List.nodup_nil, and_true] at this ⊢
      exact fun e => this.2.1.2 e.symm
  -- here1
  refine ⟨ml, us, fun i bs rs g => ∃ D B Hh ta tb tc, bs = [(Str.ofString "limit", .int lim u), (Str.ofString "done", .str (S D) ta), (Str.ofString "block", .str (S B) tb), (Str.ofString "held", .str (S Hh) tc)] ∧ rs = [(60, Tab), (ml, PL us)] ∧ AllBare g ∧ obs (runS lim (ls.take i)) = (D, B, Hh),
    _, _, rfl, C0, ⟨[], [], [], t1, t3, t5, rfl, rfl, hbare, rfl⟩, ?_, ?_, ?_⟩
  · rintro i bs rs g h ⟨D, B, Hh, ta, tb, tc, rfl, rfl, _, _⟩ C
    exact C.lat (.tail _ (.head _))
  · -- here2
    intro i v bs rs g h tk I hv hP C
    obtain ⟨D, B, Hh, ta, tb, tc, hbs, hrs, hbare, hobs⟩ := hP
    subst hbs hrs
    have hsi := strs_item (ls := ls.map txt) hus hv
    obtain ⟨xt, tx, hxt, hve⟩ := hsi
    rw [List.getElem?_map] at hxt
    have hxt' := Option.map_eq_some_iff.mp hxt
    obtain ⟨xl, hxl', hxe⟩ := hxt'
    subst hve hxe
    have hmem : xl ∈ ls := List.mem_of_getElem? hxl'
    have hnext : runS lim (ls.take (i + 1)) = stepR lim (runS lim (ls.take i)) xl := by rw [List.take_add_one, hxl']; exact runS_snoc _ _ _
    refine wpAny_assign_Name (stL C rfl rfl fun h11 tk11 C => ?_)
    refine run_turn (n := n) (st := runS lim (ls.take i)) (pre := ls.take i) (xl := xl) rfl rfl G Mm R' hobs (okT i) (Nat.le_trans (take_weight ls i) hw) (hg xl hmem) (by have := line_len hmem; omega) hbare (C.re ⟨rfl, rfl, rfl, rfl, rfl, trivial⟩) ?_
    intro h' tk' g' D' B' H' ta tb tc hb' ho' C'
    exact flw_next ⟨_, _, h', tk', g', rfl, ⟨D', B', H', ta, tb, tc, rfl, rfl, hb', by rw [hnext]; exact ho'⟩, C'⟩
  · -- here3
    intro bs rs g h tk hP C
    obtain ⟨D, B, Hh, ta, tb, tc, hbs, hrs, hbare, hobs⟩ := hP
    subst hbs hrs
    rw [hul, List.take_length] at hobs
    have e1 : (runS lim ls).1 = D := congrArg (·.1) hobs
    have e2 : pg ((runS lim ls).2.1 ++ indOf (runS lim ls).2.1) (runS lim ls).2.2 = B := congrArg (·.2.1) hobs
    have e3 : (runS lim ls).2.1 = Hh := congrArg (·.2.2) hobs
    have hy' : D ++ fillT lim Hh (runS lim ls).2.2 = y := by rw [← hy, ← e1, ← e3]; rfl
    rw [e3] at e2 hHc hfl hwt
    rw [e2] at hfl hwt
    rw [e1] at hwt
    refine sReturn (wpAny_BinOp (nmL C rfl rfl rfl rfl ?_))
    refine callF3 (f := 112) (mg := mg) (mb := mb) rfl rfl rfl (nmG C G (v := .ref 112) rfl rfl rfl rfl ⟨rfl, ?_⟩)
    refine nmL C rfl rfl rfl rfl (nmL C rfl rfl rfl rfl (nmL C rfl rfl rfl rfl ⟨G.keeps C.keep, ?_⟩))
    refine filled_call (n := n) (cur := (runS lim ls).2.2) (by exact Ck.of G Mm C hbare) R' e2 rfl hHc hok.hg (by omega) fun h18 t18 tk18 g18 k18 b18 => ?_
    refine add_SE hy' (by rw [← hy', List.length_append]; omega) fun t19 tk19 => ?_
    exact q h18 t19 tk19 g18 (C.kq k18).back b18
end
end Mine
end

section
set_option maxRecDepth 100000
set_option linter.unusedVariables false
namespace Mine
open PySem PySem.W PySem.Calls PyProof.Rows PySem.Builtin PySem.Builtin.Str

/-- a block: header and rows; a line between blocks has no rows -/
abbrev Blk := List Nat × List (List (List Nat))
def Hs : List (List Nat) := heads ++ heads.map (· ++ [32, 9])
def RowAt (h : Heap) (v : Value) (ws : List (List Nat)) : Prop := ∃ a vs, v = .ref a ∧ LAt h a vs ∧ StrsAre vs (ws.map S)
def RowsAt (h : Heap) (vs : List Value) (rows : List (List (List Nat))) : Prop := vs.length = rows.length ∧ ∀ (i : Nat) (v : Value), vs[i]? = some v → ∃ ws, rows[i]? = some ws ∧ RowAt h v ws
def BlkAt (h : Heap) (v : Value) (b : Blk) : Prop := ∃ a r t rvs, v = .ref a ∧ TAt h a [.str (S b.1) t, .ref r] ∧ LAt h r rvs ∧ RowsAt h rvs b.2
def BlksAt (h : Heap) (vs : List Value) (bl : List Blk) : Prop := vs.length = bl.length ∧ ∀ (i : Nat) (v : Value), vs[i]? = some v → ∃ b, bl[i]? = some b ∧ BlkAt h v b
theorem RowAt.keeps {h h' : Heap} {v : Value} {ws : List (List Nat)} (x : RowAt h v ws) (k : Kp h h') : RowAt h' v ws := let ⟨a, vs, e, l, s⟩ := x; ⟨a, vs, e, l.keeps k, s⟩
theorem RowsAt.keeps {h h' : Heap} {vs : List Value} {rows : List (List (List Nat))} (x : RowsAt h vs rows) (k : Kp h h') : RowsAt h' vs rows :=
  ⟨x.1, fun i v e => let ⟨ws, e', r⟩ := x.2 i v e; ⟨ws, e', r.keeps k⟩⟩
theorem BlkAt.keeps {h h' : Heap} {v : Value} {b : Blk} (x : BlkAt h v b) (k : Kp h h') : BlkAt h' v b := let ⟨a, r, t, rvs, e, ta, l, rr⟩ := x; ⟨a, r, t, rvs, e, ta.keeps k, l.keeps k, rr.keeps k⟩
theorem BlksAt.keeps {h h' : Heap} {vs : List Value} {bl : List Blk} (x : BlksAt h vs bl) (k : Kp h h') : BlksAt h' vs bl :=
  ⟨x.1, fun i v e => let ⟨ws, e', r⟩ := x.2 i v e; ⟨ws, e', r.keeps k⟩⟩

theorem hash_in : ∀ H ∈ Hs, (!(Builtin.Str.occurrences (S H) (S [35]) 0 (S H).length 1).isEmpty) = decide (35 ∈ H) := by
  intro H h
  simp only [Hs, heads, List.map_cons, List.map_nil, List.mem_append, List.mem_cons, List.not_mem_nil, or_false] at h
  rcases h with (rfl | rfl | rfl | rfl | rfl) | (rfl | rfl | rfl | rfl | rfl) <;> decide +kernel

section
variable {prog : Program} {w : World} {A : Around} {E : Value → Shared → Prop} {s : Shared} {Q : Value → Shared → Prop}
theorem in_hash {H : List Nat} {t u : Tok} {b : Bool} (hH : H ∈ Hs) (hb : decide (35 ∈ H) = b) (q : Q (.bool b) s) : wpAny (model prog w) A (compareOp .In (.str (S [35]) u) (.str (S H) t)) Q E s := by
  subst hb
  refine P.in_str ?_
  rw [hash_in H hH]
  exact q
theorem assign2 {name : Str} {scope : Scope} {L a : Addr} {cd : Value} {h₀ : Heap} {bs : List (Str × Value)} {rs : Rs} {x y : Str} {px py pt : Pos} {k : Nat} {tp : Addr} {v₁ v₂ : Value} {Q : Unit → Shared → Prop} (hh : A.handled = none)
    (C : Cx h₀ L bs rs s.heap) (T : TAt s.heap tp [v₁, v₂]) (hx : scope.names.lookup x = some .local) (hy : scope.names.lookup y = some .local) (hk : scope.kind = .function)
    (q : ∀ h' tk, Cx h₀ L (put y v₂ (put x v₁ bs)) rs h' → Q () { s with heap := h', toks := tk }) :
    wpAny (model prog w) A (assign (.Tuple [.Name x px, .Name y py] k pt) (envOf name scope L a cd) (.ref tp)) Q E s := by
  have T' : s.heap.IsTuple tp [v₁, v₂].toArray := T.isTup
  refine wpAny_assign_Tuple hh T' rfl rfl fun h' hx' => ?_
  have kp : Kp s.heap h' := fun b o e => hx' b o (Nat.ne_of_lt (Heap.lt_size e)) e
  have C1 := C.keeps kp
  refine assignInOrder_cons (wpAny_assign_Name (stL C1 hx hk fun h2 tk2 C2 => ?_))
  exact assignInOrder_cons (wpAny_assign_Name (stL C2 hy hk fun h3 tk3 C3 => assignInOrder_nil (q h3 tk3 C3)))
end
end Mine
end

section
set_option maxRecDepth 100000
set_option linter.unusedVariables false
namespace Mine
open PySem PySem.W PySem.Calls PyProof.Rows PySem.Builtin PySem.Builtin.Str

def sepT (b : Blk) : List Nat := if b.2 = [] then b.1 ++ [10] else []
def pageB (b : Blk) : List Nat := sepT b ++ pg (b.1 ++ indOf b.1) b.2
def pageT (bl : List Blk) : List Nat := bl.flatMap pageB
theorem pageT_append (a b : List Blk) : pageT (a ++ b) = pageT a ++ pageT b := by simp [pageT]
theorem pageT_take_len (bl : List Blk) (i : Nat) : (pageT (bl.take i)).length ≤ (pageT bl).length := by
  have : pageT (bl.take i ++ bl.drop i) = pageT bl := by rw [List.take_append_drop]
  rw [← this, pageT_append]; simp
theorem pg_take_len (pre : List Nat) (rows : List (List (List Nat))) (i : Nat) : (pg pre (rows.take i)).length ≤ (pg pre rows).length := by
  have : pg pre (rows.take i ++ rows.drop i) = pg pre rows := by rw [List.take_append_drop]
  rw [← this, pg_append]; simp
theorem pageT_snoc (bl : List Blk) {i : Nat} {b : Blk} (e : bl[i]? = some b) : pageT (bl.take (i + 1)) = pageT (bl.take i) ++ pageB b := by
  rw [List.take_add_one, e]; simp [pageT]
theorem pg_snoc (pre : List Nat) (rows : List (List (List Nat))) {i : Nat} {ws : List (List Nat)} (e : rows[i]? = some ws) : pg pre (rows.take (i + 1)) = pg pre (rows.take i) ++ (rowT pre ws ++ [10]) := by
  rw [List.take_add_one, e, pg_append]; simp [pg, rowT]
section
variable {prog : Program} {w : World} {A : Around} {E : Value → Shared → Prop} {s : Shared} {env : Env} {mg mb : Str → Option Value} {n : Nat} {Q : Value → Shared → Prop} {h₀ : Heap} {L : Addr} {bs : List (Str × Value)} {rs : Rs}
/-- the list [] -/
theorem nilL {pos : Pos} (C : Cx h₀ L bs rs s.heap) (q : ∀ l h', Cx h₀ L bs ((l, PL []) :: rs) h' → Kp s.heap h' → Q (.ref l) { s with heap := h' }) : wpAny (model prog w) A (eval (.List [] pos) env) Q E s := by
  refine wpAny_List (wpAny_pure (a := ([] : List Value)) ⟨by simp, ?_⟩)
  exact q _ _ (C.push ({ cls := .type "list", data := .seq #[] } : Obj) (P := PL []) ⟨0, rfl⟩ rfl) (Kp.push _ _)
end
section
variable {prog : Program} {w : World} {A : Around} {E : Value → Shared → Prop} {s : Shared} {mg mb : Str → Option Value} {n : Nat} {Q : Value → Shared → Prop}
set_option maxHeartbeats 4000000 in
theorem page_call (G : Gl w mg mb s.heap) (R : Room A (n + 1)) {l : Addr} {bvs : List Value} {bl : List Blk} {y : List Nat} (hl : LAt s.heap l bvs) (hb : BlksAt s.heap bvs bl) (hH : ∀ b ∈ bl, b.1 ∈ Hs) (hrows : ∀ b ∈ bl, ∀ ws ∈ b.2, GoodR ws) (hy : pageT bl = y) (hsz : y.length ≤ 100000)
    (q : ∀ h' t' tk, Kp s.heap h' → Q (.str (S y) t') { s with heap := h', toks := tk }) : wpAny (model prog w) A (call (.ref 100) [.ref l]) Q E s := by
  subst hy
  refine enter G R rfl rfl (binds := [(Str.ofString "blocks", .ref l)]) rfl rfl rfl rfl rfl rfl ?_
  intro L h₁ tk C R'
  have hu : ∀ env, (A.deeper env).units < cLine := fun env => by have := R.u; show A.units + 3 < 9900; omega
  refine sAssign rfl (constS (l := []) rfl fun t1 tk1 => stL C rfl rfl fun h2 tk2 C => ?_)
  replace C := C.re (bs' := [(Str.ofString "blocks", .ref l), (Str.ofString "page", .str (S []) t1)]) ⟨rfl, rfl, trivial⟩
  refine sForL (h₀ := s.heap) (L := L) R'.hh (by intro _; rfl) (nmL C rfl rfl rfl rfl ?_)
  refine ⟨l, bvs, fun i bs rs g => ∃ ta, bs = [(Str.ofString "blocks", .ref l), (Str.ofString "page", .str (S (pageT (bl.take i))) ta)] ∧ rs = [] ∧ g = s.gens, _, _, rfl, C, ⟨t1, rfl, rfl, rfl⟩, ?_, ?_, ?_⟩
  · rintro i bs rs g h ⟨ta, rfl, rfl, _⟩ C
    exact hl.keeps C.keep
  · intro i v bs rs g h tk I hv hP C
    obtain ⟨ta, hbs, hrs, hgs⟩ := hP
    subst hbs hrs hgs
    obtain ⟨b, hbi, hblk⟩ := hb.2 i v hv
    have hbm : b ∈ bl := List.mem_of_getElem? hbi
    have hsn := pageT_snoc bl hbi
    have hlen := pageT_take_len bl (i + 1)
    rw [hsn, List.length_append] at hlen
    obtain ⟨a, r, t, rvs, rfl, T, hr, hrs⟩ := hblk
    have hbl : (pageB b).length = (sepT b).length + (pg (b.1 ++ indOf b.1) b.2).length := by simp [pageB]
    have hHl : b.1.length ≤ 7 := by
      have := hH b hbm
      simp only [Hs, heads, List.map_cons, List.map_nil, List.mem_append, List.mem_cons, List.not_mem_nil, or_false] at this
      rcases this with (e | e | e | e | e) | (e | e | e | e | e) <;> simp [e]
    refine assign2 R'.hh C (T.keeps C.keep) rfl rfl rfl fun h3 tk3 C => ?_
    -- here1
    refine sIfJ (fun s' => ∃ h' tk' ta, s' = { s with heap := h', toks := tk' } ∧ Cx s.heap L [(Str.ofString "blocks", .ref l), (Str.ofString "page", .str (S (pageT (bl.take i) ++ sepT b)) ta), (Str.ofString "header", .str (S b.1) t), (Str.ofString "rows", .ref r)] [(I, LI l (i + 1))] h') ?_ ?_
    · refine wpAny_isTrue_Compare1 (nmL C rfl rfl rfl rfl (nilL C fun l2 h4 C4 k4 => ?_))
      refine eq_nil (hr.keeps C4.keep) (C4.lat (.head _)) (hu _) (wpAny_truthy_bool ?_)
      replace C := C4.drop rfl
      have hem : rvs.isEmpty = b.2.isEmpty := by
        have := hrs.1
        cases rvs <;> cases hb2 : b.2 <;> simp_all
      with_reducible refine br ?_ ?_
      · intro he
        rw [hem] at he
        have hs : sepT b = b.1 ++ [10] := by unfold sepT; rw [if_pos (by simpa using he)]
        refine sAug (ldL C rfl rfl rfl (wpAny_BinOp (nmL C rfl rfl rfl rfl (constS (l := [10]) rfl fun t5 tk5 => add_SE (c := sepT b) hs.symm (by omega) fun t6 tk6 => ?_))))
        refine iadd_SE (c := pageT (bl.take i) ++ sepT b) rfl (by rw [List.length_append]; omega) fun t7 tk7 => stL C rfl rfl fun h8 tk8 C => sNil (then_next ⟨h8, tk8, t7, rfl, C.re ⟨rfl, rfl, rfl, rfl, trivial⟩⟩)
      · intro he
        rw [hem] at he
        have hs : sepT b = [] := by unfold sepT; rw [if_neg (by simpa using he)]
        exact sNil (then_next ⟨h4, tk3, ta, rfl, by rw [hs, List.append_nil]; exact C.re ⟨rfl, rfl, rfl, rfl, trivial⟩⟩)
    intro s' hs'
    obtain ⟨h9, tk9, t9, hse, C⟩ := hs'
    subst hse
    -- here2
    refine sForL (h₀ := s.heap) (L := L) R'.hh (by intro _; rfl) (nmL C rfl rfl rfl rfl ?_)
    refine ⟨r, rvs, fun j bs rs g => ∃ ta, bs = [(Str.ofString "blocks", .ref l), (Str.ofString "page", .str (S (pageT (bl.take i) ++ sepT b ++ pg (b.1 ++ indOf b.1) (b.2.take j))) ta), (Str.ofString "header", .str (S b.1) t), (Str.ofString "rows", .ref r)] ∧ rs = [(I, LI l (i + 1))] ∧ g = s.gens, _, _, rfl, C, ⟨t9, by simp [pg], rfl, rfl⟩, ?_, ?_, ?_⟩
    · rintro j bs rs g h ⟨ta, rfl, rfl, _⟩ C
      exact hr.keeps C.keep
    · intro j v bs rs g h tk J hv hP C
      obtain ⟨ta, hbs, hrs', hgs⟩ := hP
      subst hbs hrs' hgs
      have hrj := hrs.2 j v hv
      obtain ⟨ws, hws, ra, wvs, hve, rl, rst⟩ := hrj
      subst hve
      have hsn2 := pg_snoc (b.1 ++ indOf b.1) b.2 hws
      have hlen2 := pg_take_len (b.1 ++ indOf b.1) b.2 (j + 1)
      rw [hsn2, List.length_append] at hlen2
      have hwm : ws ∈ b.2 := List.mem_of_getElem? hws
      have hrow := pg_row_le (b.1 ++ indOf b.1) hwm
      have hwg := hrows b hbm ws hwm
      have hjl := jn_len hwg.1
      have hrT : (rowT (b.1 ++ indOf b.1) ws).length = b.1.length + (indOf b.1).length + (jn [32] ws).length := by simp [rowT]; omega
      have hwsum : (ws.map (·.length)).sum + ws.length = wsum ws := by
        clear hwg hjl hrT hrow hwm hsn2 hlen2 rst rl hws
        induction ws with
        | nil => rfl
        | cons a r ih => simp [wsum] at ih ⊢; omega
      rw [List.length_append] at hlen2
      refine wpAny_assign_Name (stL C rfl rfl fun h10 tk10 C => ?_)
      refine sAug (ldL C rfl rfl rfl ?_)
      refine wpAny_BinOp (wpAny_BinOp (wpAny_BinOp (nmL C rfl rfl rfl rfl ?_)))
      refine wpAny_mono (Q := fun v s' => ∃ t tk, v = .str (S (indOf b.1)) t ∧ s' = { s with heap := h10, toks := tk }) ?_ ?_ fun _ _ e => e
      · refine wpAny_IfExp (wpAny_isTrue_Compare1 (constS (l := [35]) rfl fun t11 tk11 => nmL C rfl rfl rfl rfl (in_hash (hH b hbm) rfl (wpAny_truthy_bool ?_))))
        with_reducible refine br ?_ ?_
        · intro he
          have hi : indOf b.1 = [32] := by unfold indOf; rw [if_pos (of_decide_eq_true he)]
          exact constS (l := indOf b.1) (by rw [hi]; rfl) fun t12 tk12 => ⟨t12, tk12, rfl, rfl⟩
        · intro he
          have hi : indOf b.1 = [] := by unfold indOf; rw [if_neg (of_decide_eq_false he)]
          exact constS (l := indOf b.1) (by rw [hi]; rfl) fun t12 tk12 => ⟨t12, tk12, rfl, rfl⟩
      · intro v s' hvs
        obtain ⟨t12, tk12, hve, hse⟩ := hvs
        subst hve hse
        refine add_SE (c := b.1 ++ indOf b.1) rfl (by rw [List.length_append]; omega) fun t13 tk13 => ?_
        with_reducible refine meth1 (T := "str") (id := "str.join") base_const ?a1 ?a2 F.plainAttrs_str F.slot_str_join F.type_str_join ?_
        case a1 => rfl
        case a2 => rfl
        refine constS (l := [32]) rfl fun t14 tk14 => ⟨⟨typeIs_str _ _ _, fun a e => nomatch e⟩, nmL C rfl rfl rfl rfl ?_⟩
        refine join_L (ls := ws) (rl.keeps C.keep) rst (by simp only [List.length_cons, List.length_nil, Nat.zero_add, Nat.mul_one]; omega) fun t15 tk15 => ?_
        refine add_SE (c := rowT (b.1 ++ indOf b.1) ws) rfl (by omega) fun t16 tk16 => constS (l := [10]) rfl fun t17 tk17 => ?_
        refine add_SE (c := rowT (b.1 ++ indOf b.1) ws ++ [10]) rfl (by rw [List.length_append]; omega) fun t18 tk18 => ?_
        refine iadd_SE (c := pageT (bl.take i) ++ sepT b ++ pg (b.1 ++ indOf b.1) (b.2.take (j + 1))) (by rw [hsn2]; simp) (by rw [hsn2]; simp only [List.length_append]; omega) fun t19 tk19 => stL C rfl rfl fun h20 tk20 C => sNil (flw_next ?_)
        exact ⟨_, _, h20, tk20, s.gens, rfl, ⟨t19, rfl, rfl, rfl⟩, C.re ⟨rfl, rfl, rfl, rfl, trivial⟩⟩
    · intro bs rs g h tk hP C
      obtain ⟨ta, hbs, hrs', hgs⟩ := hP
      subst hbs hrs' hgs
      have e : pageT (bl.take i) ++ sepT b ++ pg (b.1 ++ indOf b.1) (b.2.take rvs.length) = pageT (bl.take (i + 1)) := by
        rw [hsn, hrs.1, List.take_length]; simp [pageB]
      rw [e] at C
      exact sNil (flw_next ⟨_, _, h, tk, s.gens, rfl, ⟨ta, rfl, rfl, rfl⟩, C.re ⟨rfl, rfl, trivial⟩⟩)
  · intro bs rs g h tk hP C
    obtain ⟨ta, hbs, hrs', hgs⟩ := hP
    subst hbs hrs' hgs
    rw [hb.1, List.take_length] at C
    exact sReturn (nmL C rfl rfl rfl rfl (q h ta tk C.keep))
end
end Mine
end

section
set_option maxRecDepth 100000
set_option linter.unusedVariables false
namespace Mine
open PySem PySem.W PySem.Calls PyProof.Rows PySem.Builtin PySem.Builtin.Str

section
variable {prog : Program} {w : World} {A : Around} {E : Value → Shared → Prop} {R : Result → Shared → Prop} {s : Shared}
theorem compTurn2_0 (elt t0 i0 t1 i1 : PySem.Expr) (scope : Scope) (pos : Pos) (it acc : Value) (env : Env) :
    compTurn (.ListComp elt [⟨t0, i0, [], 0⟩, ⟨t1, i1, [], 0⟩] scope pos) 0 it acc env = (standAt i0.pos >>= fun _ => pyNext it >>= fun r => match r with
      | none => pure (.done .next)
      | some v => letOwnedTupleGo t0 it v >>= fun _ => assign t0 env v >>= fun _ =>
        (eval i1 env >>= fun x => standAt i1.pos >>= fun _ => foldedSetIterable i1 env x >>= fun x => holding [x] (pyIter x) >>= fun it' => runOwn (.compStart (.ListComp elt [⟨t0, i0, [], 0⟩, ⟨t1, i1, [], 0⟩] scope pos) 1 it' acc env) env >>= fun _ =>
          again (.compLoop (.ListComp elt [⟨t0, i0, [], 0⟩, ⟨t1, i1, [], 0⟩] scope pos) 0 it acc env))) := by rfl
theorem compTurn2_1 (elt t0 i0 t1 i1 : PySem.Expr) (scope : Scope) (pos : Pos) (it acc : Value) (env : Env) :
    compTurn (.ListComp elt [⟨t0, i0, [], 0⟩, ⟨t1, i1, [], 0⟩] scope pos) 1 it acc env = (standAt i1.pos >>= fun _ => pyNext it >>= fun r => match r with
      | none => pure (.done .next)
      | some v => letOwnedTupleGo t1 it v >>= fun _ => assign t1 env v >>= fun _ =>
        (eval elt env >>= fun x => call (.builtin "list.append") [acc, x] >>= fun _ => pure ()) >>= fun _ =>
          again (.compLoop (.ListComp elt [⟨t0, i0, [], 0⟩, ⟨t1, i1, [], 0⟩] scope pos) 1 it acc env)) := by rfl

variable {h₀ : Heap} {env : Env} {bs : List (Str × Value)} {rs : Rs}
theorem nmE {x : Str} {pos : Pos} {v : Value} {Q : Value → Shared → Prop} (C : Cx h₀ env.locals bs rs s.heap) (e : bs.lookup x = some v) (hl : env.scope.names.lookup x = some .local) (hk : env.scope.kind = .function) (hd : (x == ("__debug__" : Str)) = false) (q : Q v s) :
    wpAny (model prog w) A (eval (.Name x pos) env) Q E s :=
  let ⟨_, F, hm⟩ := C.fr; wpAny_Name (wpAny_loadName_local hk hl F.ns (hm _ _ e) q) hd
theorem stE {x : Str} {v : Value} {Q : Unit → Shared → Prop} (C : Cx h₀ env.locals bs rs s.heap) (hl : env.scope.names.lookup x = some .local) (hk : env.scope.kind = .function)
    (q : ∀ h' tk, Cx h₀ env.locals (put x v bs) rs h' → Q () { s with heap := h', toks := tk }) : wpAny (model prog w) A (storeName env x v) Q E s := by
  obtain ⟨m, F, hm⟩ := id C.fr
  exact wpAny_storeName_local hl F.ns (fun h' hn hs => q h' _ (C.set (fun m' hm' => by
      obtain ⟨o, es, ep, e1, e2, e3⟩ := F.ns
      obtain ⟨o', es', ep', f1, f2, f3⟩ := hm'
      rw [e1] at f1; cases f1
      rw [e2] at f2; cases f2
      have : m' = m := funext fun n => by rw [← e3.2 n, ← f3.2 n]
      subst this
      exact hn) hs))
    (by rw [hk]; rfl)
theorem comp_inner {word : Str} {p0 p1 : Pos} {t0 i0 i1 : PySem.Expr} {scope : Scope} {pos : Pos} {I l acc : Addr} {ivs us : List Value} (hh : A.handled = none) (hl : env.scope.names.lookup word = some .local) (hk : env.scope.kind = .function) (hd : (word == ("__debug__" : Str)) = false)
    (hla : LAt h₀ l ivs) (C : Cx h₀ env.locals [] ((I, LI l 0) :: (acc, PL us) :: rs) s.heap) (hsz : us.length + ivs.length ≤ 100000)
    (q : ∀ h' tk, Cx h₀ env.locals [] ((acc, PL (us ++ ivs)) :: rs) h' → R (.ok .next) { s with heap := h', toks := tk }) :
    codeAny (model prog w) A (.compLoop (.ListComp (.Name word p0) [⟨t0, i0, [], 0⟩, ⟨.Name word p1, i1, [], 0⟩] scope pos) 1 (.ref I) (.ref acc) env) R s := by
  refine codeAny_loop rfl (fun k s' => ∃ i h' tk, s' = { s with heap := h', toks := tk } ∧ Cx h₀ env.locals [] ((I, LI l i) :: (acc, PL (us ++ ivs.take i)) :: rs) h' ∧ i ≤ ivs.length ∧ k = ivs.length + 1 - i) ?_ (ivs.length + 1) ⟨0, s.heap, s.toks, rfl, by simpa using C, Nat.zero_le _, rfl⟩
  rintro k s' ⟨i, h', tk, rfl, C, hi, rfl⟩
  show wpAny _ _ ((compTurn (.ListComp (.Name word p0) [⟨t0, i0, [], 0⟩, ⟨.Name word p1, i1, [], 0⟩] scope pos) 1 (.ref I) (.ref acc) env).onRaise (fun x => do noteFrame x env; theTreesLotGoes x)) _ _ _
  refine wpAny_noted ?_
  rw [compTurn2_1]
  have x := hla.keeps C.keep
  refine wpAny_bind (wpAny_standAt (wpAny_bind ?_))
  by_cases hlt : i < ivs.length
  · refine wpAny_pyNext_list_item (C.isLI (.head _)) x.isL (x := ivs[i]) (by simp [hlt]) fun h₂ hit hsb => ?_
    have C2 := C.upd (P' := LI l (i + 1)) hsb.extBut (by obtain ⟨o, e1, e2, e3⟩ := hit; exact ⟨o, e1, e2, e3⟩)
    refine wpAny_bind (letOwned_L hit (wpAny_bind (wpAny_assign_Name (stE C2 hl hk fun h3 tk3 C3 => ?_))))
    refine wpAny_bind (wpAny_bind (nmE (v := ivs[i]) C3 (by simp [put]) hl hk hd (wpAny_bind (append_C C3.swap (by simp; omega) fun h4 C4 => ?_))))
    refine wpAny_pure (wpAny_pure ⟨rfl, ivs.length + 1 - (i + 1), by omega, i + 1, h4, tk3, rfl, ?_, hlt, rfl⟩)
    have e : us ++ ivs.take i ++ [ivs[i]] = us ++ ivs.take (i + 1) := by rw [List.append_assoc, List.take_add_one, List.getElem?_eq_getElem hlt]; rfl
    rw [e] at C4
    exact C4.swap.re trivial
  · have hin : i = ivs.length := by omega
    subst hin
    refine wpAny_pyNext_list_end hh (C.isLI (.head _)) x.isL (by simp) fun h₂ hsb => ?_
    refine wpAny_pure (q h₂ tk ?_)
    have := C.lost hsb
    rwa [List.take_length] at this
theorem compStart_1 {elt t0 i0 t1 i1 scope pos it acc}
    (h0 : codeAny (model prog w) A (.compLoop (.ListComp elt [⟨t0, i0, [], 0⟩, ⟨t1, i1, [], 0⟩] scope pos) 1 it acc env) R s)
    (h : wpAny (model prog w) A (pyIter it) (fun it' s' => codeAny (model prog w) A (.compLoop (.ListComp elt [⟨t0, i0, [], 0⟩, ⟨t1, i1, [], 0⟩] scope pos) 1 it' acc env) R s')
      (notedBy (model prog w) A env fun x s' => R (.error x) s') s) :
    codeAny (model prog w) A (.compStart (.ListComp elt [⟨t0, i0, [], 0⟩, ⟨t1, i1, [], 0⟩] scope pos) 1 it acc env) R s := by
  refine codeAny_of_tree ?_
  show wpAny _ _ ((compStart (.ListComp elt [⟨t0, i0, [], 0⟩, ⟨t1, i1, [], 0⟩] scope pos) 1 it acc env).onRaise (fun x => do noteFrame x env; standAt theWindowsPlace)) _ _ s
  refine wpAny_notedAt ?_
  unfold compStart
  show wpAny _ _ (ask >>= _) _ _ s
  refine wpAny_bind (wpAny_askSetting (wpAny_ite ?_))
  split
  · first
      | exact wpAny_bind (wpAny_pure (wpAny_pure (And.intro rfl h0)))
      | exact wpAny_pure (And.intro rfl h0)
  · first
      | exact wpAny_bind (wpAny_rule (wpAny_bind (wpAny_standAt (wpAny_bind (wpAny_mono h (fun it' s' h' => wpAny_pure (And.intro rfl h')) fun _ _ x => x)))))
      | (refine wpAny_bind (wpAny_rule ?_); show wpAny _ _ (standAt i1.pos >>= _) _ _ s; exact wpAny_bind (wpAny_standAt (wpAny_bind (wpAny_mono h (fun it' s' h' => wpAny_pure (And.intro rfl h')) fun _ _ x => x))))
end
end Mine
end

section
set_option maxRecDepth 100000
set_option linter.unusedVariables false
namespace Mine
open PySem PySem.W PySem.Calls PyProof.Rows PySem.Builtin PySem.Builtin.Str

/-- lists in a list, by index -/
def ListsAt (h : Heap) (rvs : List Value) (vss : List (List Value)) : Prop := rvs.length = vss.length ∧ ∀ (i : Nat) (v : Value), rvs[i]? = some v → ∃ a ivs, vss[i]? = some ivs ∧ v = .ref a ∧ LAt h a ivs
theorem flatten_take_len {vss : List (List Value)} (i : Nat) : (vss.take i).flatten.length ≤ vss.flatten.length := by
  have : (vss.take i ++ vss.drop i).flatten = vss.flatten := by rw [List.take_append_drop]
  rw [← this, List.flatten_append]; simp
theorem flatten_take_snoc {vss : List (List Value)} {i : Nat} {x : List Value} (e : vss[i]? = some x) : (vss.take (i + 1)).flatten = (vss.take i).flatten ++ x := by
  rw [List.take_add_one, e, List.flatten_append]; simp

section
variable {prog : Program} {w : World} {A : Around} {E : Value → Shared → Prop} {R : Result → Shared → Prop} {s : Shared}
variable {h₀ : Heap} {env : Env} {bs : List (Str × Value)} {rs : Rs}
theorem comp_outer {row word : Str} {p0 p1 p2 p3 : Pos} {i0 : PySem.Expr} {scope : Scope} {pos : Pos} {I l acc : Addr} {rvs : List Value} {vss : List (List Value)} (hh : A.handled = none)
    (hr : env.scope.names.lookup row = some .local) (hl : env.scope.names.lookup word = some .local) (hk : env.scope.kind = .function) (hd : (word == ("__debug__" : Str)) = false) (hd' : (row == ("__debug__" : Str)) = false)
    (hla : LAt h₀ l rvs) (hv : ListsAt h₀ rvs vss) (C : Cx h₀ env.locals [] ((I, LI l 0) :: (acc, PL []) :: rs) s.heap) (hsz : vss.flatten.length ≤ 100000)
    (q : ∀ h' tk, Cx h₀ env.locals [] ((acc, PL vss.flatten) :: rs) h' → R (.ok .next) { s with heap := h', toks := tk }) :
    codeAny (model prog w) A (.compLoop (.ListComp (.Name word p0) [⟨.Name row p2, i0, [], 0⟩, ⟨.Name word p1, .Name row p3, [], 0⟩] scope pos) 0 (.ref I) (.ref acc) env) R s := by
  refine codeAny_loop rfl (fun k s' => ∃ i h' tk, s' = { s with heap := h', toks := tk } ∧ Cx h₀ env.locals [] ((I, LI l i) :: (acc, PL (vss.take i).flatten) :: rs) h' ∧ i ≤ rvs.length ∧ k = rvs.length + 1 - i) ?_ (rvs.length + 1) ⟨0, s.heap, s.toks, rfl, by simpa using C, Nat.zero_le _, rfl⟩
  rintro k s' ⟨i, h', tk, rfl, C, hi, rfl⟩
  show wpAny _ _ ((compTurn (.ListComp (.Name word p0) [⟨.Name row p2, i0, [], 0⟩, ⟨.Name word p1, .Name row p3, [], 0⟩] scope pos) 0 (.ref I) (.ref acc) env).onRaise (fun x => do noteFrame x env; theTreesLotGoes x)) _ _ _
  refine wpAny_noted ?_
  rw [compTurn2_0]
  have x := hla.keeps C.keep
  refine wpAny_bind (wpAny_standAt (wpAny_bind ?_))
  by_cases hlt : i < rvs.length
  · obtain ⟨ra, ivs, hvi, hve, hra⟩ := hv.2 i rvs[i] (List.getElem?_eq_getElem hlt)
    refine wpAny_pyNext_list_item (C.isLI (.head _)) x.isL (x := rvs[i]) (by simp [hlt]) fun h₂ hit hsb => ?_
    have C2 := C.upd (P' := LI l (i + 1)) hsb.extBut (by obtain ⟨o, e1, e2, e3⟩ := hit; exact ⟨o, e1, e2, e3⟩)
    refine wpAny_bind (letOwned_L hit (wpAny_bind (wpAny_assign_Name (stE C2 hr hk fun h3 tk3 C3 => ?_))))
    have hlk : (put row rvs[i] []).lookup row = some rvs[i] := by simp [put]
    refine wpAny_bind (nmE (v := rvs[i]) C3 hlk hr hk hd' (wpAny_bind (wpAny_standAt (wpAny_bind (wpAny_pure (wpAny_bind (wpAny_holding ?_)))))))
    rw [hve]
    have xi := hra.keeps C3.keep
    refine wpAny_pyIter_list xi.isL ?_
    have C4 := (C3.re (bs' := []) trivial).push ({ cls := .type "list_iterator", data := .fields #[.ref ra, .int 0 0] } : Obj) (P := LI ra 0) ⟨rfl, rfl⟩ rfl
    generalize hI : h3.objs.size = J at C4 ⊢
    generalize hH : h3.push ({ cls := .type "list_iterator", data := .fields #[.ref ra, .int 0 0] } : Obj) = H at C4 ⊢
    have C5 : Cx h₀ env.locals [] ((J, LI ra 0) :: (acc, PL (vss.take i).flatten) :: (I, LI l (i + 1)) :: rs) H := by
      refine C4.sub (fun _ _ e => e) (fun r hr => ?_) ?_
      · simp only [List.mem_cons] at hr ⊢
        rcases hr with h | h | h | h
        · exact .inl h
        · exact .inr (.inr (.inl h))
        · exact .inr (.inl h)
        · exact .inr (.inr (.inr h))
      · have := (List.nodup_cons.mp C4.nd).2
        simp only [List.map_cons, List.nodup_cons, List.mem_cons, not_or] at this ⊢
        exact ⟨⟨this.1.2.1, this.1.1, this.1.2.2⟩, ⟨fun e => this.2.1.1 e.symm, this.2.2.1⟩, this.2.1.2, this.2.2.2⟩
    have hz := flatten_take_len (vss := vss) (i + 1)
    rw [flatten_take_snoc hvi, List.length_append] at hz
    refine wpAny_bind (wpAny_runOwn ?_)
    have fin : ∀ (h' : Heap) (tk : Nat), Cx h₀ env.locals [] ((acc, PL ((vss.take i).flatten ++ ivs)) :: (I, LI l (i + 1)) :: rs) h' → Cx h₀ env.locals [] ((I, LI l (i + 1)) :: (acc, PL (vss.take (i + 1)).flatten) :: rs) h' := by
      intro h' tk C6
      rw [← flatten_take_snoc hvi] at C6
      exact C6.swap
    refine compStart_1 ?_ (wpAny_pyIter_listiter (C5.isLI (.head _)) ?_)
    · exact comp_inner hh hl hk hd hra C5 (by omega) fun h6 tk6 C6 => wpAny_pure ⟨rfl, rvs.length + 1 - (i + 1), by omega, i + 1, h6, tk6, rfl, fin h6 tk6 C6, hlt, rfl⟩
    · exact comp_inner hh hl hk hd hra C5 (by omega) fun h6 tk6 C6 => wpAny_pure ⟨rfl, rvs.length + 1 - (i + 1), by omega, i + 1, h6, tk6, rfl, fin h6 tk6 C6, hlt, rfl⟩
  · have hin : i = rvs.length := by omega
    subst hin
    refine wpAny_pyNext_list_end hh (C.isLI (.head _)) x.isL (by simp) fun h₂ hsb => ?_
    refine wpAny_pure (q h₂ tk ?_)
    have := C.lost hsb
    rwa [hv.1, List.take_length] at this
end
end Mine
end

section
set_option maxRecDepth 100000
set_option linter.unusedVariables false
namespace Mine
open PySem PySem.W PySem.Calls PyProof.Rows PySem.Builtin PySem.Builtin.Str

def NsP : Obj → Prop := fun o => ∃ (m : Str → Option Value) (es : _) (ep : _), o.data = .dict es ep ∧ StrKeys es ∧ ∀ name, nsFind es name = m name
section
variable {h₀ h h' : Heap} {L : Addr} {bs : List (Str × Value)} {rs : Rs}
theorem Cx.adopts (C : Cx h₀ L bs rs h) (k : Kp h h') {ns : Rs} (hn : ∀ r ∈ ns, h.get? r.1 = none) (ho : ∀ r ∈ ns, ∃ o, h'.get? r.1 = some o ∧ r.2 o) (nd : (ns.map (·.1)).Nodup) : Cx h₀ L bs (ns ++ rs) h' := by
  have C' := C.keeps k
  refine ⟨C'.fr, fun r hr => ?_, fun r hr => ?_, ?_⟩
  · rcases List.mem_append.mp hr with hr | hr
    · exact ho r hr
    · exact C'.at_ r hr
  · rcases List.mem_append.mp hr with hr | hr
    · cases q : h₀.get? r.1 with
      | none => rfl
      | some o' => have := hn r hr; rw [C.keep _ _ q] at this; cases this
    · exact C'.fresh r hr
  · have := List.nodup_cons.mp C.nd
    rw [List.map_append]
    refine List.nodup_cons.mpr ⟨fun hm => ?_, List.nodup_append.mpr ⟨nd, this.2, fun a ha b hb e => ?_⟩⟩
    · rcases List.mem_append.mp hm with hm | hm
      · obtain ⟨r, hr, e⟩ := List.mem_map.mp hm
        obtain ⟨m, F, _⟩ := C.fr
        obtain ⟨oL, _, _, hL, _⟩ := F.ns
        have h1 := hn r hr
        rw [e, hL] at h1; cases h1
      · exact this.1 hm
    · obtain ⟨r, hr, e1⟩ := List.mem_map.mp ha
      obtain ⟨r', hr', e2⟩ := List.mem_map.mp hb
      obtain ⟨o', h1, _⟩ := C.at_ r' hr'
      have h2 := hn r hr
      rw [e1, e, ← e2, h1] at h2; cases h2
theorem Cx.perm {rs' : Rs} (C : Cx h₀ L bs rs h) (p : rs'.Perm rs) : Cx h₀ L bs rs' h :=
  C.sub (fun _ _ e => e) (fun r hr => p.mem_iff.mp hr) ((p.map (·.1)).nodup_iff.mpr (List.nodup_cons.mp C.nd).2)
theorem Cx.nsAt {m : Addr} (C : Cx h₀ L bs rs h) (hm : (m, NsP) ∈ rs) : ∃ f, h.Ns m f := by
  obtain ⟨o, ho, f, es, ep, e⟩ := C.get hm
  exact ⟨f, o, es, ep, ho, e⟩
end
section
variable {prog : Program} {w : World} {A : Around} {E : Value → Shared → Prop} {s : Shared} {name : Str} {fscope : Scope} {L a : Addr} {cd : Value} {h₀ : Heap} {bs : List (Str × Value)} {rs : Rs} {Q : Flow → Shared → Prop}
theorem sComp2 {row word words rows : Str} {p0 p1 p2 p3 p4 py spos pos : Pos} {scope : Scope} {rest : List Stmt} {l : Addr} {rvs : List Value} {vss : List (List Value)}
    (hsw : swapsWith (.ListComp (.Name word p0) [⟨.Name row p2, .Name rows p4, [], 0⟩, ⟨.Name word p1, .Name row p3, [], 0⟩] scope pos) (some (.Name words py)) spos.line (envOf name fscope L a cd) = pure true)
    (hh : A.handled = none) (hfree : ∀ z ∈ scope.names, z.2 ≠ .free) (hcell : ∀ z ∈ scope.names, z.2 ≠ .cell) (hkind : scope.kind = .function)
    (hnames : ∀ z ∈ scope.names, z.2 = .local → scope.names.lookup z.1 = some .local) (hr : scope.names.lookup row = some .local) (hl : scope.names.lookup word = some .local)
    (hw : fscope.names.lookup words = some .local) (hk : fscope.kind = .function) (hrl : fscope.names.lookup rows = some .local)
    (hd : (word == ("__debug__" : Str)) = false) (hd' : (row == ("__debug__" : Str)) = false) (hd'' : (rows == ("__debug__" : Str)) = false)
    (C : Cx h₀ L bs rs s.heap) (e : bs.lookup rows = some (.ref l)) (x : LAt s.heap l rvs) (hv : ListsAt s.heap rvs vss) (hsz : vss.flatten.length ≤ 100000)
    (q : ∀ D h' tk, Cx h₀ L (put words (.ref D) bs) ((D, PL vss.flatten) :: rs) h' → wpAny (model prog w) A (execs rest (envOf name fscope L a cd)) Q E { s with heap := h', toks := tk }) :
    wpAny (model prog w) A (execs (.Assign [.Name words py] (.ListComp (.Name word p0) [⟨.Name row p2, .Name rows p4, [], 0⟩, ⟨.Name word p1, .Name row p3, [], 0⟩] scope pos) spos :: rest) (envOf name fscope L a cd)) Q E s := by
  refine sThen ?_
  rw [exec_Assign_Name_used _ _ _ _ hsw]
  refine wpAny_bind (wpAny_standAt (wpAny_bind ?_))
  show wpAny _ A (do let _ ← comprehension (.ListComp (.Name word p0) [⟨.Name row p2, .Name rows p4, [], 0⟩, ⟨.Name word p1, .Name row p3, [], 0⟩] scope pos) scope (envOf name fscope L a cd) _ (newList []) false (eval (.Name rows p4) (envOf name fscope L a cd)) (some (assign (.Name words py) (envOf name fscope L a cd)))) _ _ s
  refine wpAny_bind (wpAny_mono (wpAny_comprehension_use (Q := fun _ s' => wpAny (model prog w) A (execs rest (envOf name fscope L a cd)) Q E s') rfl (by intro _; rfl) hfree hkind hnames (nmL C e hrl hk hd'' ?_)) (fun _ s' hq => wpAny_pure (wpAny_pure hq)) fun _ _ e => e)
  refine wpAny_pyIter_list x.isL (wpAny_newObj_type (hd := by size_fits) (wpAny_newFunctionEnv hcell (by intro y hy; simp at hy) (fun h₁ hns₁ hsb₁ => ?_) hkind))
  dsimp only at hns₁ hsb₁ ⊢
  generalize hH1 : s.heap.push { cls := .type "list_iterator", data := .fields #[.ref l, .int 0 0] } = H1 at hns₁ hsb₁ ⊢
  have hD : H1.objs.size = s.heap.objs.size + 1 := by rw [← hH1, Heap.size_push]
  generalize hH2 : H1.push { cls := .type "list", dict := none, data := .seq ([] : List Value).toArray } = H2 at hns₁ hsb₁ ⊢
  have hC : H2.objs.size = s.heap.objs.size + 2 := by rw [← hH2, Heap.size_push, hD]
  have hDI : H1.objs.size ≠ s.heap.objs.size := by rw [hD]; exact Nat.succ_ne_self _
  have hDC : H1.objs.size ≠ H2.objs.size := by rw [hD, hC]; exact Nat.ne_of_lt (Nat.lt_succ_self _)
  have hIC : s.heap.objs.size ≠ H2.objs.size := by rw [hC]; exact Nat.ne_of_lt (Nat.lt_succ_of_lt (Nat.lt_succ_self _))
  have below : ∀ b, b < s.heap.objs.size → b ≠ H2.objs.size := fun b hb => by rw [hC]; exact Nat.ne_of_lt (Nat.lt_succ_of_lt (Nat.lt_succ_of_lt hb))
  have old : ∀ b o, s.heap.get? b = some o → h₁.get? b = some o := fun b o e =>
    hsb₁.extBut b o (below b (Heap.lt_size e)) (Heap.get?_push_of_some _ (hH2 ▸ Heap.get?_push_of_some _ (hH1 ▸ Heap.get?_push_of_some _ e)))
  have fresh : ∀ a, s.heap.objs.size ≤ a → s.heap.get? a = none := fun a ha => by
    cases e : s.heap.get? a with
    | none => rfl
    | some o' => exact absurd (Heap.lt_size e) (Nat.not_lt.mpr ha)
  have C1 : Cx s.heap H2.objs.size [] [(s.heap.objs.size, LI l 0), (H1.objs.size, PL [])] h₁ := by
    refine ⟨⟨_, ⟨hns₁, old, by rw [hC]; exact Nat.le_add_right _ _⟩, fun _ _ e => nomatch e⟩, ?_, ?_, ?_⟩
    · intro r hr
      simp only [List.mem_cons, List.not_mem_nil, or_false] at hr
      rcases hr with rfl | rfl
      · exact ⟨_, hsb₁.extBut _ _ hIC (Heap.get?_push_of_some _ (hH2 ▸ Heap.get?_push_of_some _ (hH1 ▸ Heap.get?_push_size _ rfl))), rfl, rfl⟩
      · exact ⟨_, hsb₁.extBut _ _ hDC (Heap.get?_push_of_some _ (hH2 ▸ Heap.get?_push_size _ rfl)), 0, rfl⟩
    · intro r hr
      simp only [List.mem_cons, List.not_mem_nil, or_false] at hr
      rcases hr with rfl | rfl
      · exact fresh _ (Nat.le_refl _)
      · exact fresh _ (by rw [hD]; exact Nat.le_succ _)
    · simp only [List.map_cons, List.map_nil, List.nodup_cons, List.mem_cons, List.not_mem_nil, or_false, not_or, not_false_eq_true, List.nodup_nil, and_true]
      exact ⟨⟨fun e => hIC e.symm, fun e => hDC e.symm⟩, fun e => hDI e.symm⟩
  have fin : ∀ h' (tk : Nat), Cx s.heap H2.objs.size [] [(H1.objs.size, PL vss.flatten)] h' →
      wpAny (model prog w) A (assign (.Name words py) (envOf name fscope L a cd) (.ref H1.objs.size)) (fun _ s'' => ∃ m, s''.heap.Ns H2.objs.size m ∧ ∀ h', Heap.SameBut H2.objs.size s''.heap h' → wpAny (model prog w) A (execs rest (envOf name fscope L a cd)) Q E { s'' with heap := h' }) E { s with heap := h', toks := tk } := by
    intro h' tk C6
    have C7 : Cx h₀ L bs ([(H2.objs.size, NsP), (H1.objs.size, PL vss.flatten)] ++ rs) h' := by
      refine C.adopts C6.keep ?_ ?_ ?_
      · intro r hr
        simp only [List.mem_cons, List.not_mem_nil, or_false] at hr
        rcases hr with rfl | rfl
        · exact fresh _ (by rw [hC]; exact Nat.le_add_right _ _)
        · exact fresh _ (by rw [hD]; exact Nat.le_succ _)
      · intro r hr
        simp only [List.mem_cons, List.not_mem_nil, or_false] at hr
        rcases hr with rfl | rfl
        · obtain ⟨m, F, _⟩ := C6.fr
          obtain ⟨o, es, ep, ho, p⟩ := F.ns
          exact ⟨o, ho, m, es, ep, p⟩
        · exact C6.get (.head _)
      · simp only [List.map_cons, List.map_nil, List.nodup_cons, List.mem_cons, List.not_mem_nil, or_false, not_or, not_false_eq_true, List.nodup_nil, and_true]
        exact fun e => hDC e.symm
    refine wpAny_assign_Name (stL C7 hw hk fun h8 tk8 C8 => ?_)
    obtain ⟨f, hf⟩ := C8.nsAt (.head _)
    exact ⟨f, hf, fun h9 hs9 => q _ h9 tk8 (C8.lost hs9.extBut)⟩
  have go : ∀ s₂ : Shared, s₂ = { s with heap := h₁, toks := s.toks + ([] : List (Str × Value)).length } →
      codeAny (model prog w) A (.compLoop (.ListComp (.Name word p0) [⟨.Name row p2, .Name rows p4, [], 0⟩, ⟨.Name word p1, .Name row p3, [], 0⟩] scope pos) 0 (.ref s.heap.objs.size) (.ref H1.objs.size) (compEnv scope H2.objs.size (envOf name fscope L a cd)))
        (fun r s' => match r with
          | .ok _ => wpAny (model prog w) A (assign (.Name words py) (envOf name fscope L a cd) (.ref H1.objs.size)) (fun _ s'' => ∃ m, s''.heap.Ns H2.objs.size m ∧ ∀ h', Heap.SameBut H2.objs.size s''.heap h' → wpAny (model prog w) A (execs rest (envOf name fscope L a cd)) Q E { s'' with heap := h' }) E s'
          | .error x => ∃ m, s'.heap.Ns H2.objs.size m ∧ ∀ h', Heap.SameBut H2.objs.size s'.heap h' → wpAny (model prog w) A (passOn "comprehension.variables-let-go" x (compEnv scope H2.objs.size (envOf name fscope L a cd))) (fun (_ : Value) s' => wpAny (model prog w) A (execs rest (envOf name fscope L a cd)) Q E s') E { s' with heap := h' }) s₂ := by
    rintro s₂ rfl
    exact comp_outer (h₀ := s.heap) (env := compEnv scope H2.objs.size (envOf name fscope L a cd)) hh hr hl hkind hd hd' x hv C1 hsz fun h' tk C6 => fin h' tk C6
  exact codeAny_compStart_list (go _ rfl) (wpAny_pyIter_listiter (C1.isLI (.head _)) (go _ rfl))
end
end Mine
end

section
set_option maxRecDepth 100000
set_option linter.unusedVariables false
namespace Mine
open PySem

/-- the lines of a block -/
def linesB (b : Blk) : List Ln := if b.2 = [] then [(b.1, [])] else b.2.map fun ws => (b.1, ws)
def linesT (bl : List Blk) : List Ln := bl.flatMap linesB
def grpT (lim : Int) (pre : List Nat) (ws : List (List Nat)) : List (List (List Nat)) := if ws = [] then [] else groups lim pre ws
def refB (lim : Int) (b : Blk) : Blk := (b.1, grpT (limOf b.1 lim) (indOf b.1) b.2.flatten)
def GoodB (b : Blk) : Prop := b.1 ∈ Hs ∧ (b.2 ≠ [] → b.1 ∈ heads) ∧ ∀ ws ∈ b.2, GoodR ws ∧ HeadW ws
def AdjOk : List Blk → Prop
  | a :: b :: r => (a.2 ≠ [] → b.2 ≠ [] → a.1 ≠ b.1) ∧ AdjOk (b :: r)
  | _ => True

theorem linesT_append (a b : List Blk) : linesT (a ++ b) = linesT a ++ linesT b := by simp [linesT]
theorem sep_ok : ∀ H ∈ Hs, SepOk H := by
  intro H h
  simp only [Hs, heads, List.map_cons, List.map_nil, List.mem_append, List.mem_cons, List.not_mem_nil, or_false] at h
  rcases h with (rfl | rfl | rfl | rfl | rfl) | (rfl | rfl | rfl | rfl | rfl) <;> refine ⟨by decide, by decide, by decide⟩
theorem lines_good {bl : List Blk} (g : ∀ b ∈ bl, GoodB b) : ∀ x ∈ linesT bl, GoodLn x := by
  intro x hx
  obtain ⟨b, hb, hx⟩ := List.mem_flatMap.mp hx
  obtain ⟨g1, g2, g3⟩ := g b hb
  unfold linesB at hx
  split at hx
  · rw [List.mem_singleton.mp hx]
    exact .inl ⟨rfl, sep_ok _ g1⟩
  · rename_i hne
    obtain ⟨ws, hw, rfl⟩ := List.mem_map.mp hx
    exact .inr ⟨g2 hne, (g3 ws hw).1, (g3 ws hw).2⟩
theorem page_block (b : Blk) (g : ∀ ws ∈ b.2, GoodR ws) : pageB b = (linesB b).flatMap fun x => txt x ++ [10] := by
  unfold pageB linesB sepT
  split
  · rename_i e; simp [e, pg, txt]
  · rw [List.flatMap_map, List.nil_append]
    unfold pg
    rw [List.flatMap_def, List.flatMap_def]
    congr 1
    apply List.map_congr_left
    intro ws hw
    simp [txt, (g ws hw).1, rowT]
theorem flat_jn : ∀ ls : List Ln, (ls.flatMap fun x => txt x ++ [10]) = jn [10] (ls.map txt ++ [[]])
  | [] => rfl
  | x :: r => by
    rw [List.flatMap_cons, flat_jn r, List.map_cons, List.cons_append, jn_cons [10] _ (by simp)]
theorem pageT_flat {bl : List Blk} (g : ∀ b ∈ bl, GoodB b) : pageT bl = (linesT bl).flatMap fun x => txt x ++ [10] := by
  induction bl with
  | nil => rfl
  | cons b r ih =>
    have e1 : linesT (b :: r) = linesB b ++ linesT r := by simp [linesT]
    have e2 : pageT (b :: r) = pageB b ++ pageT r := by simp [pageT]
    rw [e1, e2, List.flatMap_append, ih fun b hb => g b (.tail _ hb), page_block b fun ws hw => ((g b (.head _)).2.2 ws hw).1]
theorem pageT_jn {bl : List Blk} (g : ∀ b ∈ bl, GoodB b) : pageT bl = jn [10] ((linesT bl).map txt ++ [[]]) := by rw [pageT_flat g, flat_jn]
theorem weight_page {bl : List Blk} (g : ∀ b ∈ bl, GoodB b) : weight (linesT bl) = (pageT bl).length := by
  rw [pageT_flat g, List.length_flatMap]; simp [weight]

/-- the run over the lines of blocks -/
theorem run_rows (lim : Int) (D H : List Nat) : ∀ (r cur : List (List (List Nat))), (∀ ws ∈ r, ws ≠ []) → (r.map fun ws => ((H, ws) : Ln)).foldl (stepR lim) (D, H, cur) = (D, H, cur ++ r)
  | [], cur, _ => by simp
  | ws :: r, cur, h => by
    rw [List.map_cons, List.foldl_cons]
    have e : stepR lim (D, H, cur) (H, ws) = (D, H, cur ++ [ws]) := by
      unfold stepR
      rw [if_neg (h ws (.head _)), if_pos rfl]
    rw [e, run_rows lim D H r (cur ++ [ws]) fun v hv => h v (.tail _ hv)]
    simp
theorem flatten_ne {rows : List (List (List Nat))} (h : rows ≠ []) (g : ∀ ws ∈ rows, GoodR ws) : rows.flatten ≠ [] := by
  obtain ⟨r, rest, rfl⟩ := List.exists_cons_of_ne_nil h
  obtain ⟨w, ws, e⟩ := List.exists_cons_of_ne_nil (g r (.head _)).1
  simp [e]
theorem groups_ne (lim : Int) (pre : List Nat) (ws : List (List Nat)) : groups lim pre ws ≠ [] := by simp [groups]
theorem fill_page (lim : Int) (b : Blk) (h : b.2 ≠ []) (g : ∀ ws ∈ b.2, GoodR ws) : fillT lim b.1 b.2 = pageB (refB lim b) := by
  have e := flatten_ne h g
  unfold fillT pageB refB sepT grpT
  rw [if_neg h, if_neg e]
  simp only
  rw [if_neg (groups_ne _ _ _), List.nil_append]
theorem sep_page (lim : Int) (b : Blk) (h : b.2 = []) : b.1 ++ [10] = pageB (refB lim b) := by
  simp [pageB, refB, sepT, grpT, h, pg]
/-- what the run holds behind blocks -/
def RunAt (lim : Int) (bl : List Blk) (st : Rst) : Prop := st.1 ++ fillT lim st.2.1 st.2.2 = pageT (bl.map (refB lim)) ∧ (st.2.2 ≠ [] → ∃ pre b, bl = pre ++ [b] ∧ b.2 ≠ [] ∧ b.1 = st.2.1)
theorem adj_last : ∀ {pre : List Blk} {a b : Blk} {r : List Blk}, AdjOk (pre ++ a :: b :: r) → a.2 ≠ [] → b.2 ≠ [] → a.1 ≠ b.1
  | [], a, b, r, h => h.1
  | [x], a, b, r, h => adj_last (pre := []) h.2
  | x :: y :: pre, a, b, r, h => adj_last (pre := y :: pre) h.2
theorem adj_left : ∀ {x y : List Blk}, AdjOk (x ++ y) → AdjOk x
  | [], _, _ => trivial
  | [a], _, _ => trivial
  | a :: b :: r, y, h => ⟨h.1, adj_left (x := b :: r) h.2⟩
theorem run_block {lim : Int} {bl : List Blk} {st : Rst} {b : Blk} (h : RunAt lim bl st) (a : AdjOk (bl ++ [b])) (g : ∀ ws ∈ b.2, GoodR ws) : RunAt lim (bl ++ [b]) ((linesB b).foldl (stepR lim) st) := by
  have e0 : pageT ((bl ++ [b]).map (refB lim)) = pageT (bl.map (refB lim)) ++ pageB (refB lim b) := by rw [List.map_append, pageT_append]; simp [pageT]
  unfold linesB
  split
  · rename_i e
    refine ⟨?_, ?_⟩
    · show (stepR lim st (b.1, [])).1 ++ _ = _
      rw [e0, ← h.1, ← sep_page lim b e]
      simp [stepR, fillT]
    · intro hc
      exfalso
      exact hc (by simp [stepR])
  · rename_i hne
    cases hb : b.2 with
    | nil => exact absurd hb hne
    | cons ws r =>
      have hg := g
      rw [hb] at hg
      have hws := (hg ws (.head _)).1
      have e1 : stepR lim st (b.1, ws) = (pageT (bl.map (refB lim)), b.1, [ws]) := by
        unfold stepR
        rw [if_neg hws]
        simp only
        split
        · rename_i eq
          have hc : st.2.2 = [] := by
            by_cases hc : st.2.2 = []
            · exact hc
            · exfalso
              obtain ⟨pre, b', e2, e3, e4⟩ := h.2 hc
              rw [e2, List.append_assoc] at a
              exact adj_last a e3 hne (e4.trans eq.symm)
          have := h.1
          rw [hc] at this ⊢
          simp only [fillT, if_true, List.append_nil] at this
          rw [this, ← eq]; rfl
        · rw [h.1]
      rw [List.map_cons, List.foldl_cons, e1, run_rows lim _ _ r [ws] fun v hv => (hg v (.tail _ hv)).1]
      refine ⟨?_, fun _ => ⟨bl, b, rfl, hne, rfl⟩⟩
      have e5 : ([ws] ++ r) = b.2 := by rw [hb]; rfl
      show pageT _ ++ fillT lim b.1 ([ws] ++ r) = _
      rw [e5, e0, fill_page lim b hne g]
theorem run_blocks {lim : Int} : ∀ (bl pre : List Blk) (st : Rst), RunAt lim pre st → AdjOk (pre ++ bl) → (∀ b ∈ bl, ∀ ws ∈ b.2, GoodR ws) → RunAt lim (pre ++ bl) ((linesT bl).foldl (stepR lim) st)
  | [], pre, st, h, _, _ => by simpa [linesT] using h
  | b :: r, pre, st, h, a, g => by
    have a' : AdjOk (pre ++ [b] ++ r) := by simpa using a
    have h1 := run_block h (adj_left a') (g b (.head _))
    have h2 := run_blocks r (pre ++ [b]) _ h1 a' fun x hx => g x (.tail _ hx)
    have e : linesT (b :: r) = linesB b ++ linesT r := by simp [linesT]
    rw [e, List.foldl_append]
    simpa using h2
theorem run_page {lim : Int} {bl : List Blk} (a : AdjOk bl) (g : ∀ b ∈ bl, GoodB b) : runT lim (linesT bl) = pageT (bl.map (refB lim)) := by
  have := run_blocks (lim := lim) bl [] ([], [], []) ⟨by simp [fillT, pageT], fun h => absurd rfl h⟩ a fun b hb ws hw => ((g b hb).2.2 ws hw).1
  exact this.1

/-- blocks filled anew -/
theorem refB_good {lim : Int} {b : Blk} (g : GoodB b) : GoodB (refB lim b) := by
  obtain ⟨g1, g2, g3⟩ := g
  by_cases h : b.2 = []
  · have : refB lim b = (b.1, []) := by simp [refB, grpT, h]
    rw [this]
    exact ⟨g1, fun h => absurd rfl h, fun ws hw => by cases hw⟩
  · have hne := flatten_ne h fun ws hw => (g3 ws hw).1
    have hgw : ∀ w ∈ b.2.flatten, GoodW w := fun v hv => by
      obtain ⟨ws, hw, hv⟩ := List.mem_flatten.mp hv
      exact (g3 ws hw).1.2 v hv
    have hhw : HeadW b.2.flatten := fun v hv => by
      obtain ⟨ws, hw, hv⟩ := List.mem_flatten.mp hv
      exact (g3 ws hw).2 v hv
    refine ⟨g1, fun _ => g2 h, fun ws hw => ?_⟩
    have hw' : ws ∈ groups (limOf b.1 lim) (indOf b.1) b.2.flatten := by
      simpa [refB, grpT, hne] using hw
    refine ⟨groups_good hne hgw ws hw', fun v hv => hhw v ?_⟩
    rw [← groups_flat (limOf b.1 lim) (indOf b.1) b.2.flatten]
    exact List.mem_flatten.mpr ⟨ws, hw', hv⟩
theorem refB_nil {lim : Int} {b : Blk} (g : GoodB b) : (refB lim b).2 ≠ [] ↔ b.2 ≠ [] := by
  by_cases h : b.2 = []
  · simp [refB, grpT, h]
  · have hne := flatten_ne h fun ws hw => (g.2.2 ws hw).1
    simp only [refB, grpT, hne, if_false, h, ne_eq, not_false_eq_true, iff_true]
    exact groups_ne _ _ _
theorem adj_ref {lim : Int} : ∀ {bl : List Blk}, AdjOk bl → (∀ b ∈ bl, GoodB b) → AdjOk (bl.map (refB lim))
  | [], _, _ => trivial
  | [a], _, _ => trivial
  | a :: b :: r, h, g => ⟨fun ha hb => h.1 ((refB_nil (g a (.head _))).mp ha) ((refB_nil (g b (.tail _ (.head _)))).mp hb), adj_ref (bl := b :: r) h.2 fun x hx => g x (.tail _ hx)⟩
theorem ref_ref {lim other : Int} {b : Blk} : refB lim (refB other b) = refB lim b := by
  unfold refB
  simp only
  congr 2
  unfold grpT
  split
  · rename_i h; rw [h]; rfl
  · rw [groups_flat]
theorem run_twice {lim other : Int} {bl : List Blk} (a : AdjOk bl) (g : ∀ b ∈ bl, GoodB b) : runT lim (linesT (bl.map (refB other))) = pageT (bl.map (refB lim)) := by
  rw [run_page (adj_ref a g) (by intro b hb; obtain ⟨c, hc, rfl⟩ := List.mem_map.mp hb; exact refB_good (g c hc)), List.map_map]
  congr 1
  apply List.map_congr_left
  intro b _
  exact ref_ref
theorem ref_len {lim : Int} {bl : List Blk} (a : AdjOk bl) (g : ∀ b ∈ bl, GoodB b) : (pageT (bl.map (refB lim))).length ≤ 13 * (pageT bl).length := by
  rw [← run_page a g, ← weight_page g]
  have hok := runOk (lim := lim) (lines_good g)
  have hfl := fillT_len (lim := lim) (fun hc => (head_len (hok.hH hc)).1) hok.hg
  have := hok.wt
  unfold runT
  rw [List.length_append]
  omega

/-- the greedy cut -/
def Fit (lim : Int) (pre : List Nat) (cur : List (List Nat)) (w : List Nat) : Prop := ((pre.length + wsum cur + w.length : Nat) : Int) ≤ lim
theorem step_fit {lim : Int} {pre : List Nat} {out cur w} (h : cur = [] ∨ Fit lim pre cur w) : stepG lim pre (out, cur) w = (out, cur ++ [w]) := by
  unfold stepG
  rw [if_neg]
  rintro ⟨h1, h2⟩
  rcases h with h | h
  · exact h1 h
  · rw [part_len] at h2
    unfold Fit at h
    simp only at h2
    omega
theorem step_cut {lim : Int} {pre : List Nat} {out cur w} (hc : cur ≠ []) (h : ¬ Fit lim pre cur w) : stepG lim pre (out, cur) w = (out ++ [cur], [w]) := by
  unfold stepG
  rw [if_pos]
  refine ⟨hc, ?_⟩
  rw [part_len]
  unfold Fit at h
  simp only
  omega
theorem fold_fit {lim : Int} {pre : List Nat} {ws : List (List Nat)} : ∀ k, k ≤ ws.length → (∀ j w, 0 < j → j < k → ws[j]? = some w → Fit lim pre (ws.take j) w) → foldG lim pre ([], []) (ws.take k) = ([], ws.take k)
  | 0, _, _ => rfl
  | k + 1, hk, h => by
    have ih := fold_fit (lim := lim) (pre := pre) (ws := ws) k (by omega) fun j w h1 h2 => h j w h1 (by omega)
    have e : ws.take (k + 1) = ws.take k ++ [ws[k]] := by rw [List.take_add_one, List.getElem?_eq_getElem (by omega)]; rfl
    rw [e, foldG_snoc, ih]
    refine step_fit ?_
    by_cases h0 : k = 0
    · left; simp [h0]
    · right
      exact h k ws[k] (by omega) (by omega) (List.getElem?_eq_getElem (by omega))
theorem foldG_pre {lim : Int} {pre : List Nat} (a : List (List (List Nat))) : ∀ (ws : List (List Nat)) (st : Grp), foldG lim pre (a ++ st.1, st.2) ws = (a ++ (foldG lim pre st ws).1, (foldG lim pre st ws).2)
  | [], st => rfl
  | w :: r, st => by
    show foldG lim pre (stepG lim pre (a ++ st.1, st.2) w) r = _
    have e : stepG lim pre (a ++ st.1, st.2) w = (a ++ (stepG lim pre st w).1, (stepG lim pre st w).2) := by
      unfold stepG
      split
      · simp
      · rfl
    rw [e, foldG_pre a r (stepG lim pre st w)]
    rfl
theorem grp_cut {lim : Int} {pre : List Nat} {ws : List (List Nat)} {k : Nat} (h0 : 0 < k) (hk : k ≤ ws.length) (hf : ∀ j w, 0 < j → j < k → ws[j]? = some w → Fit lim pre (ws.take j) w) (he : ∀ w, ws[k]? = some w → ¬ Fit lim pre (ws.take k) w) :
    grpT lim pre ws = ws.take k :: grpT lim pre (ws.drop k) := by
  have hne : ws ≠ [] := by rintro rfl; simp at hk; omega
  have htk : ws.take k ≠ [] := by simp [hne]; omega
  have e1 := fold_fit (lim := lim) (pre := pre) k hk hf
  have e2 : foldG lim pre ([], []) ws = foldG lim pre ([], ws.take k) (ws.drop k) := by
    rw [← e1, ← foldG_append, List.take_append_drop]
  unfold grpT
  rw [if_neg hne]
  unfold groups
  rw [e2]
  by_cases hlt : k < ws.length
  · have ed : ws.drop k = ws[k] :: ws.drop (k + 1) := by rw [List.drop_eq_getElem_cons hlt]
    have e3 : foldG lim pre ([], ws.take k) (ws.drop k) = foldG lim pre ([ws.take k], [ws[k]]) (ws.drop (k + 1)) := by
      rw [ed]
      show foldG lim pre (stepG lim pre ([], ws.take k) ws[k]) _ = _
      rw [step_cut htk (he _ (List.getElem?_eq_getElem hlt))]
      rfl
    have e4 : foldG lim pre ([], []) (ws.drop k) = foldG lim pre ([], [ws[k]]) (ws.drop (k + 1)) := by
      rw [ed]
      show foldG lim pre (stepG lim pre ([], []) ws[k]) _ = _
      rw [step_fit (.inl rfl)]
      rfl
    have e5 := foldG_pre (lim := lim) (pre := pre) [ws.take k] (ws.drop (k + 1)) ([], [ws[k]])
    rw [List.append_nil] at e5
    have hd : ws.drop k ≠ [] := fun h => by rw [ed] at h; cases h
    rw [if_neg hd, e3, e4, e5]
    rfl
  · have hd : ws.drop k = [] := List.drop_of_length_le (by omega)
    rw [hd, if_pos rfl]
    rfl
end Mine
end

section
set_option maxRecDepth 100000
set_option linter.unusedVariables false
namespace Mine
open PySem PySem.W PySem.Calls PyProof.Rows PySem.Builtin PySem.Builtin.Str

def whileBody (sts : List Stmt) (k : Nat) : List Stmt := match sts.drop k with | .While _ b _ _ :: _ => b | _ => []
theorem upto {us : List Value} (k : Nat) : (slicePick us.toArray none (some (k : Int)) none).toList = us.take k := by rw [slicePick_upto']
theorem from_ {us : List Value} (k : Nat) : (slicePick us.toArray (some (k : Int)) none none).toList = us.drop k := by rw [slicePick_from']
theorem wsum_take {ws : List (List Nat)} {c : Nat} {w : List Nat} (e : ws[c]? = some w) : wsum (ws.take (c + 1)) = wsum (ws.take c) + (w.length + 1) := by
  rw [List.take_add_one, e, wsum_append]; simp [wsum]
theorem wsum_take_le (ws : List (List Nat)) (c : Nat) : wsum (ws.take c) ≤ wsum ws := by
  have : wsum (ws.take c ++ ws.drop c) = wsum ws := by rw [List.take_append_drop]
  rw [wsum_append] at this; omega
theorem len_wsum (ws : List (List Nat)) : ws.length ≤ wsum ws := by
  induction ws with
  | nil => simp
  | cons a r ih => simp only [wsum, List.map_cons, List.sum_cons, List.length_cons] at ih ⊢; omega
theorem sum_wsum (ws : List (List Nat)) : (ws.map (·.length)).sum + ws.length = wsum ws := by
  induction ws with
  | nil => rfl
  | cons a r ih => simp [wsum] at ih ⊢; omega

section
variable {prog : Program} {w : World} {A : Around} {E : Value → Shared → Prop} {s : Shared} {t u : Tok} {Q : Value → Shared → Prop}
theorem iaddI {x y z : Int} (hz : x + y = z) (q : ∀ t' tk, Q (.int z t') { s with toks := tk }) : wpAny (model prog w) A (inplaceOp .Add (.int x t) (.int y u)) Q E s := by
  subst hz; exact P.iadd_int (q _ _)
end
section
variable {prog : Program} {w : World} {A : Around} {s : Shared} {mg mb : Str → Option Value} {n : Nat}
set_option maxHeartbeats 4000000 in
theorem due_turn {Q : Flow → Shared → Prop} {h₀ h : Heap} {L D : Addr} {tk : Nat} {body : List Stmt} {scope : Scope} {lim lm : Int} {u te tr tp : Tok} {H P : List Nat} {ws : List (List Nat)} {us : List Value} {rs : Rs}
    (hb : body = whileBody (forBody (fnBody w 105) 1) 4) (hsc : scope = fnScope w 105) (G : Gl w mg mb h₀) (hh : A.handled = none) (hne : ws ≠ []) (hus : StrsAre us (ws.map S)) (hwl : wsum ws ≤ 100000) (hHl : H.length ≤ 7) (hPl : P.length ≤ 1000000)
    (C : Cx h₀ L [(Str.ofString "limit", .int lim u), (Str.ofString "edge", .str (S (H ++ indOf H)) te), (Str.ofString "room", .int (lm + H.length) tr), (Str.ofString "page", .str (S P) tp), (Str.ofString "words", .ref D)] ((D, PL us) :: rs) h)
    (q : ∀ h' tk' D' us' k tp', 0 < k → k ≤ ws.length → StrsAre us' ((ws.drop k).map S) → grpT lm (indOf H) ws = ws.take k :: grpT lm (indOf H) (ws.drop k) →
      Cx h₀ L [(Str.ofString "limit", .int lim u), (Str.ofString "edge", .str (S (H ++ indOf H)) te), (Str.ofString "room", .int (lm + H.length) tr), (Str.ofString "page", .str (S (P ++ (rowT (H ++ indOf H) (ws.take k) ++ [10]))) tp'), (Str.ofString "words", .ref D')] ((D', PL us') :: rs) h' →
      Q .next { s with heap := h', toks := tk' }) :
    wpAny (model prog w) A (execs body (envOf (Str.ofString "_law_due") scope L 105 (.ref 104))) Q Bot { s with heap := h, toks := tk } := by
  have hil : (indOf H).length ≤ 1 := by rcases indOf_or H with e | e <;> simp [e]
  have hlen := len_wsum ws
  have hul : us.length = ws.length := by rw [hus.length, List.length_map]
  have hEl : (H ++ indOf H).length = H.length + (indOf H).length := by simp
  have hpos : 0 < ws.length := List.length_pos_iff.mpr hne
  have hat : ∀ c, c < ws.length → ∃ x t, ws[c]? = some x ∧ us[c]? = some (.str (S x) t) ∧ x.length ≤ 100000 := by
    intro c hc
    have e : ws[c]? = some ws[c] := List.getElem?_eq_getElem hc
    obtain ⟨t, ht⟩ := strs_at hus e
    have h1 := wsum_take e
    have h2 := wsum_take_le ws (c + 1)
    exact ⟨ws[c], t, e, ht, by omega⟩
  conv at hb => rhs; whnf
  conv at hsc => rhs; whnf
  subst hb hsc
  -- count = 1
  refine sAssign rfl (constI fun t1 tk1 => stL C rfl rfl fun h2 tk2 C => ?_)
  -- width
  obtain ⟨x0, tx0, e0, hx0, hl0⟩ := hat 0 hpos
  refine sAssign rfl (wpAny_BinOp ?_)
  refine callB1 (id := "len") rfl (nmB C G rfl rfl (by decide) rfl rfl rfl ⟨rfl, nmL C rfl rfl rfl rfl (len_S hEl (by omega) fun t3 tk3 => ?_)⟩)
  refine callB1 (id := "len") rfl (nmB C G rfl rfl (by decide) rfl rfl rfl ⟨rfl, ?_⟩)
  refine Subscript_ (nmL C rfl rfl rfl rfl (constI fun t4 tk4 => ?_))
  refine idx_L (k := 0) (C.lat (.head _)) (by omega) hx0 (by with_unfolding_all rfl) ?_
  refine len_S rfl (by omega) fun t5 tk5 => ?_
  refine addI (z := (H.length + (indOf H).length : Nat) + (wsum (ws.take 1) : Nat) - 1) ?_ fun t6 tk6 => stL C rfl rfl fun h7 tk7 C => ?_
  · have h1 := wsum_take e0
    simp only [List.take_zero] at h1
    have h0 : wsum ([] : List (List Nat)) = 0 := rfl
    rw [h0] at h1
    rw [show (0 + 1 : Nat) = 1 from rfl] at h1
    rw [h1]; omega
  -- here1
  refine sWhile (fun k s' => ∃ c h' tk' tc tw, k = ws.length - c ∧ 0 < c ∧ c ≤ ws.length ∧ (∀ j x, 0 < j → j < c → ws[j]? = some x → Fit lm (indOf H) (ws.take j) x) ∧ s' = { s with heap := h', toks := tk' } ∧
      Cx h₀ L [(Str.ofString "limit", .int lim u), (Str.ofString "edge", .str (S (H ++ indOf H)) te), (Str.ofString "room", .int (lm + H.length) tr), (Str.ofString "page", .str (S P) tp), (Str.ofString "words", .ref D), (Str.ofString "count", .int (c : Nat) tc), (Str.ofString "width", .int ((H.length + (indOf H).length : Nat) + (wsum (ws.take c) : Nat) - 1) tw)] ((D, PL us) :: rs) h')
    (ws.length - 1) ⟨1, h7, tk7, t1, t6, rfl, by omega, hpos, fun j x h1 h2 => by omega, rfl, C.re ⟨rfl, rfl, rfl, rfl, rfl, rfl, rfl, trivial⟩⟩ ?_
  clear C
  intro k s' hI
  obtain ⟨c, h8, tk8, tc, hI⟩ := hI
  obtain ⟨tw, hk, hc0, hcl, hfit, hse, C⟩ := hI
  subst hk hse
  -- the end of the inner while
  have done : (∀ x, ws[c]? = some x → ¬ Fit lm (indOf H) (ws.take c) x) → ∀ tk9, wpAny (model prog w) A (execs ((whileBody (forBody (fnBody w 105) 1) 4).drop 3) (envOf (Str.ofString "_law_due") (fnScope w 105) L 105 (.ref 104))) Q Bot { s with heap := h8, toks := tk9 } := by
    intro hnf tk9
    have hgc := grp_cut hc0 hcl hfit hnf
    have hwt := wsum_take_le ws c
    have htk : ws.take c ≠ [] := by
      intro e
      have := congrArg List.length e
      rw [List.length_take, List.length_nil] at this
      omega
    have hjl := jn_len htk
    have hrT : (rowT (H ++ indOf H) (ws.take c)).length = H.length + (indOf H).length + (jn [32] (ws.take c)).length := by simp [rowT]; omega
    have hsw := sum_wsum (ws.take c)
    generalize hb : (whileBody (forBody (fnBody w 105) 1) 4).drop 3 = body
    generalize hsc : fnScope w 105 = scope
    conv at hb => lhs; whnf
    conv at hsc => lhs; whnf
    subst hb hsc
    refine sAug (ldL C rfl rfl rfl ?_)
    refine wpAny_BinOp (wpAny_BinOp (nmL C rfl rfl rfl rfl ?_))
    with_reducible refine meth1 (T := "str") (id := "str.join") base_const ?a1 ?a2 F.plainAttrs_str F.slot_str_join F.type_str_join ?_
    case a1 => rfl
    case a2 => rfl
    refine constS (l := [32]) rfl fun t14 tk14 => ⟨⟨typeIs_str _ _ _, fun a e => nomatch e⟩, ?_⟩
    refine slice_A (h₀ := h₀) (L := L) (nmL C rfl rfl rfl rfl ?_)
    refine wpAny_pure (a := Value.none) (nmL C rfl rfl rfl rfl ?_)
    refine ⟨D, us, none, some (c : Int), _, _, _, rfl, C.lat (.head _), by omega, .none, .int _ _, upto c, C, fun ml h10 C => ?_⟩
    refine join_L (ls := ws.take c) (C.lat (.head _)) ?_ (by simp only [List.length_cons, List.length_nil, Nat.zero_add, Nat.mul_one]; omega) fun t15 tk15 => ?_
    · rw [List.map_take]; exact hus.take' c
    refine add_SE (c := rowT (H ++ indOf H) (ws.take c)) rfl (by omega) fun t16 tk16 => constS (l := [10]) rfl fun t17 tk17 => ?_
    refine add_SE (c := rowT (H ++ indOf H) (ws.take c) ++ [10]) rfl (by rw [List.length_append]; simp; omega) fun t18 tk18 => ?_
    refine iadd_SE (c := P ++ (rowT (H ++ indOf H) (ws.take c) ++ [10])) rfl (by simp only [List.length_append, List.length_cons, List.length_nil] at hrT ⊢; omega) fun t19 tk19 => stL C rfl rfl fun h20 tk20 C => ?_
    refine sAssign rfl (slice_A (h₀ := h₀) (L := L) (nmL C rfl rfl rfl rfl ?_))
    refine nmL C rfl rfl rfl rfl (wpAny_pure (a := Value.none) ?_)
    refine ⟨D, us, some (c : Int), none, _, _, _, rfl, C.lat (.tail _ (.head _)), by omega, .int _ _, .none, from_ c, C, fun nl h21 C => ?_⟩
    refine stL C rfl rfl fun h22 tk22 C => sNil ?_
    have C' := C.re (bs' := [(Str.ofString "limit", .int lim u), (Str.ofString "edge", .str (S (H ++ indOf H)) te), (Str.ofString "room", .int (lm + H.length) tr), (Str.ofString "page", .str (S (P ++ (rowT (H ++ indOf H) (ws.take c) ++ [10]))) t19), (Str.ofString "words", .ref nl)]) ⟨rfl, rfl, rfl, rfl, rfl, trivial⟩
    refine q h22 tk22 nl (us.drop c) c t19 hc0 hcl ?_ hgc (C'.sub (fun _ _ e => e) ?_ ?_)
    · rw [List.map_drop]; exact hus.drop' c
    · intro r hr
      rcases List.mem_cons.mp hr with h | h
      · rw [h]; exact .head _
      · exact .tail _ (.tail _ (.tail _ h))
    · have := (List.nodup_cons.mp C'.nd).2
      simp only [List.map_cons, List.nodup_cons, List.mem_cons, not_or] at this ⊢
      exact ⟨this.1.2.2, this.2.2.2⟩
  -- here2
  refine isTrue_and (wpAny_isTrue_Compare1 (nmL C rfl rfl rfl rfl ?_))
  refine callB1 (id := "len") rfl (nmB C G rfl rfl (by decide) rfl rfl rfl ⟨rfl, nmL C rfl rfl rfl rfl ?_⟩)
  refine len_L (C.lat (.head _)) (by omega) fun t9 tk9 => PySem.P.lt_int (wpAny_truthy_bool ?_)
  with_reducible refine br ?_ ?_
  · intro hlt
    have hlt : c < ws.length := by have := of_decide_eq_true hlt; omega
    obtain ⟨x, tx, ex, hx, hxl⟩ := hat c hlt
    have hws1 := wsum_take ex
    have hws2 := wsum_take_le ws (c + 1)
    refine isTrue_and (wpAny_isTrue_Compare1 (wpAny_BinOp (wpAny_BinOp (nmL C rfl rfl rfl rfl (constI fun t10 tk10 => addI rfl fun t11 tk11 => ?_)))))
    refine callB1 (id := "len") rfl (nmB C G rfl rfl (by decide) rfl rfl rfl ⟨rfl, ?_⟩)
    refine Subscript_ (nmL C rfl rfl rfl rfl (nmL C rfl rfl rfl rfl ?_))
    refine idx_L (k := c) (C.lat (.head _)) (by omega) hx (by with_unfolding_all rfl) ?_
    refine len_S rfl (by omega) fun t12 tk12 => addI rfl fun t13 tk13 => nmL C rfl rfl rfl rfl (PySem.P.le_int (wpAny_truthy_bool ?_))
    with_reducible refine br ?_ ?_
    · intro hle
      have hle := of_decide_eq_true hle
      refine isTrue_and_nil ?_
      with_reducible refine br ?_ ?_
      · intro _
        have hf : Fit lm (indOf H) (ws.take c) x := by unfold Fit; omega
        refine sAug (ldL C rfl rfl rfl ?_)
        refine wpAny_BinOp (constI fun t14 tk14 => ?_)
        refine callB1 (id := "len") rfl (nmB C G rfl rfl (by decide) rfl rfl rfl ⟨rfl, ?_⟩)
        refine Subscript_ (nmL C rfl rfl rfl rfl (nmL C rfl rfl rfl rfl ?_))
        refine idx_L (k := c) (C.lat (.head _)) (by omega) hx (by with_unfolding_all rfl) ?_
        refine len_S rfl (by omega) fun t15 tk15 => addI rfl fun t16 tk16 => ?_
        refine iaddI (z := (H.length + (indOf H).length : Nat) + (wsum (ws.take (c + 1)) : Nat) - 1) (by rw [hws1]; omega) fun t17 tk17 => stL C rfl rfl fun h18 tk18 C => ?_
        refine sAug (ldL C rfl rfl rfl (constI fun t19 tk19 => iaddI (z := (c + 1 : Nat)) (by omega) fun t20 tk20 => stL C rfl rfl fun h21 tk21 C => sNil (flw_next ?_)))
        refine ⟨ws.length - (c + 1), by omega, c + 1, h21, tk21, t20, t17, rfl, by omega, hlt, fun j y h1 h2 h3 => ?_, rfl, C.re ⟨rfl, rfl, rfl, rfl, rfl, rfl, rfl, trivial⟩⟩
        by_cases hj : j = c
        · subst hj
          rw [ex] at h3; cases h3
          exact hf
        · exact hfit j y h1 (by omega) h3
      · intro h; cases h
    · intro hle
      have hle := of_decide_eq_false hle
      refine done (fun y hy => ?_) _
      rw [ex] at hy; cases hy
      unfold Fit
      omega
  · intro hlt
    have hlt := of_decide_eq_false hlt
    refine done (fun y hy => ?_) _
    rw [List.getElem?_eq_none (by omega)] at hy; cases hy
end
end Mine
end

section
set_option maxRecDepth 100000
set_option linter.unusedVariables false
namespace Mine
open PySem PySem.W PySem.Calls PyProof.Rows PySem.Builtin PySem.Builtin.Str

theorem rows_lists {h : Heap} : ∀ {rvs : List Value} {rows : List (List (List Nat))}, RowsAt h rvs rows → ∃ vss, ListsAt h rvs vss ∧ StrsAre vss.flatten (rows.flatten.map S)
  | [], [], _ => ⟨[], ⟨rfl, fun i v e => by simp at e⟩, .nil⟩
  | [], _ :: _, h => by have := h.1; simp at this
  | _ :: _, [], h => by have := h.1; simp at this
  | v :: r, ws :: rows, h => by
    have h0 := h.2 0 v rfl
    obtain ⟨ws', e, a, vs, hv, hl, hs⟩ := h0
    have e' : ws' = ws := by simpa using e.symm
    subst e'
    obtain ⟨vss, ⟨l1, l2⟩, l3⟩ := rows_lists (rvs := r) (rows := rows) ⟨by simpa using h.1, fun i v e => by
      have := h.2 (i + 1) v (by simpa using e)
      simpa using this⟩
    refine ⟨vs :: vss, ⟨by simp [l1], fun i v' e => ?_⟩, ?_⟩
    · cases i with
      | zero =>
        have : v = v' := by simpa using e
        subst this
        exact ⟨a, vs, rfl, hv, hl⟩
      | succ i => exact l2 i v' (by simpa using e)
    · rw [List.flatten_cons, List.flatten_cons, List.map_append]
      exact StrsAre.append' hs l3

section
variable {prog : Program} {w : World} {A : Around} {E : Value → Shared → Prop} {s : Shared} {mg mb : Str → Option Value} {n : Nat}
theorem limOf_room (H : List Nat) (lim : Int) (h : H ≠ []) : limOf H lim = max (lim - H.length) 20 := by unfold limOf; rw [if_neg h]
set_option maxHeartbeats 4000000 in
/-- one block -/
theorem due_block {Q : Flow → Shared → Prop} {h₀ h : Heap} {L r : Addr} {tk : Nat} {body : List Stmt} {scope : Scope} {lim : Int} {u t tp : Tok} {P : List Nat} {b : Blk} {rvs : List Value} {rs : Rs}
    (hb : body = forBody (fnBody w 105) 1) (hsc : scope = fnScope w 105) (G : Gl w mg mb h₀) (hh : A.handled = none) (hu : A.units < cLine) (hr : LAt h₀ r rvs) (hrs : RowsAt h₀ rvs b.2) (hH : b.1 ∈ Hs) (hg : ∀ ws ∈ b.2, GoodR ws) (hPl : (P ++ pageB (refB lim b)).length ≤ 100000)
    (C : Cx h₀ L [(Str.ofString "limit", .int lim u), (Str.ofString "page", .str (S P) tp), (Str.ofString "header", .str (S b.1) t), (Str.ofString "rows", .ref r)] rs h)
    (q : ∀ h' tk' tp', Cx h₀ L [(Str.ofString "limit", .int lim u), (Str.ofString "page", .str (S (P ++ pageB (refB lim b))) tp')] rs h' → Q .next { s with heap := h', toks := tk' }) :
    wpAny (model prog w) A (execs body (envOf (Str.ofString "_law_due") scope L 105 (.ref 104))) Q Bot { s with heap := h, toks := tk } := by
  have hHl : b.1.length ≤ 7 := by
    simp only [Hs, heads, List.map_cons, List.map_nil, List.mem_append, List.mem_cons, List.not_mem_nil, or_false] at hH
    rcases hH with (e | e | e | e | e) | (e | e | e | e | e) <;> simp [e]
  have hil : (indOf b.1).length ≤ 1 := by rcases indOf_or b.1 with e | e <;> simp [e]
  rw [List.length_append] at hPl
  have hpb : pageB (refB lim b) = sepT (refB lim b) ++ pg (b.1 ++ indOf b.1) (grpT (limOf b.1 lim) (indOf b.1) b.2.flatten) := rfl
  have hse : b.2.flatten = [] ↔ b.2 = [] := by
    constructor
    · intro h1
      by_cases h2 : b.2 = []
      · exact h2
      · exact absurd h1 (flatten_ne h2 hg)
    · intro h1; rw [h1]; rfl
  have hgw : ∀ w ∈ b.2.flatten, GoodW w := fun v hv => by
    obtain ⟨ws, hw, hv⟩ := List.mem_flatten.mp hv
    exact (hg ws hw).2 v hv
  have hwl : wsum b.2.flatten ≤ 100000 := by
    by_cases h2 : b.2.flatten = []
    · rw [h2]; simp [wsum]
    · have h3 := pg_len_ge (b.1 ++ indOf b.1) (rows := groups (limOf b.1 lim) (indOf b.1) b.2.flatten) (groups_good h2 hgw)
      rw [groups_flat] at h3
      rw [hpb, List.length_append] at hPl
      unfold grpT at hPl
      rw [if_neg h2] at hPl
      omega
  obtain ⟨vss, hv, hvs⟩ := rows_lists (hrs)
  have hvl := hvs.length
  rw [List.length_map] at hvl
  have hll := len_wsum b.2.flatten
  generalize hlm : limOf b.1 lim = lm
  conv at hb => rhs; whnf
  conv at hsc => rhs; whnf
  subst hb hsc
  -- words
  refine sComp2 (l := r) (rvs := rvs) (vss := vss) (by with_unfolding_all rfl) hh (by decide) (by decide) rfl (by decide) rfl rfl rfl rfl rfl rfl rfl rfl C rfl (hr.keeps C.keep) ⟨hv.1, fun i v e => let ⟨a, ivs, e1, e2, e3⟩ := hv.2 i v e; ⟨a, ivs, e1, e2, e3.keeps C.keep⟩⟩ (by omega) fun D h2 tk2 C => ?_
  -- edge
  refine sAssign rfl ?_
  refine wpAny_mono (Q := fun v s' => ∃ t tk, v = .str (S (b.1 ++ indOf b.1)) t ∧ s' = { s with heap := h2, toks := tk }) ?_ ?_ fun _ _ e => e
  · refine wpAny_IfExp (wpAny_isTrue_Compare1 (constS (l := [35]) rfl fun t11 tk11 => nmL C rfl rfl rfl rfl (in_hash hH rfl (wpAny_truthy_bool ?_))))
    with_reducible refine br ?_ ?_
    · intro he
      have hi : indOf b.1 = [32] := by unfold indOf; rw [if_pos (of_decide_eq_true he)]
      exact wpAny_BinOp (nmL C rfl rfl rfl rfl (constS (l := [32]) rfl fun t12 tk12 => add_SE (c := b.1 ++ indOf b.1) (by rw [hi]) (by rw [List.length_append]; omega) fun t13 tk13 => ⟨t13, tk13, rfl, rfl⟩))
    · intro he
      have hi : indOf b.1 = [] := by unfold indOf; rw [if_neg (of_decide_eq_false he)]
      exact nmL C rfl rfl rfl rfl ⟨t, _, by rw [hi, List.append_nil], rfl⟩
  intro v s' hvs'
  obtain ⟨te, tk3, hve, hse'⟩ := hvs'
  subst hve hse'
  refine stL C rfl rfl fun h4 tk4 C => ?_
  -- room
  refine sAssign rfl ?_
  refine wpAny_mono (Q := fun v s' => ∃ t tk h', v = .int (lm + b.1.length) t ∧ s' = { s with heap := h', toks := tk } ∧ Kp h4 h') ?_ ?_ fun _ _ e => e
  · refine wpAny_IfExp (wpAny_isTrue_Compare1 (nmL C rfl rfl rfl rfl (constS (l := []) rfl fun t11 tk11 => eq_S (wpAny_truthy_bool ?_))))
    with_reducible refine br ?_ ?_
    · intro he
      have h0 : b.1 = [] := by simpa using he
      have hl : lm + b.1.length = lim := by rw [← hlm, h0]; simp [limOf]
      exact nmL C rfl rfl rfl rfl ⟨u, _, _, by rw [hl], rfl, Kp.refl _⟩
    · intro he
      have h0 : b.1 ≠ [] := by simpa using he
      have hl := limOf_room b.1 lim h0
      rw [hlm] at hl
      refine wpAny_BinOp (callB2 (id := "max") rfl (nmB C G rfl rfl (by decide) rfl rfl rfl ⟨rfl, ?_⟩))
      refine wpAny_BinOp (nmL C rfl rfl rfl rfl ?_)
      refine callB1 (id := "len") rfl (nmB C G rfl rfl (by decide) rfl rfl rfl ⟨rfl, ?_⟩)
      refine nmL C rfl rfl rfl rfl (len_S rfl (by omega) fun t8 tk8 => ?_)
      refine subI rfl fun t9 tk9 => constI fun t10 tk10 => ?_
      refine max_two_ints hh fun h11 tk11 k11 => ?_
      have C2 := C.keeps k11
      have hmax : ∃ t', (if (20 : Int) > lim - b.1.length then Value.int 20 t10 else .int (lim - b.1.length) t9) = .int lm t' := by
        rw [hl]
        split
        · exact ⟨t10, by congr 1; omega⟩
        · exact ⟨t9, by congr 1; omega⟩
      obtain ⟨t11, e11⟩ := hmax
      rw [e11]
      refine callB1 (id := "len") rfl (nmB C2 G rfl rfl (by decide) rfl rfl rfl ⟨rfl, ?_⟩)
      exact nmL C2 rfl rfl rfl rfl (len_S rfl (by omega) fun t12 tk12 => addI rfl fun t13 tk13 => ⟨t13, tk13, h11, rfl, rfl, k11⟩)
  intro v s' hvs'
  obtain ⟨tr, tk5, h5, hve, hse', k5⟩ := hvs'
  subst hve hse'
  replace C := C.keeps k5
  refine stL C rfl rfl fun h6 tk6 C => ?_
  replace C := C.re (bs' := [(Str.ofString "limit", .int lim u), (Str.ofString "edge", .str (S (b.1 ++ indOf b.1)) te), (Str.ofString "room", .int (lm + b.1.length) tr), (Str.ofString "page", .str (S P) tp), (Str.ofString "words", .ref D), (Str.ofString "header", .str (S b.1) t)]) ⟨rfl, rfl, rfl, rfl, rfl, rfl, trivial⟩
  -- if words == []
  have hem : vss.flatten.isEmpty = b.2.isEmpty := by
    have h1 : (vss.flatten = []) ↔ b.2 = [] := by
      rw [← hse]
      constructor <;> intro h <;> apply List.eq_nil_of_length_eq_zero
      · rw [← hvl, h]; rfl
      · rw [hvl, h]; rfl
    cases hx : vss.flatten <;> cases hy : b.2 <;> simp_all
  have hse2 : sepT (refB lim b) = if b.2 = [] then b.1 ++ [10] else [] := by
    unfold sepT
    by_cases h0 : b.2 = []
    · rw [if_pos h0, if_pos (by simp [refB, grpT, h0])]; rfl
    · rw [if_neg h0, if_neg]
      have := flatten_ne h0 hg
      simp [refB, grpT, this, groups_ne]
  refine sIfJ (fun s' => ∃ h' tk' ta, s' = { s with heap := h', toks := tk' } ∧ Cx h₀ L [(Str.ofString "limit", .int lim u), (Str.ofString "edge", .str (S (b.1 ++ indOf b.1)) te), (Str.ofString "room", .int (lm + b.1.length) tr), (Str.ofString "page", .str (S (P ++ sepT (refB lim b))) ta), (Str.ofString "words", .ref D)] ((D, PL vss.flatten) :: rs) h') ?_ ?_
  · refine wpAny_isTrue_Compare1 (nmL C rfl rfl rfl rfl (nilL C fun l2 h7 C4 k4 => ?_))
    refine eq_nil (C4.lat (.tail _ (.head _))) (C4.lat (.head _)) hu (wpAny_truthy_bool ?_)
    replace C := C4.drop rfl
    with_reducible refine br ?_ ?_
    · intro he
      rw [hem] at he
      have h0 : b.2 = [] := by simpa using he
      rw [if_pos h0] at hse2
      refine sAug (ldL C rfl rfl rfl (wpAny_BinOp (nmL C rfl rfl rfl rfl (constS (l := [10]) rfl fun t5 tk5 => add_SE (c := sepT (refB lim b)) hse2.symm (by rw [hse2, List.length_append]; simp; omega) fun t6 tk6 => ?_))))
      refine iadd_SE (c := P ++ sepT (refB lim b)) rfl (by rw [hse2]; simp; omega) fun t7 tk7 => stL C rfl rfl fun h8 tk8 C => sNil (then_next ⟨h8, tk8, t7, rfl, C.re ⟨rfl, rfl, rfl, rfl, rfl, trivial⟩⟩)
    · intro he
      rw [hem] at he
      have h0 : b.2 ≠ [] := by simpa using he
      rw [if_neg h0] at hse2
      exact sNil (then_next ⟨h7, tk6, tp, rfl, by rw [hse2, List.append_nil]; exact C.re ⟨rfl, rfl, rfl, rfl, rfl, trivial⟩⟩)
  intro s' hs'
  obtain ⟨h9, tk9, t9, hse3, C⟩ := hs'
  subst hse3
  -- while words != []
  rw [hpb, hlm, List.length_append] at hPl
  rw [hpb, hlm] at q
  refine sWhile (fun k s' => ∃ ws us D h' tk' T tt, k = ws.length ∧ T ++ pg (b.1 ++ indOf b.1) (grpT lm (indOf b.1) ws) = P ++ (sepT (refB lim b) ++ pg (b.1 ++ indOf b.1) (grpT lm (indOf b.1) b.2.flatten)) ∧ StrsAre us (ws.map S) ∧ wsum ws ≤ 100000 ∧ s' = { s with heap := h', toks := tk' } ∧
      Cx h₀ L [(Str.ofString "limit", .int lim u), (Str.ofString "edge", .str (S (b.1 ++ indOf b.1)) te), (Str.ofString "room", .int (lm + b.1.length) tr), (Str.ofString "page", .str (S T) tt), (Str.ofString "words", .ref D)] ((D, PL us) :: rs) h')
    b.2.flatten.length ⟨b.2.flatten, vss.flatten, D, h9, tk9, _, t9, rfl, by rw [List.append_assoc], hvs, hwl, rfl, C⟩ ?_
  clear C
  intro k s' hI
  obtain ⟨ws, us, D', h10, hI⟩ := hI
  obtain ⟨tk10, T, tt, hk, hT, hus, hwl', hse4, C⟩ := hI
  subst hk hse4
  have hul : us.length = ws.length := by rw [hus.length, List.length_map]
  have hTl := congrArg List.length hT
  simp only [List.length_append] at hTl
  refine wpAny_isTrue_Compare1 (nmL C rfl rfl rfl rfl (nilL C fun l2 h11 C4 k4 => ?_))
  refine ne_nil (C4.lat (.tail _ (.head _))) (C4.lat (.head _)) hu (wpAny_truthy_bool ?_)
  replace C := C4.drop rfl
  with_reducible refine br ?_ ?_
  · intro he
    have hne : ws ≠ [] := by
      rintro rfl
      have : us = [] := List.eq_nil_of_length_eq_zero hul
      rw [this] at he; cases he
    refine due_turn (lm := lm) (H := b.1) (P := T) (ws := ws) (us := us) rfl rfl G hh hne hus hwl' hHl (by omega) C ?_
    intro h12 tk12 D2 us2 k2 tp2 hk0 hkl hus2 hgc C2
    refine flw_next ⟨(ws.drop k2).length, by rw [List.length_drop]; omega, ws.drop k2, us2, D2, h12, tk12, _, tp2, rfl, ?_, hus2, ?_, rfl, C2⟩
    · rw [← hT, hgc]
      simp [pg, rowT]
    · have : wsum (ws.take k2 ++ ws.drop k2) = wsum ws := by rw [List.take_append_drop]
      rw [wsum_append] at this; omega
  · intro he
    have hne : ws = [] := by
      apply List.eq_nil_of_length_eq_zero
      rw [← hul]
      cases us with
      | nil => rfl
      | cons _ _ => cases he
    subst hne
    have hT' : T = P ++ (sepT (refB lim b) ++ pg (b.1 ++ indOf b.1) (grpT lm (indOf b.1) b.2.flatten)) := by rw [← hT]; simp [grpT, pg]
    subst hT'
    exact sNil (q h11 tk10 tt ((C.drop rfl).re ⟨rfl, rfl, trivial⟩))
set_option maxHeartbeats 4000000 in
theorem due_call {Q : Value → Shared → Prop} (G : Gl w mg mb s.heap) (R : Room A (n + 1)) {l : Addr} {bvs : List Value} {bl : List Blk} {y : List Nat} {lim : Int} {u : Tok} (hl : LAt s.heap l bvs) (hb : BlksAt s.heap bvs bl) (hH : ∀ b ∈ bl, b.1 ∈ Hs) (hrows : ∀ b ∈ bl, ∀ ws ∈ b.2, GoodR ws) (hy : pageT (bl.map (refB lim)) = y) (hsz : y.length ≤ 100000)
    (q : ∀ h' t' tk, Kp s.heap h' → Q (.str (S y) t') { s with heap := h', toks := tk }) : wpAny (model prog w) A (call (.ref 105) [.ref l, .int lim u]) Q E s := by
  subst hy
  refine enter G R rfl rfl (binds := [(Str.ofString "blocks", .ref l), (Str.ofString "limit", .int lim u)]) rfl rfl rfl rfl rfl rfl ?_
  intro L h₁ tk C R'
  have hu : ∀ env, (A.deeper env).units < cLine := fun env => by have := R.u; show A.units + 3 < 9900; omega
  refine sAssign rfl (constS (l := []) rfl fun t1 tk1 => stL C rfl rfl fun h2 tk2 C => ?_)
  refine sForL (h₀ := s.heap) (L := L) R'.hh (by intro _; rfl) (nmL C rfl rfl rfl rfl ?_)
  refine ⟨l, bvs, fun i bs rs g => ∃ ta, bs = [(Str.ofString "limit", .int lim u), (Str.ofString "page", .str (S (pageT ((bl.take i).map (refB lim)))) ta)] ∧ rs = [] ∧ g = s.gens, _, _, rfl, C.re (bs' := [(Str.ofString "limit", .int lim u), (Str.ofString "page", .str (S []) t1)]) ⟨rfl, rfl, trivial⟩, ⟨t1, rfl, rfl, rfl⟩, ?_, ?_, ?_⟩
  · rintro i bs rs g h ⟨ta, rfl, rfl, _⟩ C
    exact hl.keeps C.keep
  · intro i v bs rs g h tk I hv hP C
    obtain ⟨ta, hbs, hrs, hgs⟩ := hP
    subst hbs hrs hgs
    obtain ⟨b, hbi, hblk⟩ := hb.2 i v hv
    have hbm : b ∈ bl := List.mem_of_getElem? hbi
    have hsn : pageT ((bl.take (i + 1)).map (refB lim)) = pageT ((bl.take i).map (refB lim)) ++ pageB (refB lim b) := by
      rw [List.map_take, List.map_take]
      exact pageT_snoc _ (by rw [List.getElem?_map, hbi]; rfl)
    have hlen := pageT_take_len (bl.map (refB lim)) (i + 1)
    rw [← List.map_take, hsn] at hlen
    obtain ⟨a, r, t, rvs, rfl, T, hr, hrs⟩ := hblk
    refine assign2 R'.hh C (T.keeps C.keep) rfl rfl rfl fun h3 tk3 C => ?_
    refine due_block (b := b) (P := pageT ((bl.take i).map (refB lim))) rfl rfl G R'.hh (hu _) hr hrs (hH b hbm) (hrows b hbm) (by omega) (C.re ⟨rfl, rfl, rfl, rfl, trivial⟩) ?_
    intro h4 tk4 tp4 C4
    rw [← hsn] at C4
    exact flw_next ⟨_, _, h4, tk4, s.gens, rfl, ⟨tp4, rfl, rfl, rfl⟩, C4⟩
  · intro bs rs g h tk hP C
    obtain ⟨ta, hbs, hrs', hgs⟩ := hP
    subst hbs hrs' hgs
    rw [hb.1, List.take_length] at C
    exact sReturn (nmL C rfl rfl rfl rfl (q h ta tk C.keep))
end
end Mine
end

section
set_option maxRecDepth 100000
set_option linter.unusedVariables false
namespace Mine
open PySem

def letters : List Nat := [97, 98, 99, 100, 101, 102, 103, 104, 105, 106, 107, 108, 109, 110, 111, 112, 113, 114, 115, 116, 117, 118, 119, 120, 121, 122, 46, 35]
def wordAt (a b : Nat) : List Nat := (letters.drop a).take (1 + b)
def wordOf (r : Int) : List Nat := wordAt (r / 9 % 20).toNat (r % 9).toNat
def headOf (r : Int) : List Nat := heads.getD (r % 5).toNat []
def seps (B : List Nat) : List (List Nat) := [[], B, B ++ [32, 9]]
def sepOf (B : List Nat) (r : Int) : List Nat := (seps B).getD (r % 3).toNat []
abbrev Bst := Option (List Blk × List Nat × List (List (List Nat)) × List (List Nat))
def blOf : Bst → List Blk
  | none => []
  | some (pre, H, rows, row) => pre ++ [(H, rows ++ [row])]
/-- what stands ahead of a new block -/
def preOf (st : Bst) (r : Int) : List Blk := match st with
  | none => []
  | some (pre, H, rows, row) => pre ++ [(H, rows ++ [row])] ++ (if headOf r = H ∨ r % 2 = 0 then [(sepOf H r, [])] else [])
def stepB (st : Bst) (x : Int) : Bst := match st with
  | none => some (preOf none (x / 8), headOf (x / 8), [], [wordOf (x / 8)])
  | some (pre, H, rows, row) =>
    if x % 8 = 7 then some (preOf (some (pre, H, rows, row)) (x / 8), headOf (x / 8), [], [wordOf (x / 8)])
    else if x % 8 = 6 then some (pre, H, rows ++ [row], [wordOf (x / 8)])
    else some (pre, H, rows, row ++ [wordOf (x / 8)])

theorem letters_good : ∀ c ∈ letters, Unicode.isSpace c = false := by decide
theorem word_good (a b : Nat) (h : a < 20) : GoodW (wordAt a b) ∧ (wordAt a b).head? ≠ some 35 := by
  refine ⟨⟨?_, fun c hc => letters_good c (List.mem_of_mem_drop (List.mem_of_mem_take hc))⟩, ?_⟩
  · intro e
    have := congrArg List.length e
    have hl : letters.length = 28 := rfl
    simp only [wordAt, List.length_take, List.length_drop, List.length_nil, hl] at this
    omega
  · unfold wordAt
    rw [List.head?_take, if_neg (by omega), List.head?_drop]
    have : ∀ a < 20, letters[a]? ≠ some 35 := by decide
    exact this a h
theorem word_len (a b : Nat) (h : b < 9) : (wordAt a b).length ≤ 9 := by
  simp only [wordAt, List.length_take]; omega
theorem wordOf_ok (r : Int) : GoodW (wordOf r) ∧ (wordOf r).head? ≠ some 35 ∧ (wordOf r).length ≤ 9 := by
  have h := word_good (r / 9 % 20).toNat (r % 9).toNat (by omega)
  exact ⟨h.1, h.2, word_len _ _ (by omega)⟩
theorem headOf_mem (r : Int) : headOf r ∈ heads := by
  have key : ∀ a < 5, heads.getD a [] ∈ heads := by decide
  exact key _ (by omega)
theorem sepOf_mem {H : List Nat} (h : H ∈ heads) (r : Int) : sepOf H r ∈ Hs := by
  have h3 : (r % 3).toNat = 0 ∨ (r % 3).toNat = 1 ∨ (r % 3).toNat = 2 := by omega
  unfold sepOf seps
  rcases h3 with e | e | e
  · rw [e]; exact List.mem_append_left _ (show ([] : List Nat) ∈ heads by decide)
  · rw [e]; exact List.mem_append_left _ h
  · rw [e]; exact List.mem_append_right _ (List.mem_map_of_mem h)
theorem hs_len {H : List Nat} (h : H ∈ Hs) : H.length ≤ 7 := by
  simp only [Hs, heads, List.map_cons, List.map_nil, List.mem_append, List.mem_cons, List.not_mem_nil, or_false] at h
  rcases h with (e | e | e | e | e) | (e | e | e | e | e) <;> simp [e]

/-- what holds of the state -/
structure StOk (st : Bst) (i : Nat) : Prop where
  good : ∀ b ∈ blOf st, GoodB b
  adj : AdjOk (blOf st)
  wt : (pageT (blOf st)).length ≤ 24 * i
theorem adj_snoc : ∀ {l : List Blk} {a b : Blk}, AdjOk (l ++ [a]) → (a.2 ≠ [] → b.2 ≠ [] → a.1 ≠ b.1) → AdjOk (l ++ [a] ++ [b])
  | [], a, b, _, h => ⟨h, trivial⟩
  | [x], a, b, g, h => ⟨g.1, h, trivial⟩
  | x :: y :: l, a, b, g, h => ⟨g.1, adj_snoc (l := y :: l) g.2 h⟩
theorem adj_one : ∀ {l : List Blk} {b : Blk}, AdjOk l → (∀ pre a, l = pre ++ [a] → a.2 ≠ [] → b.2 ≠ [] → a.1 ≠ b.1) → AdjOk (l ++ [b]) := by
  intro l b g h
  by_cases hl : l = []
  · subst hl; trivial
  · have e := (List.dropLast_concat_getLast hl).symm
    have g' : AdjOk (l.dropLast ++ [l.getLast hl]) := by rw [← e]; exact g
    have := adj_snoc g' (h _ _ e)
    rwa [← e] at this
theorem adj_turn : ∀ {l : List Blk} {H : List Nat} {r r' : List (List (List Nat))}, r ≠ [] → AdjOk (l ++ [(H, r)]) → AdjOk (l ++ [(H, r')])
  | [], _, _, _, _, _ => trivial
  | [x], H, r, r', hr, g => ⟨fun h1 _ => g.1 h1 hr, trivial⟩
  | x :: y :: l, H, r, r', hr, g => ⟨g.1, adj_turn (l := y :: l) hr g.2⟩
theorem good_turn {l : List Blk} {a b : Blk} (g : ∀ x ∈ l ++ [a], GoodB x) (h : GoodB b) : ∀ x ∈ l ++ [b], GoodB x := by
  intro x hx
  rcases List.mem_append.mp hx with hx | hx
  · exact g x (List.mem_append_left _ hx)
  · rw [List.mem_singleton.mp hx]; exact h
theorem pageT_last (l : List Blk) (b : Blk) : (pageT (l ++ [b])).length = (pageT l).length + (pageB b).length := by
  rw [pageT_append, List.length_append]; simp [pageT]
theorem pageB_last (H : List Nat) (rows : List (List (List Nat))) (row : List (List Nat)) : (pageB (H, rows ++ [row])).length = (pg (H ++ indOf H) rows).length + (H.length + (indOf H).length + (jn [32] row).length + 1) := by
  have e : rows ++ [row] ≠ [] := by simp
  simp only [pageB, sepT, e, if_false, List.nil_append]
  rw [pg_append]
  simp [pg]
  omega
theorem ind_len (H : List Nat) : (indOf H).length ≤ 1 := by rcases indOf_or H with e | e <;> simp [e]
theorem jn_snoc (row : List (List Nat)) (w : List Nat) (h : row ≠ []) : (jn [32] (row ++ [w])).length = (jn [32] row).length + 1 + w.length := by
  have h1 := jn_len h
  have h2 := jn_len (ws := row ++ [w]) (by simp)
  rw [wsum_append] at h2
  have : wsum [w] = w.length + 1 := by simp [wsum]
  omega
theorem newGood (r : Int) : GoodB (headOf r, [[wordOf r]]) := by
  obtain ⟨g1, g2, g3⟩ := wordOf_ok r
  refine ⟨List.mem_append_left _ (headOf_mem r), fun _ => headOf_mem r, fun ws hw => ?_⟩
  rw [List.mem_singleton.mp hw]
  exact ⟨⟨by simp, fun v hv => by rw [List.mem_singleton.mp hv]; exact g1⟩, fun v hv => by rw [List.mem_singleton.mp hv]; exact g2⟩
theorem newLen (r : Int) : (pageB (headOf r, [[wordOf r]])).length ≤ 16 := by
  have h1 := (head_len (headOf_mem r)).1
  have h2 := (wordOf_ok r).2.2
  have h3 := ind_len (headOf r)
  have := pageB_last (headOf r) [] [wordOf r]
  rw [List.nil_append] at this
  rw [this]
  have e : jn [32] [wordOf r] = wordOf r := rfl
  rw [e]
  simp [pg]
  omega
theorem stepOkB {st : Bst} {i : Nat} (o : StOk st i) (x : Int) : StOk (stepB st x) (i + 1) := by
  obtain ⟨good, adj, wt⟩ := o
  have nG := newGood (x / 8)
  have nL := newLen (x / 8)
  cases st with
  | none =>
    refine ⟨?_, trivial, ?_⟩
    · intro b hb
      have : b = (headOf (x / 8), [[wordOf (x / 8)]]) := by simpa [stepB, blOf, preOf] using hb
      rw [this]; exact nG
    · show (pageT ([] ++ [(headOf (x / 8), [] ++ [[wordOf (x / 8)]])])).length ≤ _
      rw [pageT_last]
      have e : (pageT []).length = 0 := rfl
      rw [e, List.nil_append]
      omega
  | some st =>
    obtain ⟨pre, H, rows, row⟩ := st
    have gl : GoodB (H, rows ++ [row]) := good _ (by simp [blOf])
    have hne : rows ++ [row] ≠ [] := by simp
    have hH : H ∈ heads := gl.2.1 hne
    have hrow : GoodR row ∧ HeadW row := gl.2.2 row (by simp)
    obtain ⟨w1, w2, w3⟩ := wordOf_ok (x / 8)
    have hHl := (head_len hH).1
    have hil := ind_len H
    have wt' : (pageT pre).length + (pageB (H, rows ++ [row])).length ≤ 24 * i := by rw [← pageT_last]; exact wt
    unfold stepB
    simp only
    split
    · -- a new block
      have pg1 : ∀ b ∈ preOf (some (pre, H, rows, row)) (x / 8), GoodB b := by
        intro b hb
        rcases List.mem_append.mp hb with hb | hb
        · exact good b hb
        · split at hb
          · rw [List.mem_singleton.mp hb]
            exact ⟨sepOf_mem hH _, fun h => absurd rfl h, fun ws hw => by cases hw⟩
          · cases hb
      refine ⟨?_, ?_, ?_⟩
      · intro b hb
        rcases List.mem_append.mp hb with hb | hb
        · exact pg1 b hb
        · rw [List.mem_singleton.mp hb]; exact nG
      · show AdjOk (preOf (some (pre, H, rows, row)) (x / 8) ++ [(headOf (x / 8), [] ++ [[wordOf (x / 8)]])])
        unfold preOf
        simp only
        split
        · refine adj_snoc (adj_snoc adj ?_) ?_
          · intro _ h; exact absurd rfl h
          · intro h; exact absurd rfl h
        · rename_i hn
          rw [List.append_nil]
          refine adj_snoc adj ?_
          intro _ _ e
          exact hn (.inl e.symm)
      · show (pageT (preOf (some (pre, H, rows, row)) (x / 8) ++ [(headOf (x / 8), [] ++ [[wordOf (x / 8)]])])).length ≤ _
        rw [pageT_last, List.nil_append]
        have : (pageT (preOf (some (pre, H, rows, row)) (x / 8))).length ≤ 24 * i + 8 := by
          unfold preOf
          simp only
          split
          · rw [pageT_last, pageT_last]
            have h7 := hs_len (sepOf_mem hH (x / 8))
            have e : pageB (sepOf H (x / 8), []) = sepOf H (x / 8) ++ [10] := by simp [pageB, sepT, pg]
            rw [e, List.length_append, List.length_cons, List.length_nil]
            omega
          · rw [List.append_nil, pageT_last]
            omega
        omega
    · split
      · -- a new row
        refine ⟨?_, adj_turn hne adj, ?_⟩
        · refine good_turn good ⟨gl.1, fun _ => hH, fun ws hw => ?_⟩
          rcases List.mem_append.mp hw with hw | hw
          · exact gl.2.2 ws hw
          · rw [List.mem_singleton.mp hw]
            exact ⟨⟨by simp, fun v hv => by rw [List.mem_singleton.mp hv]; exact w1⟩, fun v hv => by rw [List.mem_singleton.mp hv]; exact w2⟩
        · show (pageT (pre ++ [(H, rows ++ [row] ++ [[wordOf (x / 8)]])])).length ≤ _
          rw [pageT_last, pageB_last H (rows ++ [row])]
          have e : jn [32] [wordOf (x / 8)] = wordOf (x / 8) := rfl
          have e2 : (pageB (H, rows ++ [row])).length = (pg (H ++ indOf H) (rows ++ [row])).length := by
            simp only [pageB, sepT, hne, if_false, List.nil_append]
          rw [e]
          omega
      · -- a word more
        refine ⟨?_, adj_turn hne adj, ?_⟩
        · refine good_turn good ⟨gl.1, fun _ => hH, fun ws hw => ?_⟩
          rcases List.mem_append.mp hw with hw | hw
          · exact gl.2.2 ws (List.mem_append_left _ hw)
          · rw [List.mem_singleton.mp hw]
            refine ⟨⟨by simp, fun v hv => ?_⟩, fun v hv => ?_⟩
            · rcases List.mem_append.mp hv with hv | hv
              · exact hrow.1.2 v hv
              · rw [List.mem_singleton.mp hv]; exact w1
            · rcases List.mem_append.mp hv with hv | hv
              · exact hrow.2 v hv
              · rw [List.mem_singleton.mp hv]; exact w2
        · show (pageT (pre ++ [(H, rows ++ [row ++ [wordOf (x / 8)]])])).length ≤ _
          rw [pageT_last, pageB_last]
          rw [pageB_last] at wt'
          rw [jn_snoc row _ hrow.1.1]
          omega
/-- the blocks of a script's numbers -/
def foldB (ns : List Int) : Bst := ns.foldl stepB none
theorem foldOkB (ns : List Int) : StOk (foldB ns) ns.length := by
  have key : ∀ (ns : List Int) (st : Bst) (i : Nat), StOk st i → StOk (ns.foldl stepB st) (i + ns.length) := by
    intro ns
    induction ns with
    | nil => intro st i h; exact h
    | cons x r ih =>
      intro st i h
      have := ih (stepB st x) (i + 1) (stepOkB h x)
      rw [List.length_cons, show i + (r.length + 1) = i + 1 + r.length by omega]
      exact this
  have := key ns none 0 ⟨fun b hb => (nomatch hb), trivial, by simp [blOf, pageT]⟩
  rwa [Nat.zero_add] at this
theorem foldB_snoc (ns : List Int) (x : Int) : foldB (ns ++ [x]) = stepB (foldB ns) x := by simp [foldB]
end Mine
end

section
set_option maxRecDepth 100000
set_option linter.unusedVariables false
namespace Mine
open PySem PySem.W PySem.Calls PyProof.Rows PySem.Builtin PySem.Builtin.Str

section
variable {prog : Program} {w : World} {A : Around} {E : Value → Shared → Prop} {s : Shared} {t u : Tok} {Q : Value → Shared → Prop}
theorem divI {x y z : Int} (hy : 0 < y) (hy2 : y < 1000) (hz : x / y = z) (q : ∀ t' tk, Q (.int z t') { s with toks := tk }) : wpAny (model prog w) A (binaryOp .FloorDiv (.int x t) (.int y u)) Q E s := by
  subst hz
  refine floordiv_int (by omega) ?_ (Or.inl (PyProof.noPylong_small (by omega)))
  rw [Int.fdiv_eq_ediv_of_nonneg _ (by omega)]
  exact q _ _
theorem modI {x y z : Int} (hy : 0 < y) (hy2 : y < 1000) (hz : x % y = z) (q : ∀ t' tk, Q (.int z t') { s with toks := tk }) : wpAny (model prog w) A (binaryOp .Mod (.int x t) (.int y u)) Q E s := by
  subst hz
  refine mod_int' (by omega) ?_
  rw [Int.fmod_eq_emod_of_nonneg _ (by omega)]
  exact q _ _
theorem eqI {x y : Int} {b : Bool} (hb : (x == y) = b) (q : Q (.bool b) s) : wpAny (model prog w) A (compareOp .Eq (.int x t) (.int y u)) Q E s := by
  subst hb; exact PySem.P.eq_int q
variable {env : Env} {h₀ : Heap} {L : Addr}
/-- a list written out -/
theorem listD {elts : List PySem.Expr} {pos : Pos} {tl : List (Bool × Sem Value)} (ht : backTo pos (starEach elts env) = tl)
    (h : wpAny (model prog w) A (spliced tl) (fun vs s₁ => ∃ bs rs, vs.length ≤ 1000 ∧ Cx h₀ L bs rs s₁.heap ∧ ∀ l h', Cx h₀ L bs ((l, PL vs) :: rs) h' → Kp s₁.heap h' → Q (.ref l) { s₁ with heap := h' }) E s) : wpAny (model prog w) A (eval (.List elts pos) env) Q E s := by
  subst ht
  refine wpAny_List (wpAny_mono h (fun vs s₁ h₁ => ?_) fun _ _ e => e)
  obtain ⟨bs, rs, hl, C, q⟩ := h₁
  exact ⟨by rw [sizeLine_eq]; omega, q _ _ (C.push ({ cls := .type "list", data := .seq vs.toArray } : Obj) (P := PL vs) ⟨0, rfl⟩ rfl) (Kp.push _ _)⟩
theorem tupD {elts : List PySem.Expr} {k : Nat} {pos : Pos} {tl : List (Bool × Sem Value)} (ht : backTo pos (starEach elts env) = tl)
    (h : wpAny (model prog w) A (spliced tl) (fun vs s₁ => ∃ bs rs, vs.length ≤ 1000 ∧ Cx h₀ L bs rs s₁.heap ∧ ∀ l h', Cx h₀ L bs ((l, PT vs) :: rs) h' → Kp s₁.heap h' → Q (.ref l) { s₁ with heap := h' }) E s) : wpAny (model prog w) A (eval (.Tuple elts k pos) env) Q E s := by
  subst ht
  refine wpAny_Tuple (wpAny_mono h (fun vs s₁ h₁ => ?_) fun _ _ e => e)
  obtain ⟨bs, rs, hl, C, q⟩ := h₁
  exact ⟨by rw [sizeLine_eq]; omega, q _ _ (C.push ({ cls := .type "tuple", data := .seq vs.toArray } : Obj) (P := PT vs) ⟨0, rfl⟩ rfl) (Kp.push _ _)⟩
theorem list1D {e1 : PySem.Expr} {pos : Pos} (ht : backTo pos (starEach [e1] env) = [(false, eval e1 env)])
    (h : wpAny (model prog w) A (eval e1 env) (fun v1 s1 => ∃ bs rs, Cx h₀ L bs rs s1.heap ∧ ∀ l h', Cx h₀ L bs ((l, PL [v1]) :: rs) h' → Kp s1.heap h' → Q (.ref l) { s1 with heap := h' }) E s) : wpAny (model prog w) A (eval (.List [e1] pos) env) Q E s := by
  refine listD (h₀ := h₀) (L := L) ht ?_
  refine spliced_cons (wpAny_mono h (fun v1 s1 h1 => ?_) fun _ _ e => e)
  obtain ⟨bs, rs, C, q⟩ := h1
  exact spliced_nil ⟨bs, rs, by simp, C, q⟩
theorem list3D {e1 e2 e3 : PySem.Expr} {pos : Pos} (ht : backTo pos (starEach [e1, e2, e3] env) = [(false, eval e1 env), (false, eval e2 env), (false, eval e3 env)])
    (h : wpAny (model prog w) A (eval e1 env) (fun v1 s1 => wpAny (model prog w) A (eval e2 env) (fun v2 s2 => wpAny (model prog w) A (eval e3 env) (fun v3 s3 => ∃ bs rs, Cx h₀ L bs rs s3.heap ∧ ∀ l h', Cx h₀ L bs ((l, PL [v1, v2, v3]) :: rs) h' → Kp s3.heap h' → Q (.ref l) { s3 with heap := h' }) E s2) E s1) E s) : wpAny (model prog w) A (eval (.List [e1, e2, e3] pos) env) Q E s := by
  refine listD (h₀ := h₀) (L := L) ht ?_
  refine spliced_cons (wpAny_mono h (fun v1 s1 h1 => ?_) fun _ _ e => e)
  refine spliced_cons (wpAny_mono h1 (fun v2 s2 h2 => ?_) fun _ _ e => e)
  refine spliced_cons (wpAny_mono h2 (fun v3 s3 h3 => ?_) fun _ _ e => e)
  obtain ⟨bs, rs, C, q⟩ := h3
  exact spliced_nil ⟨bs, rs, by simp, C, q⟩
theorem list5D {e1 e2 e3 e4 e5 : PySem.Expr} {pos : Pos} (ht : backTo pos (starEach [e1, e2, e3, e4, e5] env) = [(false, eval e1 env), (false, eval e2 env), (false, eval e3 env), (false, eval e4 env), (false, eval e5 env)])
    (h : wpAny (model prog w) A (eval e1 env) (fun v1 s1 => wpAny (model prog w) A (eval e2 env) (fun v2 s2 => wpAny (model prog w) A (eval e3 env) (fun v3 s3 => wpAny (model prog w) A (eval e4 env) (fun v4 s4 => wpAny (model prog w) A (eval e5 env) (fun v5 s5 => ∃ bs rs, Cx h₀ L bs rs s5.heap ∧ ∀ l h', Cx h₀ L bs ((l, PL [v1, v2, v3, v4, v5]) :: rs) h' → Kp s5.heap h' → Q (.ref l) { s5 with heap := h' }) E s4) E s3) E s2) E s1) E s) : wpAny (model prog w) A (eval (.List [e1, e2, e3, e4, e5] pos) env) Q E s := by
  refine listD (h₀ := h₀) (L := L) ht ?_
  refine spliced_cons (wpAny_mono h (fun v1 s1 h1 => ?_) fun _ _ e => e)
  refine spliced_cons (wpAny_mono h1 (fun v2 s2 h2 => ?_) fun _ _ e => e)
  refine spliced_cons (wpAny_mono h2 (fun v3 s3 h3 => ?_) fun _ _ e => e)
  refine spliced_cons (wpAny_mono h3 (fun v4 s4 h4 => ?_) fun _ _ e => e)
  refine spliced_cons (wpAny_mono h4 (fun v5 s5 h5 => ?_) fun _ _ e => e)
  obtain ⟨bs, rs, C, q⟩ := h5
  exact spliced_nil ⟨bs, rs, by simp, C, q⟩
theorem list6D {e1 e2 e3 e4 e5 e6 : PySem.Expr} {pos : Pos} (ht : backTo pos (starEach [e1, e2, e3, e4, e5, e6] env) = [(false, eval e1 env), (false, eval e2 env), (false, eval e3 env), (false, eval e4 env), (false, eval e5 env), (false, eval e6 env)])
    (h : wpAny (model prog w) A (eval e1 env) (fun v1 s1 => wpAny (model prog w) A (eval e2 env) (fun v2 s2 => wpAny (model prog w) A (eval e3 env) (fun v3 s3 => wpAny (model prog w) A (eval e4 env) (fun v4 s4 => wpAny (model prog w) A (eval e5 env) (fun v5 s5 => wpAny (model prog w) A (eval e6 env) (fun v6 s6 => ∃ bs rs, Cx h₀ L bs rs s6.heap ∧ ∀ l h', Cx h₀ L bs ((l, PL [v1, v2, v3, v4, v5, v6]) :: rs) h' → Kp s6.heap h' → Q (.ref l) { s6 with heap := h' }) E s5) E s4) E s3) E s2) E s1) E s) : wpAny (model prog w) A (eval (.List [e1, e2, e3, e4, e5, e6] pos) env) Q E s := by
  refine listD (h₀ := h₀) (L := L) ht ?_
  refine spliced_cons (wpAny_mono h (fun v1 s1 h1 => ?_) fun _ _ e => e)
  refine spliced_cons (wpAny_mono h1 (fun v2 s2 h2 => ?_) fun _ _ e => e)
  refine spliced_cons (wpAny_mono h2 (fun v3 s3 h3 => ?_) fun _ _ e => e)
  refine spliced_cons (wpAny_mono h3 (fun v4 s4 h4 => ?_) fun _ _ e => e)
  refine spliced_cons (wpAny_mono h4 (fun v5 s5 h5 => ?_) fun _ _ e => e)
  refine spliced_cons (wpAny_mono h5 (fun v6 s6 h6 => ?_) fun _ _ e => e)
  obtain ⟨bs, rs, C, q⟩ := h6
  exact spliced_nil ⟨bs, rs, by simp, C, q⟩
theorem tup2D {e1 e2 : PySem.Expr} {k : Nat} {pos : Pos} (ht : backTo pos (starEach [e1, e2] env) = [(false, eval e1 env), (false, eval e2 env)])
    (h : wpAny (model prog w) A (eval e1 env) (fun v1 s1 => wpAny (model prog w) A (eval e2 env) (fun v2 s2 => ∃ bs rs, Cx h₀ L bs rs s2.heap ∧ ∀ l h', Cx h₀ L bs ((l, PT [v1, v2]) :: rs) h' → Kp s2.heap h' → Q (.ref l) { s2 with heap := h' }) E s1) E s) : wpAny (model prog w) A (eval (.Tuple [e1, e2] k pos) env) Q E s := by
  refine tupD (h₀ := h₀) (L := L) ht ?_
  refine spliced_cons (wpAny_mono h (fun v1 s1 h1 => ?_) fun _ _ e => e)
  refine spliced_cons (wpAny_mono h1 (fun v2 s2 h2 => ?_) fun _ _ e => e)
  obtain ⟨bs, rs, C, q⟩ := h2
  exact spliced_nil ⟨bs, rs, by simp, C, q⟩
end

/-- what the resources tell of a heap -/
def Told (rs : Rs) (h : Heap) : Prop := ∀ r ∈ rs, ∃ o, h.get? r.1 = some o ∧ r.2 o
theorem Told.left {a b : Rs} {h : Heap} (x : Told (a ++ b) h) : Told a h := fun r hr => x r (List.mem_append_left _ hr)
theorem Told.lat {rs : Rs} {h : Heap} {l : Addr} {vs : List Value} (x : Told rs h) (m : (l, PL vs) ∈ rs) : LAt h l vs := by
  obtain ⟨o, ho, n, e⟩ := x _ m
  exact ⟨n, by rw [ho, e]⟩
theorem Told.tat {rs : Rs} {h : Heap} {l : Addr} {vs : List Value} (x : Told rs h) (m : (l, PT vs) ∈ rs) : TAt h l vs := by
  obtain ⟨o, ho, n, e⟩ := x _ m
  exact ⟨n, by rw [ho, e]⟩
theorem BlksAt.snoc {h : Heap} {vs : List Value} {bl : List Blk} {v : Value} {b : Blk} (x : BlksAt h vs bl) (y : BlkAt h v b) : BlksAt h (vs ++ [v]) (bl ++ [b]) := by
  refine ⟨by simp [x.1], fun i u e => ?_⟩
  by_cases hi : i < vs.length
  · rw [List.getElem?_append_left hi] at e
    obtain ⟨b', e1, e2⟩ := x.2 i u e
    exact ⟨b', by rw [List.getElem?_append_left (by rw [← x.1]; exact hi)]; exact e1, e2⟩
  · rw [List.getElem?_append_right (by omega)] at e
    have h0 : i - vs.length = 0 := by
      cases hq : i - vs.length with
      | zero => rfl
      | succ k => rw [hq] at e; simp at e
    rw [h0] at e
    have : v = u := by simpa using e
    subst this
    exact ⟨b, by rw [List.getElem?_append_right (by rw [← x.1]; omega), ← x.1, h0]; rfl, y⟩
theorem RowsAt.snoc {h : Heap} {vs : List Value} {rows : List (List (List Nat))} {v : Value} {b : List (List Nat)} (x : RowsAt h vs rows) (y : RowAt h v b) : RowsAt h (vs ++ [v]) (rows ++ [b]) := by
  refine ⟨by simp [x.1], fun i u e => ?_⟩
  by_cases hi : i < vs.length
  · rw [List.getElem?_append_left hi] at e
    obtain ⟨b', e1, e2⟩ := x.2 i u e
    exact ⟨b', by rw [List.getElem?_append_left (by rw [← x.1]; exact hi)]; exact e1, e2⟩
  · rw [List.getElem?_append_right (by omega)] at e
    have h0 : i - vs.length = 0 := by
      cases hq : i - vs.length with
      | zero => rfl
      | succ k => rw [hq] at e; simp at e
    rw [h0] at e
    have : v = u := by simpa using e
    subst this
    exact ⟨b, by rw [List.getElem?_append_right (by rw [← x.1]; omega), ← x.1, h0]; rfl, y⟩
/-- the blocks that are being built -/
def BSt (B : Addr) (i : Nat) (st : Bst) (core : Rs) : Prop := match st with
  | none => core = [(B, PL [])]
  | some (pre, H, rows, row) => ∃ pvs tup r ro rv wvs t old, core = (B, PL (pvs ++ [.ref tup])) :: (r, PL (rv ++ [.ref ro])) :: (ro, PL wvs) :: old ∧ pvs.length ≤ 2 * i ∧ rv.length ≤ i ∧ wvs.length ≤ i ∧ StrsAre wvs (row.map S) ∧
      ∀ h, Told old h → BlksAt h pvs pre ∧ TAt h tup [.str (S H) t, .ref r] ∧ RowsAt h rv rows
end Mine
end

section
set_option maxRecDepth 100000
set_option linter.unusedVariables false
namespace Mine
open PySem PySem.W PySem.Calls PyProof.Rows PySem.Builtin PySem.Builtin.Str

def ifBody (sts : List Stmt) (k : Nat) : List Stmt := match sts.drop k with | .If _ b _ _ :: _ => b | _ => []
def ifElse (sts : List Stmt) (k : Nat) : List Stmt := match sts.drop k with | .If _ _ b _ :: _ => b | _ => []
theorem BSt.blk {B : Addr} {i : Nat} {pre : List Blk} {H : List Nat} {rows : List (List (List Nat))} {row : List (List Nat)} {core : Rs} (b : BSt B i (some (pre, H, rows, row)) core) :
    ∃ pvs tup r ro rv wvs t old, core = (B, PL (pvs ++ [.ref tup])) :: ((r, PL (rv ++ [.ref ro])) :: (ro, PL wvs) :: old) ∧ pvs.length ≤ 2 * i ∧
      (∀ h, Told old h → TAt h tup [.str (S H) t, .ref r]) ∧ ∀ h, Told ((r, PL (rv ++ [.ref ro])) :: (ro, PL wvs) :: old) h → BlksAt h (pvs ++ [.ref tup]) (pre ++ [(H, rows ++ [row])]) := by
  obtain ⟨pvs, tup, r, ro, rv, wvs, t, old, e, h1, h2, h3, h4, h5⟩ := b
  refine ⟨pvs, tup, r, ro, rv, wvs, t, old, e, h1, fun h x => (h5 h x).2.1, fun h x => ?_⟩
  obtain ⟨a1, a2, a3⟩ := h5 h fun r hr => x r (.tail _ (.tail _ hr))
  refine a1.snoc ⟨tup, r, t, rv ++ [.ref ro], rfl, a2, x.lat (.head _), a3.snoc ⟨ro, wvs, rfl, x.lat (.tail _ (.head _)), h4⟩⟩
theorem front4 {α : Type} (a c d b : α) (l : List α) : (b :: c :: d :: a :: l).Perm (a :: c :: d :: b :: l) :=
  (List.perm_middle (l₁ := [b, c, d]) (a := a) (l₂ := l)).trans (.cons a (List.perm_middle (l₁ := [c, d]) (a := b) (l₂ := l)).symm)
theorem Cx.told {h₀ h : Heap} {L : Addr} {bs : List (Str × Value)} {rs rs' : Rs} (C : Cx h₀ L bs rs h) (m : ∀ r ∈ rs', r ∈ rs) : Told rs' h := fun r hr => C.at_ r (m r hr)

section
variable {prog : Program} {w : World} {A : Around} {s : Shared} {mg mb : Str → Option Value} {n : Nat}
abbrev nmBl : Str := Str.ofString "_law_blocks"
set_option maxHeartbeats 4000000 in
/-- blocks.append((header, [[word]])) -/
theorem bl_new {Q : Flow → Shared → Prop} {h₀ h : Heap} {L B hl : Addr} {tk i : Nat} {body : List Stmt} {scope : Scope} {Hd W : List Nat} {th tw : Tok} {bvs : List Value} {pre : List Blk} {old tl : Rs}
    (hb : body = (ifBody (forBody (fnBody w 93) 3) 3).drop 2) (hsc : scope = fnScope w 93) (hlen : bvs.length ≤ 2 * i + 2) (hi : i ≤ 100) (ho : ∀ h, Told old h → BlksAt h bvs pre)
    (C : Cx h₀ L [(Str.ofString "headers", .ref hl), (Str.ofString "blocks", .ref B), (Str.ofString "word", .str (S W) tw), (Str.ofString "header", .str (S Hd) th)] ((B, PL bvs) :: (old ++ tl)) h)
    (q : ∀ h' tk' core, BSt B (i + 1) (some (pre, Hd, [], [W])) core → Cx h₀ L [(Str.ofString "headers", .ref hl), (Str.ofString "blocks", .ref B)] (core ++ tl) h' → Q .next { s with heap := h', toks := tk' }) :
    wpAny (model prog w) A (execs body (envOf nmBl scope L 93 (.ref 92))) Q Bot { s with heap := h, toks := tk } := by
  conv at hb => rhs; whnf
  conv at hsc => rhs; whnf
  subst hb hsc
  refine sExpr rfl rfl ?_
  refine meth1 rfl rfl rfl PySem.F.plainAttrs_list PySem.F.slot_list_append PySem.F.type_list_append ?_
  refine nmL C rfl rfl rfl rfl ⟨C.tyL (.head _), ?_⟩
  refine tup2D (h₀ := h₀) (L := L) rfl (nmL C rfl rfl rfl rfl ?_)
  refine list1D (h₀ := h₀) (L := L) rfl ?_
  refine list1D (h₀ := h₀) (L := L) rfl (nmL C rfl rfl rfl rfl ?_)
  refine ⟨_, _, C, fun ro h2 C k2 => ⟨_, _, C, fun r h3 C k3 => ⟨_, _, C, fun tup h4 C k4 => ?_⟩⟩⟩
  have C' : Cx h₀ L [(Str.ofString "headers", .ref hl), (Str.ofString "blocks", .ref B), (Str.ofString "word", .str (S W) tw), (Str.ofString "header", .str (S Hd) th)] ((B, PL bvs) :: (r, PL [.ref ro]) :: (ro, PL [.str (S W) tw]) :: (tup, PT [.str (S Hd) th, .ref r]) :: old ++ tl) h4 := by
    exact C.perm (front4 _ _ _ _ _)
  refine append_C C' (by omega) fun h5 C5 => ⟨rfl, sNil ?_⟩
  have C6 := C5.re (bs' := [(Str.ofString "headers", .ref hl), (Str.ofString "blocks", .ref B)]) ⟨rfl, rfl, trivial⟩
  refine q h5 _ ((B, PL (bvs ++ [Value.ref tup])) :: (r, PL [Value.ref ro]) :: (ro, PL [Value.str (S W) tw]) :: (tup, PT [Value.str (S Hd) th, Value.ref r]) :: old) ?_ C6
  refine ⟨bvs, tup, r, ro, [], [.str (S W) tw], th, (tup, PT [.str (S Hd) th, .ref r]) :: old, rfl, by omega, by simp, by simp, StrsAre.cons _ _ .nil, fun h x => ⟨ho h fun r hr => x r (.tail _ hr), x.tat (.head _), rfl, fun i v e => by simp at e⟩⟩
end
end Mine
end

section
set_option maxRecDepth 100000
set_option linter.unusedVariables false
namespace Mine
open PySem PySem.W PySem.Calls PyProof.Rows PySem.Builtin PySem.Builtin.Str

theorem heads_at (r : Int) : heads[(r % 5).toNat]? = some (headOf r) := by
  have key : ∀ a < 5, heads[a]? = some (heads.getD a []) := by decide
  exact key _ (by omega)
section
variable {prog : Program} {w : World} {A : Around} {s : Shared} {mg mb : Str → Option Value} {n : Nat}
set_option maxHeartbeats 4000000 in
/-- the body of `if blocks != []` -/
theorem bl_sep {Q : Flow → Shared → Prop} {h₀ h : Heap} {L B hl : Addr} {tk i : Nat} {body : List Stmt} {scope : Scope} {r : Int} {W : List Nat} {th tw tr : Tok} {pre : List Blk} {H : List Nat} {rows : List (List (List Nat))} {row : List (List Nat)} {core tl : Rs}
    (hb : body = ifBody (ifBody (forBody (fnBody w 93) 3) 3) 1) (hsc : scope = fnScope w 93) (hst : BSt B i (some (pre, H, rows, row)) core) (hi : i ≤ 100) (hHl : H.length ≤ 7)
    (C : Cx h₀ L [(Str.ofString "headers", .ref hl), (Str.ofString "blocks", .ref B), (Str.ofString "word", .str (S W) tw), (Str.ofString "header", .str (S (headOf r)) th), (Str.ofString "rest", .int r tr)] (core ++ tl) h)
    (q : ∀ h' tk' bvs old, bvs.length ≤ 2 * i + 2 → (∀ h, Told old h → BlksAt h bvs (preOf (some (pre, H, rows, row)) r)) → Cx h₀ L [(Str.ofString "headers", .ref hl), (Str.ofString "blocks", .ref B), (Str.ofString "word", .str (S W) tw), (Str.ofString "header", .str (S (headOf r)) th)] ((B, PL bvs) :: (old ++ tl)) h' → Q .next { s with heap := h', toks := tk' }) :
    wpAny (model prog w) A (execs body (envOf nmBl scope L 93 (.ref 92))) Q Bot { s with heap := h, toks := tk } := by
  obtain ⟨pvs, tup, ra, ro, rv, wvs, t, old, hc, hpl, htup, hbl⟩ := hst.blk
  subst hc
  generalize hold : (ra, PL (rv ++ [.ref ro])) :: (ro, PL wvs) :: old = old1 at hbl C
  have htup' : TAt h tup [.str (S H) t, .ref ra] := htup h (C.told fun r hr => by
    rw [← hold]
    exact List.mem_append_left _ (.tail _ (.tail _ (.tail _ hr))))
  conv at hb => rhs; whnf
  conv at hsc => rhs; whnf
  subst hb hsc
  -- before = blocks[-1][0]
  refine sAssign rfl ?_
  refine Subscript_ (Subscript_ (nmL C rfl rfl rfl rfl (wpAny_UnaryOp (constI fun t1 tk1 => P.neg_int ?_))))
  refine idx_last (C.lat (.head _)) (by with_unfolding_all rfl) ?_
  refine constI fun t2 tk2 => sub_A ?_
  refine idx_T (k := 0) (j := 0) htup' (by omega) (by omega) rfl rfl (by with_unfolding_all rfl) ?_
  refine stL C rfl rfl fun h3 tk3 C => ?_
  -- if
  refine sIf ?_
  refine wpAny_mono (Q := fun b s₁ => b = decide (headOf r = H ∨ r % 2 = 0) ∧ ∃ tk', s₁ = { s with heap := h3, toks := tk' }) ?_ ?_ fun _ _ e => e
  · refine isTrue_or (wpAny_isTrue_Compare1 (nmL C rfl rfl rfl rfl (nmL C rfl rfl rfl rfl (eq_S (wpAny_truthy_bool ?_)))))
    with_reducible refine br ?_ ?_
    · intro he
      have he : headOf r = H := by simpa using he
      exact ⟨by simp [he], _, rfl⟩
    · intro he
      have he : headOf r ≠ H := by simpa using he
      refine isTrue_or (wpAny_isTrue_Compare1 (wpAny_BinOp (nmL C rfl rfl rfl rfl (constI fun t4 tk4 => modI (by omega) (by omega) rfl fun t5 tk5 => constI fun t6 tk6 => eqI rfl (wpAny_truthy_bool ?_)))))
      with_reducible refine br ?_ ?_
      · intro hm
        have hm : r % 2 = 0 := by simpa using hm
        exact ⟨by simp [hm], _, rfl⟩
      · intro hm
        have hm : r % 2 ≠ 0 := by simpa using hm
        exact isTrue_or_nil ⟨by simp [hm, he], _, rfl⟩
  intro b s₁ hbs
  obtain ⟨hbe, tk7, hse⟩ := hbs
  subst hse
  with_reducible refine br ?_ ?_
  · intro hbt
    rw [hbe] at hbt
    have hcond := of_decide_eq_true hbt
    have h3 : (r % 3).toNat = 0 ∨ (r % 3).toNat = 1 ∨ (r % 3).toNat = 2 := by omega
    refine sExpr rfl rfl ?_
    refine meth1 rfl rfl rfl PySem.F.plainAttrs_list PySem.F.slot_list_append PySem.F.type_list_append ?_
    refine nmL C rfl rfl rfl rfl ⟨C.tyL (.head _), ?_⟩
    refine tup2D (h₀ := h₀) (L := L) rfl (Subscript_ ?_)
    refine list3D (h₀ := h₀) (L := L) rfl (constS (l := []) rfl fun t8 tk8 => nmL C rfl rfl rfl rfl ?_)
    refine wpAny_BinOp (nmL C rfl rfl rfl rfl (constS (l := [32, 9]) rfl fun t9 tk9 => add_SE (c := H ++ [32, 9]) rfl (by rw [List.length_append]; simp; omega) fun t10 tk10 => ?_))
    refine ⟨_, _, C, fun lt h11 C k11 => ?_⟩
    refine wpAny_BinOp (nmL C rfl rfl rfl rfl (constI fun t12 tk12 => modI (z := ((r % 3).toNat : Int)) (by omega) (by omega) (by omega) fun t13 tk13 => sub_A ?_))
    have hit : ∃ ts, ([.str (S []) t8, .str (S H) t, .str (S (H ++ [32, 9])) t10] : List Value)[(r % 3).toNat]? = some (.str (S (sepOf H r)) ts) := by
      unfold sepOf seps
      rcases h3 with e | e | e
      · rw [e]; exact ⟨_, rfl⟩
      · rw [e]; exact ⟨_, rfl⟩
      · rw [e]; exact ⟨_, rfl⟩
    obtain ⟨ts, hit⟩ := hit
    refine idx_L (C.lat (.head _)) (by omega) hit (by with_unfolding_all rfl) ?_
    refine nilL C fun e h14 C k14 => ⟨_, _, C, fun tup2 h15 C k15 => ?_⟩
    refine append_C (C.perm (front4 _ _ _ _ _)) (by rw [List.length_append]; simp; omega) fun h16 C => ⟨rfl, sNil (then_next (sNil ?_))⟩
    have C6 := C.re (bs' := [(Str.ofString "headers", .ref hl), (Str.ofString "blocks", .ref B), (Str.ofString "word", .str (S W) tw), (Str.ofString "header", .str (S (headOf r)) th)]) ⟨rfl, rfl, rfl, rfl, trivial⟩
    refine q h16 _ (pvs ++ [Value.ref tup] ++ [Value.ref tup2]) ((e, PL []) :: (lt, PL [.str (S []) t8, .str (S H) t, .str (S (H ++ [32, 9])) t10]) :: (tup2, PT [.str (S (sepOf H r)) ts, .ref e]) :: old1) (by simp; omega) (fun h x => ?_) C6
    have e0 : preOf (some (pre, H, rows, row)) r = pre ++ [(H, rows ++ [row])] ++ [(sepOf H r, [])] := by simp only [preOf]; rw [if_pos hcond]
    rw [e0]
    exact (hbl h fun r hr => x r (.tail _ (.tail _ (.tail _ hr)))).snoc ⟨tup2, e, ts, [], rfl, x.tat (.tail _ (.tail _ (.head _))), x.lat (.head _), rfl, fun i v e => by simp at e⟩
  · intro hbt
    rw [hbe] at hbt
    have hcond := of_decide_eq_false hbt
    have C6 := C.re (bs' := [(Str.ofString "headers", .ref hl), (Str.ofString "blocks", .ref B), (Str.ofString "word", .str (S W) tw), (Str.ofString "header", .str (S (headOf r)) th)]) ⟨rfl, rfl, rfl, rfl, trivial⟩
    refine sNil (then_next (sNil (q h3 _ (pvs ++ [Value.ref tup]) old1 (by simp; omega) (fun h x => ?_) C6)))
    have e0 : preOf (some (pre, H, rows, row)) r = pre ++ [(H, rows ++ [row])] := by simp only [preOf]; rw [if_neg hcond, List.append_nil]
    rw [e0]
    exact hbl h x
end
end Mine
end

section
set_option maxRecDepth 100000
set_option linter.unusedVariables false
namespace Mine
open PySem PySem.W PySem.Calls PyProof.Rows PySem.Builtin PySem.Builtin.Str

section
variable {prog : Program} {w : World} {A : Around} {s : Shared} {mg mb : Str → Option Value} {n : Nat}
set_option maxHeartbeats 4000000 in
/-- a new block -/
theorem bl_block {Q : Flow → Shared → Prop} {h₀ h : Heap} {L B hl : Addr} {tk i : Nat} {body : List Stmt} {scope : Scope} {r : Int} {W : List Nat} {tw tr : Tok} {st : Bst} {hvs : List Value} {core tl : Rs}
    (hb : body = ifBody (forBody (fnBody w 93) 3) 3) (hsc : scope = fnScope w 93) (hst : BSt B i st core) (hi : i ≤ 100) (hsh : ∀ pre H rows row, st = some (pre, H, rows, row) → H.length ≤ 7) (hu : A.units < cLine) (hm : (hl, PL hvs) ∈ tl) (hvs' : StrsAre hvs (heads.map S))
    (C : Cx h₀ L [(Str.ofString "headers", .ref hl), (Str.ofString "blocks", .ref B), (Str.ofString "word", .str (S W) tw), (Str.ofString "rest", .int r tr)] (core ++ tl) h)
    (q : ∀ h' tk' core', BSt B (i + 1) (some (preOf st r, headOf r, [], [W])) core' → Cx h₀ L [(Str.ofString "headers", .ref hl), (Str.ofString "blocks", .ref B)] (core' ++ tl) h' → Q .next { s with heap := h', toks := tk' }) :
    wpAny (model prog w) A (execs body (envOf nmBl scope L 93 (.ref 92))) Q Bot { s with heap := h, toks := tk } := by
  obtain ⟨th, hth⟩ := strs_at hvs' (heads_at r)
  conv at hb => rhs; whnf
  conv at hsc => rhs; whnf
  subst hb hsc
  -- header = headers[rest % 5]
  refine sAssign rfl (Subscript_ (nmL C rfl rfl rfl rfl (wpAny_BinOp (nmL C rfl rfl rfl rfl (constI fun t1 tk1 => modI (z := ((r % 5).toNat : Int)) (by omega) (by omega) (by omega) fun t2 tk2 => ?_)))))
  refine idx_L (C.lat (List.mem_append_right _ hm)) (by omega) hth (by with_unfolding_all rfl) ?_
  refine stL C rfl rfl fun h3 tk3 C => ?_
  replace C := C.re (bs' := [(Str.ofString "headers", .ref hl), (Str.ofString "blocks", .ref B), (Str.ofString "word", .str (S W) tw), (Str.ofString "header", .str (S (headOf r)) th), (Str.ofString "rest", .int r tr)]) ⟨rfl, rfl, rfl, rfl, rfl, trivial⟩
  -- if blocks != []
  refine sIfJ (fun s' => ∃ h' tk' bvs old, s' = { s with heap := h', toks := tk' } ∧ bvs.length ≤ 2 * i + 2 ∧ (∀ h, Told old h → BlksAt h bvs (preOf st r)) ∧ Cx h₀ L [(Str.ofString "headers", .ref hl), (Str.ofString "blocks", .ref B), (Str.ofString "word", .str (S W) tw), (Str.ofString "header", .str (S (headOf r)) th)] ((B, PL bvs) :: (old ++ tl)) h') ?_ ?_
  · refine wpAny_isTrue_Compare1 (nmL C rfl rfl rfl rfl (nilL C fun l2 h4 C4 k4 => ?_))
    cases st with
    | none =>
      have hc : core = [(B, PL [])] := hst
      subst hc
      refine ne_nil (C4.lat (.tail _ (.head _))) (C4.lat (.head _)) hu (wpAny_truthy_bool ?_)
      replace C := C4.drop rfl
      with_reducible refine br ?_ ?_
      · intro he; cases he
      · intro _
        refine sNil (then_next ⟨h4, tk3, [], [], rfl, by simp, fun h x => ⟨rfl, fun i v e => by simp at e⟩, C.re (bs' := [(Str.ofString "headers", .ref hl), (Str.ofString "blocks", .ref B), (Str.ofString "word", .str (S W) tw), (Str.ofString "header", .str (S (headOf r)) th)]) ⟨rfl, rfl, rfl, rfl, trivial⟩⟩)
    | some st =>
      obtain ⟨pre, H, rows, row⟩ := st
      have hst0 := hst
      obtain ⟨pvs, tup, ra, ro, rv, wvs, t, old, hc, hrest⟩ := hst
      have hmB : (B, PL (pvs ++ [.ref tup])) ∈ core ++ tl := by rw [hc]; exact .head _
      refine ne_nil (C4.lat (.tail _ hmB)) (C4.lat (.head _)) hu (wpAny_truthy_bool ?_)
      replace C := C4.drop rfl
      with_reducible refine br ?_ ?_
      · intro _
        exact bl_sep (i := i) rfl rfl hst0 hi (hsh _ _ _ _ rfl) C fun h5 tk5 bvs old hl1 hl2 C5 => then_next ⟨h5, tk5, bvs, old, rfl, hl1, hl2, C5⟩
      · intro he
        simp at he
  intro s' hs'
  obtain ⟨h6, tk6, bvs, old, hs'⟩ := hs'
  obtain ⟨hse, hbl, hbo, C⟩ := hs'
  subst hse
  exact bl_new (i := i) rfl rfl hbl hi hbo C q
end
end Mine
end

section
set_option maxRecDepth 100000
set_option linter.unusedVariables false
namespace Mine
open PySem PySem.W PySem.Calls PyProof.Rows PySem.Builtin PySem.Builtin.Str

theorem front3 {α : Type} (a b c : α) (l : List α) : (c :: b :: a :: l).Perm (a :: b :: c :: l) :=
  (List.perm_middle (l₁ := [c, b]) (a := a) (l₂ := l)).trans (.cons a (List.Perm.swap _ _ _))
section
variable {prog : Program} {w : World} {A : Around} {s : Shared} {mg mb : Str → Option Value} {n : Nat}
set_option maxHeartbeats 4000000 in
/-- a new row, or a word more -/
theorem bl_more {Q : Flow → Shared → Prop} {h₀ h : Heap} {L B hl : Addr} {tk i : Nat} {body : List Stmt} {scope : Scope} {x : Int} {W : List Nat} {tw tx : Tok} {pre : List Blk} {H : List Nat} {rows : List (List (List Nat))} {row : List (List Nat)} {core tl : Rs}
    (hb : body = ifElse (forBody (fnBody w 93) 3) 3) (hsc : scope = fnScope w 93) (hst : BSt B i (some (pre, H, rows, row)) core) (hi : i ≤ 100) (h7 : x % 8 ≠ 7) (hW : W = wordOf (x / 8))
    (C : Cx h₀ L [(Str.ofString "headers", .ref hl), (Str.ofString "blocks", .ref B), (Str.ofString "word", .str (S W) tw), (Str.ofString "x", .int x tx)] (core ++ tl) h)
    (q : ∀ h' tk' core', BSt B (i + 1) (stepB (some (pre, H, rows, row)) x) core' → Cx h₀ L [(Str.ofString "headers", .ref hl), (Str.ofString "blocks", .ref B)] (core' ++ tl) h' → Q .next { s with heap := h', toks := tk' }) :
    wpAny (model prog w) A (execs body (envOf nmBl scope L 93 (.ref 92))) Q Bot { s with heap := h, toks := tk } := by
  obtain ⟨pvs, tup, ra, ro, rv, wvs, t, old, hc, hpl, hrl, hwl, hws, hold⟩ := hst
  subst hc
  have htup : TAt h tup [.str (S H) t, .ref ra] := (hold h (C.told fun r hr => List.mem_append_left _ (.tail _ (.tail _ (.tail _ hr))))).2.1
  conv at hb => rhs; whnf
  conv at hsc => rhs; whnf
  subst hb hsc
  refine sIf (wpAny_isTrue_Compare1 (wpAny_BinOp (nmL C rfl rfl rfl rfl (constI fun t1 tk1 => modI (by omega) (by omega) rfl fun t2 tk2 => constI fun t3 tk3 => eqI rfl (wpAny_truthy_bool ?_)))))
  with_reducible refine br ?_ ?_
  · intro h6
    have h6 : x % 8 = 6 := by simpa using h6
    have es : stepB (some (pre, H, rows, row)) x = some (pre, H, rows ++ [row], [W]) := by simp only [stepB]; rw [if_neg h7, if_pos h6, hW]
    rw [es] at q
    refine sExpr rfl rfl ?_
    refine meth1 rfl rfl rfl PySem.F.plainAttrs_list PySem.F.slot_list_append PySem.F.type_list_append ?_
    refine Subscript_ (Subscript_ (nmL C rfl rfl rfl rfl (wpAny_UnaryOp (constI fun t1 tk1 => P.neg_int ?_))))
    refine idx_last (C.lat (.head _)) (by with_unfolding_all rfl) ?_
    refine constI fun t2 tk2 => sub_A ?_
    refine idx_T (k := 1) (j := 1) htup (by omega) (by omega) rfl rfl (by with_unfolding_all rfl) ?_
    refine ⟨C.tyL (.tail _ (.head _)), ?_⟩
    refine list1D (h₀ := h₀) (L := L) rfl (nmL C rfl rfl rfl rfl ⟨_, _, C, fun rn h4 C k4 => ?_⟩)
    refine append_C (C.perm (front3 _ _ _ _)) (by rw [List.length_append]; simp; omega) fun h5 C => ⟨rfl, sNil (then_next (sNil ?_))⟩
    have C6 := C.swap.re (bs' := [(Str.ofString "headers", .ref hl), (Str.ofString "blocks", .ref B)]) ⟨rfl, rfl, trivial⟩
    refine q h5 _ ((B, PL (pvs ++ [Value.ref tup])) :: (ra, PL (rv ++ [Value.ref ro] ++ [Value.ref rn])) :: (rn, PL [Value.str (S W) tw]) :: (ro, PL wvs) :: old) ?_ C6
    refine ⟨pvs, tup, ra, rn, rv ++ [Value.ref ro], [Value.str (S W) tw], t, (ro, PL wvs) :: old, rfl, by omega, by simp; omega, by simp, StrsAre.cons _ _ .nil, fun h x => ?_⟩
    obtain ⟨a1, a2, a3⟩ := hold h fun r hr => x r (.tail _ hr)
    exact ⟨a1, a2, a3.snoc ⟨ro, wvs, rfl, x.lat (.head _), hws⟩⟩
  · intro h6
    have h6 : x % 8 ≠ 6 := by simpa using h6
    have es : stepB (some (pre, H, rows, row)) x = some (pre, H, rows, row ++ [W]) := by simp only [stepB]; rw [if_neg h7, if_neg h6, hW]
    rw [es] at q
    refine sExpr rfl rfl ?_
    refine meth1 rfl rfl rfl PySem.F.plainAttrs_list PySem.F.slot_list_append PySem.F.type_list_append ?_
    refine Subscript_ (Subscript_ (Subscript_ (nmL C rfl rfl rfl rfl (wpAny_UnaryOp (constI fun t1 tk1 => P.neg_int ?_)))))
    refine idx_last (C.lat (.head _)) (by with_unfolding_all rfl) ?_
    refine constI fun t2 tk2 => sub_A ?_
    refine idx_T (k := 1) (j := 1) htup (by omega) (by omega) rfl rfl (by with_unfolding_all rfl) ?_
    refine wpAny_UnaryOp (constI fun t3 tk3 => P.neg_int (sub_A ?_))
    refine idx_last (C.lat (.tail _ (.head _))) (by with_unfolding_all rfl) ?_
    refine ⟨C.tyL (.tail _ (.tail _ (.head _))), nmL C rfl rfl rfl rfl ?_⟩
    refine append_C (C.perm (front3 _ _ _ _)) (by omega) fun h5 C => ⟨rfl, sNil (then_next (sNil ?_))⟩
    have C6 := (C.perm (front3 _ _ _ _)).re (bs' := [(Str.ofString "headers", .ref hl), (Str.ofString "blocks", .ref B)]) ⟨rfl, rfl, trivial⟩
    refine q h5 _ ((B, PL (pvs ++ [Value.ref tup])) :: (ra, PL (rv ++ [Value.ref ro])) :: (ro, PL (wvs ++ [Value.str (S W) tw])) :: old) ?_ C6
    refine ⟨pvs, tup, ra, ro, rv, wvs ++ [Value.str (S W) tw], t, old, rfl, by omega, by omega, by simp; omega, ?_, hold⟩
    rw [List.map_append]
    exact StrsAre.append' hws (StrsAre.cons _ _ .nil)
set_option maxHeartbeats 4000000 in
/-- one turn of _law_blocks -/
theorem bl_turn {Q : Flow → Shared → Prop} {h₀ h : Heap} {L B hl : Addr} {tk i : Nat} {body : List Stmt} {scope : Scope} {x : Int} {tx : Tok} {st : Bst} {hvs : List Value} {core tl : Rs}
    (hb : body = forBody (fnBody w 93) 3) (hsc : scope = fnScope w 93) (hst : BSt B i st core) (hi : i ≤ 100) (hsh : ∀ pre H rows row, st = some (pre, H, rows, row) → H.length ≤ 7) (hu : A.units < cLine) (hm : (hl, PL hvs) ∈ tl) (hvs' : StrsAre hvs (heads.map S))
    (C : Cx h₀ L [(Str.ofString "headers", .ref hl), (Str.ofString "blocks", .ref B), (Str.ofString "x", .int x tx)] (core ++ tl) h)
    (q : ∀ h' tk' core', BSt B (i + 1) (stepB st x) core' → Cx h₀ L [(Str.ofString "headers", .ref hl), (Str.ofString "blocks", .ref B)] (core' ++ tl) h' → Q .next { s with heap := h', toks := tk' }) :
    wpAny (model prog w) A (execs body (envOf nmBl scope L 93 (.ref 92))) Q Bot { s with heap := h, toks := tk } := by
  conv at hb => rhs; whnf
  conv at hsc => rhs; whnf
  subst hb hsc
  generalize hr : x / 8 = r
  -- rest, start
  refine sAssign rfl (wpAny_BinOp (nmL C rfl rfl rfl rfl (constI fun t1 tk1 => divI (by omega) (by omega) hr fun t2 tk2 => stL C rfl rfl fun h3 tk3 C => ?_)))
  refine sAssign rfl (wpAny_BinOp (wpAny_BinOp (nmL C rfl rfl rfl rfl (constI fun t4 tk4 => divI (by omega) (by omega) rfl fun t5 tk5 => ?_))))
  refine constI fun t6 tk6 => modI (z := ((r / 9 % 20).toNat : Int)) (by omega) (by omega) (by omega) fun t7 tk7 => stL C rfl rfl fun h8 tk8 C => ?_
  have ha : (r / 9 % 20).toNat < 20 := by omega
  have hc : (r % 9).toNat < 9 := by omega
  have hw : wordAt (r / 9 % 20).toNat (r % 9).toNat = wordOf r := rfl
  generalize (r / 9 % 20).toNat = a at ha hw C
  generalize hcc : (r % 9).toNat = c at hc hw
  have hll : letters.length = 28 := rfl
  -- word
  refine sAssign rfl (sliceS_A (constS (l := letters) rfl fun t9 tk9 => ?_))
  refine nmL C rfl rfl rfl rfl ?_
  refine wpAny_BinOp (wpAny_BinOp (nmL C rfl rfl rfl rfl (constI fun t10 tk10 => addI (z := ((a + 1 : Nat) : Int)) (by omega) fun t11 tk11 => ?_)))
  refine wpAny_BinOp (nmL C rfl rfl rfl rfl (constI fun t12 tk12 => modI (z := (c : Int)) (by omega) (by omega) (by omega) fun t13 tk13 => addI (z := ((a + 1 + c : Nat) : Int)) (by omega) fun t14 tk14 => ?_))
  refine ⟨letters, t9, a, a + 1 + c, wordOf r, rfl, .int a _, .int _ _ (by omega), by omega, by omega, ?_, fun t15 h16 tk16 k16 => ?_⟩
  · rw [← hw]; unfold wordAt; congr 1; omega
  replace C := C.keeps k16
  refine stL C rfl rfl fun h17 tk17 C => ?_
  replace C := C.re (bs' := [(Str.ofString "headers", .ref hl), (Str.ofString "blocks", .ref B), (Str.ofString "word", .str (S (wordOf r)) t15), (Str.ofString "rest", .int r t2), (Str.ofString "x", .int x tx)]) ⟨rfl, rfl, rfl, rfl, rfl, trivial⟩
  -- if
  refine sIf ?_
  cases st with
  | none =>
    have hco : core = [(B, PL [])] := hst
    have es : stepB none x = some (preOf none r, headOf r, [], [wordOf r]) := by simp only [stepB]; rw [hr]
    rw [es] at q
    refine isTrue_or (wpAny_isTrue_Compare1 (nmL C rfl rfl rfl rfl (nilL C fun l2 h18 C4 k4 => ?_)))
    refine eq_nil (vs := []) (C4.lat (by rw [hco]; exact .tail _ (.head _))) (C4.lat (.head _)) hu (wpAny_truthy_bool ?_)
    replace C := C4.drop rfl
    with_reducible refine br ?_ ?_
    · intro _
      with_reducible refine br ?_ ?_
      · intro _
        exact bl_block (i := i) rfl rfl hst hi hsh hu hm hvs' (C.re ⟨rfl, rfl, rfl, rfl, trivial⟩) fun h5 tk5 core' b5 C5 => then_next (sNil (q h5 tk5 core' b5 C5))
      · intro h; cases h
    · intro h; cases h
  | some st =>
    obtain ⟨pre, H, rows, row⟩ := st
    have hst0 := hst
    obtain ⟨pvs, tup, ra, ro, rv, wvs, t, old, hco, hrest⟩ := hst
    have hmB : (B, PL (pvs ++ [.ref tup])) ∈ core ++ tl := by rw [hco]; exact .head _
    refine isTrue_or (wpAny_isTrue_Compare1 (nmL C rfl rfl rfl rfl (nilL C fun l2 h18 C4 k4 => ?_)))
    refine eq_nil (C4.lat (.tail _ hmB)) (C4.lat (.head _)) hu (wpAny_truthy_bool ?_)
    replace C := C4.drop rfl
    with_reducible refine br ?_ ?_
    · intro he; simp at he
    intro _
    refine isTrue_or (wpAny_isTrue_Compare1 (wpAny_BinOp (nmL C rfl rfl rfl rfl (constI fun t19 tk19 => modI (by omega) (by omega) rfl fun t20 tk20 => constI fun t21 tk21 => eqI rfl (wpAny_truthy_bool ?_)))))
    with_reducible refine br ?_ ?_
    · intro h7
      have h7 : x % 8 = 7 := by simpa using h7
      have es : stepB (some (pre, H, rows, row)) x = some (preOf (some (pre, H, rows, row)) r, headOf r, [], [wordOf r]) := by simp only [stepB]; rw [if_pos h7, hr]
      rw [es] at q
      with_reducible refine br ?_ ?_
      · intro _
        exact bl_block (i := i) rfl rfl hst0 hi hsh hu hm hvs' (C.re ⟨rfl, rfl, rfl, rfl, trivial⟩) fun h5 tk5 core' b5 C5 => then_next (sNil (q h5 tk5 core' b5 C5))
      · intro h; cases h
    · intro h7
      have h7 : x % 8 ≠ 7 := by simpa using h7
      refine isTrue_or_nil ?_
      with_reducible refine br ?_ ?_
      · intro h; cases h
      · intro _
        exact bl_more (i := i) rfl rfl hst0 hi h7 (by rw [hr]) (C.re ⟨rfl, rfl, rfl, rfl, trivial⟩) fun h5 tk5 core' b5 C5 => then_next (sNil (q h5 tk5 core' b5 C5))
end
end Mine
end

section
set_option maxRecDepth 100000
set_option linter.unusedVariables false
namespace Mine
open PySem PySem.W PySem.Calls PyProof.Rows PySem.Builtin PySem.Builtin.Str

def numsOf (ns : List Int) : List Int := if 1 < ns.length then (ns.drop 1).take 60 else [0, 24, 6, 47, 15, 3]
theorem nums_len (ns : List Int) : (numsOf ns).length ≤ 60 := by
  unfold numsOf
  split
  · rw [List.length_take]; omega
  · decide
theorem ints_drop : ∀ {vs : List Value} {ns : List Int}, IntsAre vs ns → ∀ k : Nat, IntsAre (vs.drop k) (ns.drop k)
  | _, _, .nil, k => by simpa using IntsAre.nil
  | _, _, .cons n t h, 0 => .cons n t h
  | _, _, .cons n t h, k + 1 => ints_drop h k
theorem ints_take : ∀ {vs : List Value} {ns : List Int}, IntsAre vs ns → ∀ k : Nat, IntsAre (vs.take k) (ns.take k)
  | _, _, .nil, k => by simpa using IntsAre.nil
  | _, _, .cons n t h, 0 => .nil
  | _, _, .cons n t h, k + 1 => .cons n t (ints_take h k)
theorem ints_len : ∀ {vs : List Value} {ns : List Int}, IntsAre vs ns → vs.length = ns.length
  | _, _, .nil => rfl
  | _, _, .cons n t h => by simp [ints_len h]
theorem ints_at : ∀ {vs : List Value} {ns : List Int}, IntsAre vs ns → ∀ {i : Nat} {v : Value}, vs[i]? = some v → ∃ n t, v = .int n t ∧ ns[i]? = some n
  | _, _, .nil, i, v, e => by simp at e
  | _, _, .cons n t h, 0, v, e => ⟨n, t, by simpa using e.symm, rfl⟩
  | _, _, .cons n t h, i + 1, v, e => ints_at h (by simpa using e)
theorem slice_1_61 {vs : List Value} : (slicePick vs.toArray (some 1) (some 61) none).toList = (vs.drop 1).take 60 := by
  rw [slicePick_plain]
  have e1 : clipAt vs.toArray.size 1 = min 1 vs.length := by have := clipAt_nat vs.toArray.size 1; simpa using this
  have e2 : clipAt vs.toArray.size 61 = min 61 vs.length := by have := clipAt_nat vs.toArray.size 61; simpa using this
  simp only [Option.elim, e1, e2]
  by_cases h : vs.length = 0
  · have : vs = [] := List.eq_nil_of_length_eq_zero h
    subst this; rfl
  · rw [Nat.min_eq_left (by omega : 1 ≤ vs.length)]
    by_cases h2 : 61 ≤ vs.length
    · rw [Nat.min_eq_left h2]
    · rw [Nat.min_eq_right (by omega), List.take_of_length_le (by simp), List.take_of_length_le (by simp; omega)]

section
variable {prog : Program} {w : World} {A : Around} {E : Value → Shared → Prop} {s : Shared} {t : Tok} {Q : Value → Shared → Prop} {h₀ : Heap} {L : Addr} {l : Addr} {vs : List Value} {env : Env}
theorem partC {e : PySem.Expr} (h : wpAny (model prog w) A (eval e env) Q E s) : wpAny (model prog w) A (evalPart (some e) env) Q E s := h
theorem idx_I {value slice : PySem.Expr} {k : Nat} {v : Value} (x : s.heap.IsList l vs.toArray) (hk : k < 1000000) (hv : vs[k]? = some v)
    (hs : subscripted slice false (.ref l) (.int k t) = operate [.ref l, .int k t] (getItem (.ref l) (.int k t))) (q : Q v s) : wpAny (model prog w) A (subscriptTail value slice (.ref l) (.int k t)) Q E s :=
  tail_any x.typeIs slot_list_getitem.lookup (wpAny_getItem_list x (by omega) (by omega) (by simpa using hv) q) hs
theorem len_I (x : s.heap.IsList l vs.toArray) (hsz : vs.length ≤ 16777216) (q : ∀ t' tk, Q (.int vs.length t') { s with toks := tk }) : wpAny (model prog w) A (call (.builtin "len") [.ref l]) Q E s :=
  call_len_list x (by simp; omega) (by simpa using q _ _)
theorem ne_nil_I {b : Addr} (x : s.heap.IsList l vs.toArray) (y : LAt s.heap b []) (hu : A.units < cLine) (q : Q (.bool (!vs.isEmpty)) s) : wpAny (model prog w) A (compareOp .NotEq (.ref l) (.ref b)) Q E s := by
  cases vs with
  | nil => exact SeqAt.RcNeAt.lists (e := fun _ => true) x y.isL rfl hu (fun j h1 _ => by simp at h1) prog w E Q q
  | cons a r => exact SeqAt.RcNeAt.lists_lengths x y.isL (by simp) hu prog w E Q q
theorem slice_I {value : PySem.Expr} {lower upper : Option PySem.Expr} {p pos : Pos}
    (h : wpAny (model prog w) A (eval value env) (fun o s₁ => wpAny (model prog w) A (evalPart lower env) (fun vl s₂ => wpAny (model prog w) A (evalPart upper env) (fun vu s₃ =>
      ∃ (l : Addr) (vs : List Value) (lo hi : Option Int) (rs : Rs) (bs : List (Str × Value)) (us : List Value), o = .ref l ∧ s₃.heap.IsList l vs.toArray ∧ vs.length ≤ 1000000 ∧ IsPart vl lo ∧ IsPart vu hi ∧ (slicePick vs.toArray lo hi none).toList = us ∧ Cx h₀ L bs rs s₃.heap ∧
        ∀ l' h', Cx h₀ L bs ((l', PL us) :: rs) h' → Q (.ref l') { s₃ with heap := h' }) E s₂) E s₁) E s) :
    wpAny (model prog w) A (eval (.Subscript value (.Slice lower upper none p) pos) env) Q E s := by
  refine slice_any (T := "list") list_getitem_lookup (wpAny_mono h (fun o s₁ h₁ => wpAny_Slice (wpAny_mono h₁ (fun vl s₂ h₂ => wpAny_mono h₂ (fun vu s₃ h₃ => ?_) fun _ _ e => e) fun _ _ e => e)) fun _ _ e => e)
  obtain ⟨l, vs, lo, hi, rs, bs, us, rfl, hl, hsz, pl, pu, rfl, C, q⟩ := h₃
  rw [evalPart_none]
  refine wpAny_pure ⟨(hl.push _).typeIs, wpAny_getItem_list_slice (hl.push _) (Heap.IsSliceOf.new ..) pl pu .none (by simp) ?_ (by rw [sizeLine_eq]; simp; omega)⟩
  have C' := ((C.push ({ cls := .type "slice", data := .fields #[vl, vu, .none] } : Obj) (P := fun _ => True) trivial rfl).drop rfl).push ({ cls := .type "list", data := .seq (slicePick vs.toArray lo hi none) } : Obj) (P := PL (slicePick vs.toArray lo hi none).toList) ⟨0, by rw [Array.toArray_toList]⟩ rfl
  exact q _ _ C'
end

section
variable {prog : Program} {w : World} {A : Around} {E : Value → Shared → Prop} {s : Shared} {mg mb : Str → Option Value} {n : Nat} {Q : Value → Shared → Prop}
set_option maxHeartbeats 4000000 in
theorem bl_call (G : Gl w mg mb s.heap) (R : Room A (n + 1)) {l : Addr} {vs : List Value} {ns : List Int} (hl : s.heap.IsList l vs.toArray) (hi : IntsAre vs ns) (hsz : ns.length ≤ 63)
    (q : ∀ B bvs h' tk, Kp s.heap h' → LAt h' B bvs → BlksAt h' bvs (blOf (foldB (numsOf ns))) → Q (.ref B) { s with heap := h', toks := tk }) : wpAny (model prog w) A (call (.ref 93) [.ref l]) Q E s := by
  have hvl := ints_len hi
  have hnl := nums_len ns
  refine enter G R rfl rfl (binds := [(Str.ofString "script", .ref l)]) rfl rfl rfl rfl rfl rfl ?_
  intro L h₁ tk C R'
  have hu : ∀ env, (A.deeper env).units < cLine := fun env => by have := R.u; show A.units + 3 < 9900; omega
  -- headers
  refine sAssign rfl (list5D (h₀ := s.heap) (L := L) rfl ?_)
  refine constS (l := [35]) rfl fun t1 tk1 => constS (l := []) rfl fun t2 tk2 => constS (l := [32, 32, 32, 32, 35]) rfl fun t3 tk3 => constS (l := [35, 35]) rfl fun t4 tk4 => constS (l := [32, 32, 32, 32]) rfl fun t5 tk5 => ?_
  refine ⟨_, _, C, fun hd' h6 C k6 => stL C rfl rfl fun h7 tk7 C => ?_⟩
  generalize hhv : [Value.str (S [35]) t1, .str (S []) t2, .str (S [32, 32, 32, 32, 35]) t3, .str (S [35, 35]) t4, .str (S [32, 32, 32, 32]) t5] = hvs at C
  have hvs' : StrsAre hvs (heads.map S) := by
    rw [← hhv]
    exact .cons _ _ (.cons _ _ (.cons _ _ (.cons _ _ (.cons _ _ .nil))))
  replace C := C.re (bs' := [(Str.ofString "headers", .ref hd'), (Str.ofString "script", .ref l)]) ⟨rfl, rfl, trivial⟩
  -- numbers
  refine sAssign rfl ?_
  refine wpAny_mono (Q := fun v s' => ∃ nl nvs tk h', v = .ref nl ∧ s' = { s with heap := h', toks := tk } ∧ IntsAre nvs (numsOf ns) ∧ Cx s.heap L [(Str.ofString "headers", .ref hd'), (Str.ofString "script", .ref l)] [(nl, PL nvs), (hd', PL hvs)] h') ?_ ?_ fun _ _ e => e
  · have hl7 : h7.IsList l vs.toArray := hl.at fun o e => C.keep _ o e
    refine wpAny_IfExp (wpAny_isTrue_Compare1 (callB1 (id := "len") rfl (nmB C G rfl rfl (by decide) rfl rfl rfl ⟨rfl, nmL C rfl rfl rfl rfl (len_I hl7 (by omega) fun t8 tk8 => ?_)⟩)))
    refine constI fun t9 tk9 => PySem.P.gt_int (wpAny_truthy_bool ?_)
    with_reducible refine br ?_ ?_
    · intro hg
      have hg : 1 < ns.length := by have := of_decide_eq_true hg; omega
      refine slice_I (h₀ := s.heap) (L := L) (nmL C rfl rfl rfl rfl ?_)
      refine partC (constI fun t10 tk10 => partC (constI fun t11 tk11 => ?_))
      refine ⟨l, vs, some 1, some 61, _, _, _, rfl, hl7, by omega, .int 1 _, .int 61 _, slice_1_61, C, fun nl h12 C => ⟨nl, _, _, h12, rfl, rfl, ?_, C⟩⟩
      unfold numsOf
      rw [if_pos hg]
      exact ints_take (ints_drop hi 1) 60
    · intro hg
      have hg : ¬ 1 < ns.length := by have := of_decide_eq_false hg; omega
      refine list6D (h₀ := s.heap) (L := L) rfl ?_
      refine constI fun u1 tk1 => constI fun u2 tk2 => constI fun u3 tk3 => constI fun u4 tk4 => constI fun u5 tk5 => constI fun u6 tk6 => ?_
      refine ⟨_, _, C, fun nl h12 C k12 => ⟨nl, _, _, h12, rfl, rfl, ?_, C⟩⟩
      unfold numsOf
      rw [if_neg hg]
      exact .cons _ _ (.cons _ _ (.cons _ _ (.cons _ _ (.cons _ _ (.cons _ _ .nil)))))
  intro v s' hvs0
  obtain ⟨nl, nvs, tk13, h13, hve, hse, hin, C⟩ := hvs0
  subst hve hse
  refine stL C rfl rfl fun h14 tk14 C => ?_
  -- blocks
  refine sAssign rfl (nilL C fun B h15 C k15 => stL C rfl rfl fun h16 tk16 C => ?_)
  -- for
  generalize hnn : numsOf ns = nn at hin q hnl
  have hnvl := ints_len hin
  refine sForL (h₀ := s.heap) (L := L) R'.hh (by intro _; rfl) (nmL C rfl rfl rfl rfl ?_)
  refine ⟨nl, nvs, fun i bs rs g => ∃ core, bs = [(Str.ofString "headers", .ref hd'), (Str.ofString "blocks", .ref B)] ∧ rs = core ++ [(nl, PL nvs), (hd', PL hvs)] ∧ g = s.gens ∧ BSt B i (foldB (nn.take i)) core, _, _, rfl,
    C.re (bs' := [(Str.ofString "headers", .ref hd'), (Str.ofString "blocks", .ref B)]) ⟨rfl, rfl, trivial⟩, ⟨[(B, PL [])], rfl, rfl, rfl, rfl⟩, ?_, ?_, ?_⟩
  · rintro i bs rs g h ⟨core, rfl, rfl, _, _⟩ C
    exact C.lat (List.mem_append_right _ (.head _))
  · intro i v bs rs g h tk I hv hP C
    obtain ⟨core, hbs, hrs, hgs, hst⟩ := hP
    subst hbs hrs hgs
    obtain ⟨x, tx, hve, hxn⟩ := ints_at hin hv
    subst hve
    have hil : i < nn.length := by
      rw [← hnvl]
      exact (List.getElem?_eq_some_iff.mp hv).1
    have hok := foldOkB (nn.take i)
    have hnext : foldB (nn.take (i + 1)) = stepB (foldB (nn.take i)) x := by rw [List.take_add_one, hxn]; exact foldB_snoc _ _
    refine wpAny_assign_Name (stL C rfl rfl fun h17 tk17 C => ?_)
    have C1 := (C.re (bs' := [(Str.ofString "headers", .ref hd'), (Str.ofString "blocks", .ref B), (Str.ofString "x", .int x tx)]) ⟨rfl, rfl, rfl, trivial⟩).perm List.perm_middle
    refine bl_turn (i := i) (st := foldB (nn.take i)) (hvs := hvs) rfl rfl hst (by omega) ?_ (hu _) (.tail _ (.tail _ (.head _))) hvs' C1 ?_
    · intro pre H rows row e
      have := hok.good (H, rows ++ [row]) (by rw [e]; simp [blOf])
      exact hs_len this.1
    · intro h18 tk18 core' hst' C2
      rw [← hnext] at hst'
      exact flw_next ⟨_, _, h18, tk18, s.gens, rfl, ⟨core', rfl, rfl, rfl, hst'⟩, C2.perm List.perm_middle.symm⟩
  · intro bs rs g h tk hP C
    obtain ⟨core, hbs, hrs, hgs, hst⟩ := hP
    subst hbs hrs hgs
    rw [hnvl, List.take_length] at hst
    refine sReturn (nmL C rfl rfl rfl rfl ?_)
    generalize foldB nn = st at hst q
    cases st with
    | none =>
      have hc : core = [(B, PL [])] := hst
      subst hc
      exact q B [] h tk C.keep (C.lat (.head _)) ⟨rfl, fun i v e => by simp at e⟩
    | some st =>
      obtain ⟨pre, H, rows, row⟩ := st
      obtain ⟨pvs, tup, ra, ro, rv, wvs, t, old, hc, hpl, htup, hbl⟩ := hst.blk
      subst hc
      exact q B (pvs ++ [.ref tup]) h tk C.keep (C.lat (.head _)) (hbl h (C.told fun r hr => List.mem_append_left _ (.tail _ hr)))
end
end Mine
end

section
set_option maxRecDepth 100000
set_option linter.unusedVariables false
namespace Mine
open PySem PySem.W PySem.Calls PyProof.Rows PySem.Builtin PySem.Builtin.Str

/-- lists and tuples stay -/
def Ks (h h' : Heap) : Prop := ∀ b o vs n, h.get? b = some o → o.data = .seq vs n → h'.get? b = some o
theorem Ks.of {h h' : Heap} (k : Kp h h') : Ks h h' := fun b o _ _ e _ => k b o e
theorem Ks.trans {h h' h'' : Heap} (k : Ks h h') (k' : Ks h' h'') : Ks h h'' := fun b o vs n e d => k' b o vs n (k b o vs n e d) d
theorem Ks.ofKq {h h' : Heap} (t : ∃ o, h.get? 60 = some o ∧ Tab o) (k : Kq h h') : Ks h h' := fun b o vs n e d => by
  refine k.1 b o (fun hb => ?_) e
  obtain ⟨o', e', ps, ht, _⟩ := t
  rw [hb, e'] at e
  cases e
  rw [ht] at d
  cases d
theorem LAt.keepsS {h h' : Heap} {l : Addr} {vs : List Value} (x : LAt h l vs) (k : Ks h h') : LAt h' l vs := let ⟨n, e⟩ := x; ⟨n, k _ _ _ _ e rfl⟩
theorem TAt.keepsS {h h' : Heap} {l : Addr} {vs : List Value} (x : TAt h l vs) (k : Ks h h') : TAt h' l vs := let ⟨n, e⟩ := x; ⟨n, k _ _ _ _ e rfl⟩
theorem RowAt.keepsS {h h' : Heap} {v : Value} {ws : List (List Nat)} (x : RowAt h v ws) (k : Ks h h') : RowAt h' v ws := let ⟨a, vs, e, l, s⟩ := x; ⟨a, vs, e, l.keepsS k, s⟩
theorem RowsAt.keepsS {h h' : Heap} {vs : List Value} {rows : List (List (List Nat))} (x : RowsAt h vs rows) (k : Ks h h') : RowsAt h' vs rows :=
  ⟨x.1, fun i v e => let ⟨ws, e', r⟩ := x.2 i v e; ⟨ws, e', r.keepsS k⟩⟩
theorem BlkAt.keepsS {h h' : Heap} {v : Value} {b : Blk} (x : BlkAt h v b) (k : Ks h h') : BlkAt h' v b := let ⟨a, r, t, rvs, e, ta, l, rr⟩ := x; ⟨a, r, t, rvs, e, ta.keepsS k, l.keepsS k, rr.keepsS k⟩
theorem BlksAt.keepsS {h h' : Heap} {vs : List Value} {bl : List Blk} (x : BlksAt h vs bl) (k : Ks h h') : BlksAt h' vs bl :=
  ⟨x.1, fun i v e => let ⟨ws, e', r⟩ := x.2 i v e; ⟨ws, e', r.keepsS k⟩⟩
/-- a list of blocks in the heap -/
def BAt (h : Heap) (B : Addr) (bl : List Blk) : Prop := ∃ bvs, LAt h B bvs ∧ BlksAt h bvs bl
theorem BAt.keepsS {h h' : Heap} {B : Addr} {bl : List Blk} (x : BAt h B bl) (k : Ks h h') : BAt h' B bl := let ⟨bvs, a, b⟩ := x; ⟨bvs, a.keepsS k, b.keepsS k⟩
section
variable {M : Model} {A : Around} {E : Value → Shared → Prop} {s : Shared} {name : Str} {scope : Scope} {L a : Addr} {cd : Value} {h₀ : Heap} {bs : List (Str × Value)} {rs : Rs}
theorem stLS {x : Str} {v : Value} {Q : Unit → Shared → Prop} (C : Cx h₀ L bs rs s.heap) (hl : scope.names.lookup x = some .local) (hk : scope.kind = .function)
    (q : ∀ h' tk, Cx h₀ L (put x v bs) rs h' → Ks s.heap h' → Q () { s with heap := h', toks := tk }) : wpAny M A (storeName (envOf name scope L a cd) x v) Q E s := by
  obtain ⟨m, F, hm⟩ := id C.fr
  refine wpAny_storeName_local hl F.ns (fun h' hn hs => q h' _ (C.set (fun m' hm' => by
      obtain ⟨o, es, ep, e1, e2, e3⟩ := F.ns
      obtain ⟨o', es', ep', f1, f2, f3⟩ := hm'
      rw [e1] at f1; cases f1
      rw [e2] at f2; cases f2
      have : m' = m := funext fun n => by rw [← e3.2 n, ← f3.2 n]
      subst this
      exact hn) hs) fun b o vs n e d => ?_)
    (by show (scope.kind == .class || (scope.kind == .module && L != mainGlobals)) = false; rw [hk]; rfl)
  refine (hs.2 b fun hb => ?_).trans e
  obtain ⟨oL, es, ep, e1, e2, _⟩ := F.ns
  rw [show b = L from hb, e1] at e
  cases e
  rw [e2] at d
  cases d
end
section
variable {prog : Program} {w : World} {A : Around} {E : Value → Shared → Prop} {s : Shared} {t u : Tok} {a b : List Nat} {Q : Value → Shared → Prop}
theorem eq_SE {r : Bool} (hr : (a == b) = r) (q : Q (.bool r) s) : wpAny (model prog w) A (compareOp .Eq (.str (S a) t) (.str (S b) u)) Q E s := by
  subst hr; exact eq_S q
end
def headI (ns : List Int) : Int := match ns with | [] => 0 | x :: _ => x
section
variable {prog : Program} {w : World} {A : Around} {E : Value → Shared → Prop} {s : Shared} {mg mb : Str → Option Value} {n : Nat} {Q : Value → Shared → Prop}
set_option maxHeartbeats 8000000 in
theorem law_call (K : Ck w mg mb s) (R : Room A (n + 6)) {l : Addr} {vs : List Value} {ns : List Int} (hl : s.heap.IsList l vs.toArray) (hi : IntsAre vs ns) (hsz : ns.length ≤ 63)
    (q : ∀ h' tk g, Kq s.heap h' → AllBare g → Q (.bool true) { s with heap := h', toks := tk, gens := g }) : wpAny (model prog w) A (call (.ref 126) [.ref l]) Q E s := by
  have hok := foldOkB (numsOf ns)
  have hnl := nums_len ns
  have hpl : (pageT (blOf (foldB (numsOf ns)))).length ≤ 1440 := by have := hok.wt; omega
  generalize hbl : blOf (foldB (numsOf ns)) = bl at hpl
  have hgood : ∀ b ∈ bl, GoodB b := by rw [← hbl]; exact hok.good
  have hadj : AdjOk bl := by rw [← hbl]; exact hok.adj
  have hgH : ∀ b ∈ bl, b.1 ∈ Hs := fun b hb => (hgood b hb).1
  have hgR : ∀ b ∈ bl, ∀ ws ∈ b.2, GoodR ws := fun b hb ws hw => ((hgood b hb).2.2 ws hw).1
  have hrl : ∀ lim, (pageT (bl.map (refB lim))).length ≤ 18720 := fun lim => by have := ref_len (lim := lim) hadj hgood; omega
  have hgood2 : ∀ lim, ∀ b ∈ bl.map (refB lim), GoodB b := by
    intro lim b hb
    obtain ⟨c, hc, rfl⟩ := List.mem_map.mp hb
    exact refB_good (hgood c hc)
  have hvl := ints_len hi
  obtain ⟨hd0, hhd⟩ : ∃ x, headI ns = x := ⟨_, rfl⟩
  obtain ⟨lim, hlim⟩ : ∃ x, hd0 % 60 - 4 = x := ⟨_, rfl⟩
  obtain ⟨oth, hoth⟩ : ∃ x, hd0 / 60 % 60 - 4 = x := ⟨_, rfl⟩
  have hbare := K.bare
  have htab := K.tab
  have hlh : (hid s.heap).IsList l vs.toArray := by
    obtain ⟨o, ho, hc, n, hd⟩ := hl
    refine ⟨o, hideAll_get _ ho ?_, hc, n, hd⟩
    simp only [List.mem_singleton]
    intro e
    obtain ⟨o', e', ps, ht, _⟩ := htab
    rw [e, e'] at ho
    cases ho
    rw [ht] at hd
    cases hd
  refine enter2 K R rfl rfl (binds := [(Str.ofString "script", .ref l)]) rfl rfl rfl rfl rfl rfl ?_
  intro L h₁ tk G Mm C R'
  have hu : ∀ env, (A.deeper env).units < cLine := fun env => by have := R.u; show A.units + 3 < 9900; omega
  -- head
  refine sAssign rfl ?_
  refine wpAny_mono (Q := fun v s' => ∃ t tk h', v = .int hd0 t ∧ s' = { s with heap := h', toks := tk } ∧ Cx (hid s.heap) L [(Str.ofString "script", .ref l)] [(60, Tab)] h') ?_ ?_ fun _ _ e => e
  · refine wpAny_IfExp (wpAny_isTrue_Compare1 (nmL C rfl rfl rfl rfl (nilL C fun l2 h2 C2 k2 => ?_)))
    refine ne_nil_I (hlh.at fun o e => C2.keep _ o e) (C2.lat (.head _)) (hu _) (wpAny_truthy_bool ?_)
    replace C := C2.drop rfl
    with_reducible refine br ?_ ?_
    · intro he
      cases hi with
      | nil => cases he
      | cons x t hi =>
        refine Subscript_ (nmL C rfl rfl rfl rfl (constI fun t3 tk3 => ?_))
        exact idx_I (k := 0) (hlh.at fun o e => C.keep _ o e) (by omega) rfl (by with_unfolding_all rfl) ⟨t, _, _, by rw [← hhd]; rfl, rfl, C⟩
    · intro he
      cases hi with
      | nil => exact constI fun t3 tk3 => ⟨t3, _, _, by rw [← hhd]; rfl, rfl, C⟩
      | cons x t hi => cases he
  intro v s' hvs
  obtain ⟨th, tk4, h4, hve, hse, C⟩ := hvs
  subst hve hse
  refine stL C rfl rfl fun h5 tk5 C => ?_
  -- limit, other
  refine sAssign rfl (wpAny_BinOp (wpAny_BinOp (nmL C rfl rfl rfl rfl (constI fun t6 tk6 => modI (by omega) (by omega) rfl fun t7 tk7 => ?_))))
  refine constI fun t8 tk8 => subI hlim fun t9 tk9 => stL C rfl rfl fun h10 tk10 C => ?_
  refine sAssign rfl (wpAny_BinOp (wpAny_BinOp (wpAny_BinOp (nmL C rfl rfl rfl rfl (constI fun t11 tk11 => divI (by omega) (by omega) rfl fun t12 tk12 => ?_)))))
  refine constI fun t13 tk13 => modI (by omega) (by omega) rfl fun t14 tk14 => constI fun t15 tk15 => subI hoth fun t16 tk16 => stL C rfl rfl fun h17 tk17 C => ?_
  replace C := C.re (bs' := [(Str.ofString "script", .ref l), (Str.ofString "limit", .int lim t9), (Str.ofString "other", .int oth t16)]) ⟨rfl, rfl, rfl, trivial⟩
  -- blocks
  refine sAssign rfl (callF1 (f := 93) (mg := mg) (mb := mb) rfl rfl rfl (nmG C G (v := .ref 93) rfl rfl rfl rfl ⟨rfl, ?_⟩))
  refine nmL C rfl rfl rfl rfl ⟨G.keeps C.keep, bl_call (n := n + 4) (G.keeps C.keep) R' (hlh.at fun o e => C.keep _ o e) hi hsz fun B bvs h18 tk18 k18 hB hBl => ?_⟩
  rw [hbl] at hBl
  have hBA : BAt h18 B bl := ⟨bvs, hB, hBl⟩
  replace C := C.keeps k18
  refine stLS C rfl rfl fun h19 tk19 C k19 => ?_
  replace hBA := hBA.keepsS k19
  replace C := C.re (bs' := [(Str.ofString "limit", .int lim t9), (Str.ofString "other", .int oth t16), (Str.ofString "blocks", .ref B)]) ⟨rfl, rfl, rfl, trivial⟩
  -- once
  refine sAssign rfl (callF2 (f := 119) (mg := mg) (mb := mb) rfl rfl rfl (nmG C G (v := .ref 119) rfl rfl rfl rfl ⟨rfl, ?_⟩))
  obtain ⟨bvs', hB1, hB2⟩ := hBA
  refine callF1 (f := 100) (mg := mg) (mb := mb) rfl rfl rfl (nmG C G (v := .ref 100) rfl rfl rfl rfl ⟨rfl, ?_⟩)
  refine nmL C rfl rfl rfl rfl ⟨G.keeps C.keep, page_call (n := n + 4) (G.keeps C.keep) R' hB1 hB2 hgH hgR rfl (by omega) fun h20 t20 tk20 k20 => ?_⟩
  have hBA : BAt h20 B bl := ⟨bvs', hB1.keeps k20, hB2.keeps k20⟩
  replace C := C.keeps k20
  refine nmL C rfl rfl rfl rfl ⟨G.keeps C.keep, ?_⟩
  refine run_call (n := n) (by exact Ck.of G Mm C hbare) R' (lines_good hgood) (pageT_jn hgood) (by omega) (by rw [weight_page hgood]; omega) (run_page (lim := oth) hadj hgood) fun h21 t21 tk21 g21 k21 b21 => ?_
  replace hBA := hBA.keepsS (Ks.ofKq (C.get (.head _)) k21)
  replace C := C.kq k21
  refine stLS C rfl rfl fun h22 tk22 C k22 => ?_
  replace hBA := hBA.keepsS k22
  have hr1 := hrl oth
  have hr2 := hrl lim
  -- if once != due
  obtain ⟨bvs2, hB1, hB2⟩ := hBA
  refine sIf (wpAny_isTrue_Compare1 (nmL C rfl rfl rfl rfl ?_))
  refine callF2 (f := 105) (mg := mg) (mb := mb) rfl rfl rfl (nmG C G (v := .ref 105) rfl rfl rfl rfl ⟨rfl, ?_⟩)
  refine nmL C rfl rfl rfl rfl (nmL C rfl rfl rfl rfl ⟨G.keeps C.keep, ?_⟩)
  refine due_call (n := n + 4) (G.keeps C.keep) R' hB1 hB2 hgH hgR rfl (by omega) fun h23 t23 tk23 k23 => ?_
  have hBA : BAt h23 B bl := ⟨bvs2, hB1.keeps k23, hB2.keeps k23⟩
  replace C := C.keeps k23
  refine ne_S (wpAny_truthy_bool ?_)
  with_reducible refine br ?_ ?_
  · intro he
    simp at he
  intro _
  refine sNil (then_next ?_)
  -- return
  refine sReturn (wpAny_Compare1 ?_)
  refine callF2 (f := 119) (mg := mg) (mb := mb) rfl rfl rfl (nmG C G (v := .ref 119) rfl rfl rfl rfl ⟨rfl, ?_⟩)
  refine nmL C rfl rfl rfl rfl (nmL C rfl rfl rfl rfl ⟨G.keeps C.keep, ?_⟩)
  refine run_call (n := n) (ls := linesT (bl.map (refB oth))) (by exact Ck.of G Mm C b21) R' (lines_good (hgood2 oth)) (pageT_jn (hgood2 oth)) (by omega) (by rw [weight_page (hgood2 oth)]; omega) (run_twice (lim := lim) (other := oth) hadj hgood) fun h24 t24 tk24 g24 k24 b24 => ?_
  replace hBA := hBA.keepsS (Ks.ofKq (C.get (.head _)) k24)
  replace C := C.kq k24
  obtain ⟨bvs3, hB1, hB2⟩ := hBA
  refine callF2 (f := 105) (mg := mg) (mb := mb) rfl rfl rfl (nmG C G (v := .ref 105) rfl rfl rfl rfl ⟨rfl, ?_⟩)
  refine nmL C rfl rfl rfl rfl (nmL C rfl rfl rfl rfl ⟨G.keeps C.keep, ?_⟩)
  refine due_call (n := n + 4) (G.keeps C.keep) R' hB1 hB2 hgH hgR rfl (by omega) fun h25 t25 tk25 k25 => ?_
  replace C := C.keeps k25
  exact eq_SE (r := true) (by simp) (q h25 tk25 g24 C.back b24)
end
end Mine
end

section
open PySem PySem.W PyProof.Rows
namespace Mine
theorem oldK_of {h h' : Heap} (hc : CodeHd h 64 60) (t : h.get? 60 = some (tabObj #[])) (k : Kq h h') : OldK h h' := by
  obtain ⟨kx, o', e', ps, ht, _⟩ := k
  have ic : h.TableAt 64 60 #[] := hc.tab t
  refine ⟨fun b o e => ?_, fun b o e => ?_⟩
  · by_cases hb : b = 60
    · subst hb
      rw [t] at e
      cases e
      exact .inr (.inl ⟨ic.isCodeTable, rfl, #[], ps, rfl, by rw [e', ht]; simp [tabObj]⟩)
    · exact .inl (kx b o hb e)
  · by_cases hb : b = 60
    · subst hb; exact ⟨o', e'⟩
    · exact ⟨o, kx b o hb e⟩
set_option maxRecDepth 100000 in
set_option maxHeartbeats 8000000 in
/-- the whole statement -/
theorem main : PySem.Challenge.rw_lg0019_01.Holds := by
  refine Mine.hd ?_
  intro w s₀ s₁ mg mb G Y fa o pm cd doc dV kV ho hd hcd hD hmg hg args vals as hpre hlay hrd hwl hlo
  have KX := kIn_of Y
  refine Ground.open G ?_
  intro T B D TE TW
  refine guard_noD D (by decide +kernel) ?_
  clear D
  have hT : TabsAt [(64, 60)] s₁.heap := List.forall_mem_cons.mpr ⟨tab_of (x := PySem.Str.ofString "reformat_comment") (c := 64) (P := 60) T KX rfl (by kernel_rfl), fun _ h => nomatch h⟩
  have hfa : fa = 126 := by
    have e1 : mg (PySem.Str.ofString "law") = some (.ref 126) := mg_of KX T.g rfl
    have e2 : mg (PySem.Str.ofString "law") = some (.ref fa) := hmg
    rw [e1] at e2
    injection e2 with e2
    injection e2 with e2
    exact e2.symm
  subst hfa
  have K : Mine.Ck w mg mb s₁ := by
    refine ⟨⟨ghostOf s₁.heap [(64, 60)], ⟨ghost_K hT KX (by kernel_rfl), ghost_ns hT T.g, ghost_ns hT T.b, ?_, T.builtins⟩, ⟨?_, ?_⟩, ?_, ?_⟩, ⟨_, (hT _ (.head _)).2, #[], rfl, trivial⟩, ?_⟩
    · obtain ⟨mc, a, r⟩ := T.nolimit
      exact ⟨mc, ghost_ns hT a, r⟩
    · obtain ⟨bm, ob, a, b, c, d, e, f⟩ := T.bmain
      exact ⟨bm, ob, ghost_ns hT T.g, a, b, ghost_get hT c (fun q => by rw [q] at d; cases d), d, e, f⟩
    · exact (ghost_code hT).1
    · exact hideAll_none _ (.head _)
    · exact fun b o e => of_hideAll _ e
    · exact .of_eq hg
  clear hd hcd hD ho hmg
  wrow_args hpre hlay hrd hwl hlo
  rename IntsAre _ _ => hI
  rename Heap.IsList _ _ _ => hL
  rename ¬ _ => hc
  refine Mine.law_call (n := 0) K ⟨rfl, by decide, by decide⟩ hL hI (by omega) fun h' tk g kq bg => ?_
  refine ⟨.inl ⟨_, .bool true, [], rfl, ?_, .bool true, ?_, fun _ => ⟨List.nodup_nil, fun a h => nomatch h⟩⟩, Mine.oldK_of (hT _ (.head _)).1 (hT _ (.head _)).2 kq, rfl, bg⟩
  · intro cls
    rfl
  · wrow_post
end Mine
end

theorem PySem.Challenge.cw_lg0019_01_holds : PySem.Challenge.rw_lg0019_01.Holds := by
  exact Mine.main
